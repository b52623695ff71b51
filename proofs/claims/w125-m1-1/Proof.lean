import JvmDerived
import JvmDerived.Pilot.@@N@@Statement
import JvmDerived.Pilot.@@N@@Code
set_option linter.unusedVariables false
set_option linter.unusedSimpArgs false
namespace Jvm.RoadKit
open Sem ClassFile Op Lib Jvm.Stand Jvm.Free Jvm.LawKit
section New
variable {p : Program} {l : Launch} {e : Env} {R : Room} {s : State} {m : MethodId} {args : Array Value} {below : List Frame} {meth : Method} {c : Code} {T : State} {locs : List Loc} {cells slots : Nat}
theorem retI (X : Stand p l e R s m args below meth c T locs cells slots) (hx : p.tables.exec = Jvm.exec) {pc : Nat} {Ls : Array Slot} {z : Int32} {rest : List Value} (hret : meth.sig.returnType = some .int) (hd : decode c.code pc = .ok (.ireturn, 1)) {fs : List Frame}
    (hl : ∀ (f : JFrame) (acts : List Action), f.method = m → f.locked = none → f.entered = [] → (doReturn e (T.setTop f) acts (some (.int z))).1 = T.setFrames fs) : Steps p.tables e below (T.setTop (mkF m pc Ls (.int z :: rest))) (T.setFrames fs) := by
  have hm' : T.vm.method? m = some meth := X.method'
  have hn : narrow .int (.int z) = .int z := rfl
  show Steps p.tables e below (T.setTop { method := m, pc := pc, locals := Ls, stack := _ :: rest, locked := none }) _
  jvm_step X.here [X.here.top, hx, hd, hm', hret, hn]
  first | (intro acts; rw [hl _ acts rfl rfl rfl]) | rw [hl _ _ rfl rfl rfl]
  exact Steps.refl _
end New
section OwnKit
/-- where the walk of a body stands: the body's own facts, the heap, and that nothing old was written -/
def OS (B : ByteArray) (mL : Nat) (own nm : String) (rt : Option FieldType) (Z : State) (n0 : Nat) (p : Program) (l : Launch) (e : Env) (R : Room) (s : State) (m : MethodId) (args : Array Value) (below : List Frame) (meth : Method) (c : Code) (T : State) (h : Heap) (cells slots : Nat) : Prop :=
  (p.tables.exec = Jvm.exec ∧ c.code = B ∧ c.maxLocals = mL ∧ s.vm.findClass own = some m.cls ∧ meth.name = nm ∧ meth.sig.returnType = rt ∧ meth.locks = false ∧ Z.Warmed39 s.vm) ∧ T.heap = h ∧ ∃ locs, Fr n0 locs ∧ Stand p l e R s m args below meth c T locs cells slots
/-- from here the body comes to its end, with what Q says -/
def OG (p : Program) (e : Env) (below : List Frame) (s : State) (n0 rc rs : Nat) (Q : Option Value → Heap → Prop) (A : State) : Prop :=
  ∃ s₂ o, Steps p.tables e below A s₂ ∧ s₂.status = .running ∧ Ended s₂ below o ∧ ∃ v L, o = .returned v ∧ (Q v s₂.heap ∧ Fr n0 L) ∧ FrameEnd s o s₂ L rc rs
/-- a body's contract -/
def OM (l : Launch) (y : MethodName) (B : ByteArray) (mL : Nat) (rt : Option FieldType) (rm : Room) (ws : List Cond) (Z : State) (as' : Array Value) (h0 : Heap) (n0 : Nat) (Q : Option Value → Heap → Prop) : Prop :=
  MetFree l y (head1 (Cond.code y B mL rt :: ws) rm) (fun a U => a = as' ∧ Z.Warmed39 U.vm ∧ U.heap = h0) (fun _ _ _ _ _ => True) (fun _ U o U' => ∃ v L, o = .returned v ∧ (Q v U'.heap ∧ Fr n0 L) ∧ FrameEnd U o U' L rm.cells rm.slots)
variable {p : Program} {l : Launch} {e : Env} {R : Room} {s : State} {m : MethodId} {args : Array Value} {below : List Frame} {meth : Method} {c : Code} {T : State} {cells slots : Nat} {Z : State} {h : Heap} {n0 : Nat} {B : ByteArray} {mL : Nat} {own nm : String} {rt : Option FieldType} {rc rs : Nat} {Q : Option Value → Heap → Prop} {pc : Nat} {Ls : Array Slot} {st : List Value} {a0 : Array Value}
theorem OG.pre {A A' : State} (h : ∀ t, Steps p.tables e below A' t → Steps p.tables e below A t) (k : OG p e below s n0 rc rs Q A') : OG p e below s n0 rc rs Q A := by
  obtain ⟨s₂, o, h1, r⟩ := k; exact ⟨s₂, o, h _ h1, r⟩
theorem OM.of {y : MethodName} {rm : Room} {ws : List Cond} {as' : Array Value} {h0 : Heap} (hp : plainFor y = true) (hef : ∀ m, entryFrame m as' mL = mkF m 0 Ls []) (body : ∀ p e s m below meth c T, OS B mL y.cls y.name rt Z n0 p l e rm s m as' below meth c T h0 0 0 → OG p e below s n0 rm.cells rm.slots Q (T.setTop (mkF m 0 Ls []))) : OM l y B mL rt rm ws Z as' h0 n0 Q := by
  refine MetFree.of_bodySF hp hisR ?_
  intro p e s m args below meth c s₁ Bd hml0 hP hK
  obtain ⟨rfl, hZ, hh⟩ := hP
  have X0 : Stand p l e rm s m args below meth c s₁ [] 0 0 := Stand.of_body Bd
  have e0 : s₁.heap = h0 := by rw [← hh, Bd.state]; rfl
  have q := body p e s m below meth c s₁ ⟨⟨Bd.exec, Bd.bytes, hml0, findClass_of_methodNamed Bd.named, (name_of_methodNamed Bd.named Bd.method).1, Bd.returns, BodyLoose.notSynchronized Bd, hZ⟩, e0, [], Fr.nil n0, X0⟩
  rw [hef]; exact q
theorem OM.weak {y : MethodName} {rm : Room} {ws : List Cond} {as' : Array Value} {h0 : Heap} {Q' : Option Value → Heap → Prop} (hM : OM l y B mL rt rm ws Z as' h0 n0 Q) (hq : ∀ v h, Q v h → Q' v h) : OM l y B mL rt rm ws Z as' h0 n0 Q' := by
  intro p e ha hc hk s m args below hf happ hP hK
  obtain ⟨n, o, h1, h2, h3, v, L, h4, h5, h6⟩ := hM p e ha hc hk s m args below hf happ hP hK
  exact ⟨n, o, h1, h2, h3, v, L, h4, ⟨hq _ _ h5.1, h5.2⟩, h6⟩
theorem OS.heap (X : OS B mL own nm rt Z n0 p l e R s m args below meth c T h cells slots) : T.heap = h := X.2.1
theorem OS.warm (X : OS B mL own nm rt Z n0 p l e R s m args below meth c T h cells slots) : Z.Warmed39 s.vm := X.1.2.2.2.2.2.2.2
theorem OS.more {k n : Nat} (X : OS B mL own nm rt Z n0 p l e R s m args below meth c T h cells slots) (h1 : cells ≤ k) (h2 : slots ≤ n) : OS B mL own nm rt Z n0 p l e R s m args below meth c T h k n := by
  obtain ⟨h0, e1, locs, N, Y⟩ := X
  exact ⟨h0, e1, locs, N, { Y with same := Y.same.mono h1 h2 }⟩

theorem OG.iload (X : OS B mL own nm rt Z n0 p l e R s m args below meth c T h cells slots) {k : Nat} {v : Int32} (hd : decode B pc = .ok (.iload k, 2)) (hl : Ls[k]? = some (.val (.int v))) (g : OG p e below s n0 rc rs Q (T.setTop (mkF m (pc + 2) Ls (.int v :: st)))) : OG p e below s n0 rc rs Q (T.setTop (mkF m pc Ls st)) := by
  obtain ⟨⟨hx, hby, -⟩, -, locs, -, Y⟩ := X
  exact OG.pre (fun _ k => XS.iload Y.here hx rfl (hb hby hd) hl k) g
theorem OG.iloadN (X : OS B mL own nm rt Z n0 p l e R s m args below meth c T h cells slots) {k : Fin 4} {v : Int32} (hd : decode B pc = .ok (.iload_n k, 1)) (hl : Ls[k.val]? = some (.val (.int v))) (g : OG p e below s n0 rc rs Q (T.setTop (mkF m (pc + 1) Ls (.int v :: st)))) : OG p e below s n0 rc rs Q (T.setTop (mkF m pc Ls st)) := by
  obtain ⟨⟨hx, hby, -⟩, -, locs, -, Y⟩ := X
  exact OG.pre (fun _ k => XS.iloadN Y.here hx rfl (hb hby hd) hl k) g
theorem OG.lload (X : OS B mL own nm rt Z n0 p l e R s m args below meth c T h cells slots) {k : Nat} {v : Int64} (hd : decode B pc = .ok (.lload k, 2)) (hl : Ls[k]? = some (.val (.long v))) (g : OG p e below s n0 rc rs Q (T.setTop (mkF m (pc + 2) Ls (.long v :: st)))) : OG p e below s n0 rc rs Q (T.setTop (mkF m pc Ls st)) := by
  obtain ⟨⟨hx, hby, -⟩, -, locs, -, Y⟩ := X
  exact OG.pre (fun _ k => XS.lload Y.here hx rfl (hb hby hd) hl k) g
theorem OG.lloadN (X : OS B mL own nm rt Z n0 p l e R s m args below meth c T h cells slots) {k : Fin 4} {v : Int64} (hd : decode B pc = .ok (.lload_n k, 1)) (hl : Ls[k.val]? = some (.val (.long v))) (g : OG p e below s n0 rc rs Q (T.setTop (mkF m (pc + 1) Ls (.long v :: st)))) : OG p e below s n0 rc rs Q (T.setTop (mkF m pc Ls st)) := by
  obtain ⟨⟨hx, hby, -⟩, -, locs, -, Y⟩ := X
  exact OG.pre (fun _ k => XS.lloadN Y.here hx rfl (hb hby hd) hl k) g
theorem OG.aload (X : OS B mL own nm rt Z n0 p l e R s m args below meth c T h cells slots) {k : Nat} {v : Value} (hd : decode B pc = .ok (.aload k, 2)) (hl : Ls[k]? = some (.val v)) (hv : v.isRef = true) (g : OG p e below s n0 rc rs Q (T.setTop (mkF m (pc + 2) Ls (v :: st)))) : OG p e below s n0 rc rs Q (T.setTop (mkF m pc Ls st)) := by
  obtain ⟨⟨hx, hby, -⟩, -, locs, -, Y⟩ := X
  exact OG.pre (fun _ k => XS.aload Y.here hx rfl (hb hby hd) hl hv k) g
theorem OG.aloadN (X : OS B mL own nm rt Z n0 p l e R s m args below meth c T h cells slots) {k : Fin 4} {v : Value} (hd : decode B pc = .ok (.aload_n k, 1)) (hl : Ls[k.val]? = some (.val v)) (hv : v.isRef = true) (g : OG p e below s n0 rc rs Q (T.setTop (mkF m (pc + 1) Ls (v :: st)))) : OG p e below s n0 rc rs Q (T.setTop (mkF m pc Ls st)) := by
  obtain ⟨⟨hx, hby, -⟩, -, locs, -, Y⟩ := X
  exact OG.pre (fun _ k => XS.aloadN Y.here hx rfl (hb hby hd) hl hv k) g
theorem OG.istore (X : OS B mL own nm rt Z n0 p l e R s m args below meth c T h cells slots) {k : Nat} {v : Int32} {l' : Array Slot} (hd : decode B pc = .ok (.istore k, 2)) (hl : storeLocals Ls k (.int v) = some l') (g : OG p e below s n0 rc rs Q (T.setTop (mkF m (pc + 2) l' st))) : OG p e below s n0 rc rs Q (T.setTop (mkF m pc Ls (.int v :: st))) := by
  obtain ⟨⟨hx, hby, -⟩, -, locs, -, Y⟩ := X
  exact OG.pre (fun _ k => XS.istore Y.here hx rfl (hb hby hd) rfl hl k) g
theorem OG.istoreV (X : OS B mL own nm rt Z n0 p l e R s m args below meth c T h cells slots) {k : Nat} {v : Int32} {l' : Int32 → Array Slot} (hd : decode B pc = .ok (.istore k, 2)) (hl : ∀ z, storeLocals Ls k (.int z) = some (l' z)) (g : ∀ z, z = v → OG p e below s n0 rc rs Q (T.setTop (mkF m (pc + 2) (l' z) st))) : OG p e below s n0 rc rs Q (T.setTop (mkF m pc Ls (.int v :: st))) := by
  obtain ⟨⟨hx, hby, -⟩, -, locs, -, Y⟩ := X
  exact OG.pre (fun _ k => XS.istore Y.here hx rfl (hb hby hd) rfl (hl v) k) (g v rfl)
theorem OG.istoreN (X : OS B mL own nm rt Z n0 p l e R s m args below meth c T h cells slots) {k : Fin 4} {v : Int32} {l' : Array Slot} (hd : decode B pc = .ok (.istore_n k, 1)) (hl : storeLocals Ls k.val (.int v) = some l') (g : OG p e below s n0 rc rs Q (T.setTop (mkF m (pc + 1) l' st))) : OG p e below s n0 rc rs Q (T.setTop (mkF m pc Ls (.int v :: st))) := by
  obtain ⟨⟨hx, hby, -⟩, -, locs, -, Y⟩ := X
  exact OG.pre (fun _ k => XS.istoreN Y.here hx rfl (hb hby hd) rfl hl k) g
theorem OG.istoreNV (X : OS B mL own nm rt Z n0 p l e R s m args below meth c T h cells slots) {k : Fin 4} {v : Int32} {l' : Int32 → Array Slot} (hd : decode B pc = .ok (.istore_n k, 1)) (hl : ∀ z, storeLocals Ls k.val (.int z) = some (l' z)) (g : ∀ z, z = v → OG p e below s n0 rc rs Q (T.setTop (mkF m (pc + 1) (l' z) st))) : OG p e below s n0 rc rs Q (T.setTop (mkF m pc Ls (.int v :: st))) := by
  obtain ⟨⟨hx, hby, -⟩, -, locs, -, Y⟩ := X
  exact OG.pre (fun _ k => XS.istoreN Y.here hx rfl (hb hby hd) rfl (hl v) k) (g v rfl)
theorem OG.lstore (X : OS B mL own nm rt Z n0 p l e R s m args below meth c T h cells slots) {k : Nat} {v : Int64} {l' : Array Slot} (hd : decode B pc = .ok (.lstore k, 2)) (hl : storeLocals Ls k (.long v) = some l') (g : OG p e below s n0 rc rs Q (T.setTop (mkF m (pc + 2) l' st))) : OG p e below s n0 rc rs Q (T.setTop (mkF m pc Ls (.long v :: st))) := by
  obtain ⟨⟨hx, hby, -⟩, -, locs, -, Y⟩ := X
  exact OG.pre (fun _ k => XS.lstore Y.here hx rfl (hb hby hd) rfl hl k) g
theorem OG.lstoreV (X : OS B mL own nm rt Z n0 p l e R s m args below meth c T h cells slots) {k : Nat} {v : Int64} {l' : Int64 → Array Slot} (hd : decode B pc = .ok (.lstore k, 2)) (hl : ∀ z, storeLocals Ls k (.long z) = some (l' z)) (g : ∀ z, z = v → OG p e below s n0 rc rs Q (T.setTop (mkF m (pc + 2) (l' z) st))) : OG p e below s n0 rc rs Q (T.setTop (mkF m pc Ls (.long v :: st))) := by
  obtain ⟨⟨hx, hby, -⟩, -, locs, -, Y⟩ := X
  exact OG.pre (fun _ k => XS.lstore Y.here hx rfl (hb hby hd) rfl (hl v) k) (g v rfl)
theorem OG.lstoreN (X : OS B mL own nm rt Z n0 p l e R s m args below meth c T h cells slots) {k : Fin 4} {v : Int64} {l' : Array Slot} (hd : decode B pc = .ok (.lstore_n k, 1)) (hl : storeLocals Ls k.val (.long v) = some l') (g : OG p e below s n0 rc rs Q (T.setTop (mkF m (pc + 1) l' st))) : OG p e below s n0 rc rs Q (T.setTop (mkF m pc Ls (.long v :: st))) := by
  obtain ⟨⟨hx, hby, -⟩, -, locs, -, Y⟩ := X
  exact OG.pre (fun _ k => XS.lstoreN Y.here hx rfl (hb hby hd) rfl hl k) g
theorem OG.lstoreNV (X : OS B mL own nm rt Z n0 p l e R s m args below meth c T h cells slots) {k : Fin 4} {v : Int64} {l' : Int64 → Array Slot} (hd : decode B pc = .ok (.lstore_n k, 1)) (hl : ∀ z, storeLocals Ls k.val (.long z) = some (l' z)) (g : ∀ z, z = v → OG p e below s n0 rc rs Q (T.setTop (mkF m (pc + 1) (l' z) st))) : OG p e below s n0 rc rs Q (T.setTop (mkF m pc Ls (.long v :: st))) := by
  obtain ⟨⟨hx, hby, -⟩, -, locs, -, Y⟩ := X
  exact OG.pre (fun _ k => XS.lstoreN Y.here hx rfl (hb hby hd) rfl (hl v) k) (g v rfl)
theorem OG.astore (X : OS B mL own nm rt Z n0 p l e R s m args below meth c T h cells slots) {k : Nat} {v : Value} {l' : Array Slot} (hd : decode B pc = .ok (.astore k, 2)) (hv : v.isRef = true) (hl : storeLocals Ls k v = some l') (g : OG p e below s n0 rc rs Q (T.setTop (mkF m (pc + 2) l' st))) : OG p e below s n0 rc rs Q (T.setTop (mkF m pc Ls (v :: st))) := by
  obtain ⟨⟨hx, hby, -⟩, -, locs, -, Y⟩ := X
  exact OG.pre (fun _ k => XS.astore Y.here hx rfl (hb hby hd) rfl hv hl k) g
theorem OG.astoreN (X : OS B mL own nm rt Z n0 p l e R s m args below meth c T h cells slots) {k : Fin 4} {v : Value} {l' : Array Slot} (hd : decode B pc = .ok (.astore_n k, 1)) (hv : v.isRef = true) (hl : storeLocals Ls k.val v = some l') (g : OG p e below s n0 rc rs Q (T.setTop (mkF m (pc + 1) l' st))) : OG p e below s n0 rc rs Q (T.setTop (mkF m pc Ls (v :: st))) := by
  obtain ⟨⟨hx, hby, -⟩, -, locs, -, Y⟩ := X
  exact OG.pre (fun _ k => XS.astoreN Y.here hx rfl (hb hby hd) rfl hv hl k) g
theorem OG.iconst (X : OS B mL own nm rt Z n0 p l e R s m args below meth c T h cells slots) {i : Int} {z : Int32} (hd : decode B pc = .ok (.iconst i, 1)) (hz : Int32.ofInt i = z) (g : OG p e below s n0 rc rs Q (T.setTop (mkF m (pc + 1) Ls (.int z :: st)))) : OG p e below s n0 rc rs Q (T.setTop (mkF m pc Ls st)) := by
  obtain ⟨⟨hx, hby, -⟩, -, locs, -, Y⟩ := X
  subst hz
  exact OG.pre (fun _ k => XS.iconst Y.here hx rfl (hb hby hd) k) g
theorem OG.bipush (X : OS B mL own nm rt Z n0 p l e R s m args below meth c T h cells slots) {i : Int} {z : Int32} (hd : decode B pc = .ok (.bipush i, 2)) (hz : (Int8.ofInt i).toInt32 = z) (g : OG p e below s n0 rc rs Q (T.setTop (mkF m (pc + 2) Ls (.int z :: st)))) : OG p e below s n0 rc rs Q (T.setTop (mkF m pc Ls st)) := by
  obtain ⟨⟨hx, hby, -⟩, -, locs, -, Y⟩ := X
  subst hz
  exact OG.pre (fun _ k => XS.bipush Y.here hx rfl (hb hby hd) k) g
theorem OG.sipush (X : OS B mL own nm rt Z n0 p l e R s m args below meth c T h cells slots) {i : Int} {z : Int32} (hd : decode B pc = .ok (.sipush i, 3)) (hz : (Int16.ofInt i).toInt32 = z) (g : OG p e below s n0 rc rs Q (T.setTop (mkF m (pc + 3) Ls (.int z :: st)))) : OG p e below s n0 rc rs Q (T.setTop (mkF m pc Ls st)) := by
  obtain ⟨⟨hx, hby, -⟩, -, locs, -, Y⟩ := X
  subst hz
  exact OG.pre (fun _ k => XS.sipush Y.here hx rfl (hb hby hd) k) g
theorem OG.lconst (X : OS B mL own nm rt Z n0 p l e R s m args below meth c T h cells slots) {k : Fin 2} {z : Int64} (hd : decode B pc = .ok (.lconst k, 1)) (hz : Int64.ofNat k = z) (g : OG p e below s n0 rc rs Q (T.setTop (mkF m (pc + 1) Ls (.long z :: st)))) : OG p e below s n0 rc rs Q (T.setTop (mkF m pc Ls st)) := by
  obtain ⟨⟨hx, hby, -⟩, -, locs, -, Y⟩ := X
  subst hz
  exact OG.pre (fun _ q => XS.lconst Y.here hx rfl (hb hby hd) q) g
theorem OG.aconstNull (X : OS B mL own nm rt Z n0 p l e R s m args below meth c T h cells slots)  (hd : decode B pc = .ok (.aconst_null, 1))  (g : OG p e below s n0 rc rs Q (T.setTop (mkF m (pc + 1) Ls (.null :: st)))) : OG p e below s n0 rc rs Q (T.setTop (mkF m pc Ls st)) := by
  obtain ⟨⟨hx, hby, -⟩, -, locs, -, Y⟩ := X
  exact OG.pre (fun _ k => XS.aconstNull Y.here hx rfl (hb hby hd)  k) g
theorem OG.iadd (X : OS B mL own nm rt Z n0 p l e R s m args below meth c T h cells slots) {x y : Int32} (hd : decode B pc = .ok (.iadd, 1))  (g : OG p e below s n0 rc rs Q (T.setTop (mkF m (pc + 1) Ls (.int (x + y) :: st)))) : OG p e below s n0 rc rs Q (T.setTop (mkF m pc Ls (.int y :: .int x :: st))) := by
  obtain ⟨⟨hx, hby, -⟩, -, locs, -, Y⟩ := X
  exact OG.pre (fun _ k => XS.iadd Y.here hx rfl (hb hby hd) rfl k) g
theorem OG.isub (X : OS B mL own nm rt Z n0 p l e R s m args below meth c T h cells slots) {x y : Int32} (hd : decode B pc = .ok (.isub, 1))  (g : OG p e below s n0 rc rs Q (T.setTop (mkF m (pc + 1) Ls (.int (x - y) :: st)))) : OG p e below s n0 rc rs Q (T.setTop (mkF m pc Ls (.int y :: .int x :: st))) := by
  obtain ⟨⟨hx, hby, -⟩, -, locs, -, Y⟩ := X
  exact OG.pre (fun _ k => XS.isub Y.here hx rfl (hb hby hd) rfl k) g
theorem OG.imul (X : OS B mL own nm rt Z n0 p l e R s m args below meth c T h cells slots) {x y : Int32} (hd : decode B pc = .ok (.imul, 1))  (g : OG p e below s n0 rc rs Q (T.setTop (mkF m (pc + 1) Ls (.int (x * y) :: st)))) : OG p e below s n0 rc rs Q (T.setTop (mkF m pc Ls (.int y :: .int x :: st))) := by
  obtain ⟨⟨hx, hby, -⟩, -, locs, -, Y⟩ := X
  exact OG.pre (fun _ k => XS.imul Y.here hx rfl (hb hby hd) rfl k) g
theorem OG.iand (X : OS B mL own nm rt Z n0 p l e R s m args below meth c T h cells slots) {x y : Int32} (hd : decode B pc = .ok (.iand, 1))  (g : OG p e below s n0 rc rs Q (T.setTop (mkF m (pc + 1) Ls (.int (x &&& y) :: st)))) : OG p e below s n0 rc rs Q (T.setTop (mkF m pc Ls (.int y :: .int x :: st))) := by
  obtain ⟨⟨hx, hby, -⟩, -, locs, -, Y⟩ := X
  exact OG.pre (fun _ k => XS.iand Y.here hx rfl (hb hby hd) rfl k) g
theorem OG.ior (X : OS B mL own nm rt Z n0 p l e R s m args below meth c T h cells slots) {x y : Int32} (hd : decode B pc = .ok (.ior, 1))  (g : OG p e below s n0 rc rs Q (T.setTop (mkF m (pc + 1) Ls (.int (x ||| y) :: st)))) : OG p e below s n0 rc rs Q (T.setTop (mkF m pc Ls (.int y :: .int x :: st))) := by
  obtain ⟨⟨hx, hby, -⟩, -, locs, -, Y⟩ := X
  exact OG.pre (fun _ k => XS.ior Y.here hx rfl (hb hby hd) rfl k) g
theorem OG.ixor (X : OS B mL own nm rt Z n0 p l e R s m args below meth c T h cells slots) {x y : Int32} (hd : decode B pc = .ok (.ixor, 1))  (g : OG p e below s n0 rc rs Q (T.setTop (mkF m (pc + 1) Ls (.int (x ^^^ y) :: st)))) : OG p e below s n0 rc rs Q (T.setTop (mkF m pc Ls (.int y :: .int x :: st))) := by
  obtain ⟨⟨hx, hby, -⟩, -, locs, -, Y⟩ := X
  exact OG.pre (fun _ k => XS.ixor Y.here hx rfl (hb hby hd) rfl k) g
theorem OG.ishl (X : OS B mL own nm rt Z n0 p l e R s m args below meth c T h cells slots) {x y : Int32} (hd : decode B pc = .ok (.ishl, 1))  (g : OG p e below s n0 rc rs Q (T.setTop (mkF m (pc + 1) Ls (.int (x <<< (y &&& 31)) :: st)))) : OG p e below s n0 rc rs Q (T.setTop (mkF m pc Ls (.int y :: .int x :: st))) := by
  obtain ⟨⟨hx, hby, -⟩, -, locs, -, Y⟩ := X
  exact OG.pre (fun _ k => XS.ishl Y.here hx rfl (hb hby hd) rfl k) g
theorem OG.ishr (X : OS B mL own nm rt Z n0 p l e R s m args below meth c T h cells slots) {x y : Int32} (hd : decode B pc = .ok (.ishr, 1))  (g : OG p e below s n0 rc rs Q (T.setTop (mkF m (pc + 1) Ls (.int (x >>> (y &&& 31)) :: st)))) : OG p e below s n0 rc rs Q (T.setTop (mkF m pc Ls (.int y :: .int x :: st))) := by
  obtain ⟨⟨hx, hby, -⟩, -, locs, -, Y⟩ := X
  exact OG.pre (fun _ k => XS.ishr Y.here hx rfl (hb hby hd) rfl k) g
theorem OG.iushr (X : OS B mL own nm rt Z n0 p l e R s m args below meth c T h cells slots) {x y : Int32} (hd : decode B pc = .ok (.iushr, 1))  (g : OG p e below s n0 rc rs Q (T.setTop (mkF m (pc + 1) Ls (.int ((x.toUInt32 >>> (y &&& 31).toUInt32).toInt32) :: st)))) : OG p e below s n0 rc rs Q (T.setTop (mkF m pc Ls (.int y :: .int x :: st))) := by
  obtain ⟨⟨hx, hby, -⟩, -, locs, -, Y⟩ := X
  exact OG.pre (fun _ k => XS.iushr Y.here hx rfl (hb hby hd) rfl k) g
theorem OG.ladd (X : OS B mL own nm rt Z n0 p l e R s m args below meth c T h cells slots) {x y : Int64} (hd : decode B pc = .ok (.ladd, 1))  (g : OG p e below s n0 rc rs Q (T.setTop (mkF m (pc + 1) Ls (.long (x + y) :: st)))) : OG p e below s n0 rc rs Q (T.setTop (mkF m pc Ls (.long y :: .long x :: st))) := by
  obtain ⟨⟨hx, hby, -⟩, -, locs, -, Y⟩ := X
  exact OG.pre (fun _ k => XS.ladd Y.here hx rfl (hb hby hd) rfl k) g
theorem OG.lsub (X : OS B mL own nm rt Z n0 p l e R s m args below meth c T h cells slots) {x y : Int64} (hd : decode B pc = .ok (.lsub, 1))  (g : OG p e below s n0 rc rs Q (T.setTop (mkF m (pc + 1) Ls (.long (x - y) :: st)))) : OG p e below s n0 rc rs Q (T.setTop (mkF m pc Ls (.long y :: .long x :: st))) := by
  obtain ⟨⟨hx, hby, -⟩, -, locs, -, Y⟩ := X
  exact OG.pre (fun _ k => XS.lsub Y.here hx rfl (hb hby hd) rfl k) g
theorem OG.lmul (X : OS B mL own nm rt Z n0 p l e R s m args below meth c T h cells slots) {x y : Int64} (hd : decode B pc = .ok (.lmul, 1))  (g : OG p e below s n0 rc rs Q (T.setTop (mkF m (pc + 1) Ls (.long (x * y) :: st)))) : OG p e below s n0 rc rs Q (T.setTop (mkF m pc Ls (.long y :: .long x :: st))) := by
  obtain ⟨⟨hx, hby, -⟩, -, locs, -, Y⟩ := X
  exact OG.pre (fun _ k => XS.lmul Y.here hx rfl (hb hby hd) rfl k) g
theorem OG.land (X : OS B mL own nm rt Z n0 p l e R s m args below meth c T h cells slots) {x y : Int64} (hd : decode B pc = .ok (.land, 1))  (g : OG p e below s n0 rc rs Q (T.setTop (mkF m (pc + 1) Ls (.long (x &&& y) :: st)))) : OG p e below s n0 rc rs Q (T.setTop (mkF m pc Ls (.long y :: .long x :: st))) := by
  obtain ⟨⟨hx, hby, -⟩, -, locs, -, Y⟩ := X
  exact OG.pre (fun _ k => XS.land Y.here hx rfl (hb hby hd) rfl k) g
theorem OG.lor (X : OS B mL own nm rt Z n0 p l e R s m args below meth c T h cells slots) {x y : Int64} (hd : decode B pc = .ok (.lor, 1))  (g : OG p e below s n0 rc rs Q (T.setTop (mkF m (pc + 1) Ls (.long (x ||| y) :: st)))) : OG p e below s n0 rc rs Q (T.setTop (mkF m pc Ls (.long y :: .long x :: st))) := by
  obtain ⟨⟨hx, hby, -⟩, -, locs, -, Y⟩ := X
  exact OG.pre (fun _ k => XS.lor Y.here hx rfl (hb hby hd) rfl k) g
theorem OG.lxor (X : OS B mL own nm rt Z n0 p l e R s m args below meth c T h cells slots) {x y : Int64} (hd : decode B pc = .ok (.lxor, 1))  (g : OG p e below s n0 rc rs Q (T.setTop (mkF m (pc + 1) Ls (.long (x ^^^ y) :: st)))) : OG p e below s n0 rc rs Q (T.setTop (mkF m pc Ls (.long y :: .long x :: st))) := by
  obtain ⟨⟨hx, hby, -⟩, -, locs, -, Y⟩ := X
  exact OG.pre (fun _ k => XS.lxor Y.here hx rfl (hb hby hd) rfl k) g
theorem OG.lshl (X : OS B mL own nm rt Z n0 p l e R s m args below meth c T h cells slots) {x : Int64} {y : Int32} (hd : decode B pc = .ok (.lshl, 1))  (g : OG p e below s n0 rc rs Q (T.setTop (mkF m (pc + 1) Ls (.long (x <<< (y &&& 0x3f).toInt64) :: st)))) : OG p e below s n0 rc rs Q (T.setTop (mkF m pc Ls (.int y :: .long x :: st))) := by
  obtain ⟨⟨hx, hby, -⟩, -, locs, -, Y⟩ := X
  exact OG.pre (fun _ k => XS.lshl Y.here hx rfl (hb hby hd) rfl k) g
theorem OG.lshr (X : OS B mL own nm rt Z n0 p l e R s m args below meth c T h cells slots) {x : Int64} {y : Int32} (hd : decode B pc = .ok (.lshr, 1))  (g : OG p e below s n0 rc rs Q (T.setTop (mkF m (pc + 1) Ls (.long (x >>> (y &&& 0x3f).toInt64) :: st)))) : OG p e below s n0 rc rs Q (T.setTop (mkF m pc Ls (.int y :: .long x :: st))) := by
  obtain ⟨⟨hx, hby, -⟩, -, locs, -, Y⟩ := X
  exact OG.pre (fun _ k => XS.lshr Y.here hx rfl (hb hby hd) rfl k) g
theorem OG.lushr (X : OS B mL own nm rt Z n0 p l e R s m args below meth c T h cells slots) {x : Int64} {y : Int32} (hd : decode B pc = .ok (.lushr, 1))  (g : OG p e below s n0 rc rs Q (T.setTop (mkF m (pc + 1) Ls (.long ((x.toUInt64 >>> (y &&& 0x3f).toInt64.toUInt64).toInt64) :: st)))) : OG p e below s n0 rc rs Q (T.setTop (mkF m pc Ls (.int y :: .long x :: st))) := by
  obtain ⟨⟨hx, hby, -⟩, -, locs, -, Y⟩ := X
  exact OG.pre (fun _ k => XS.lushr Y.here hx rfl (hb hby hd) rfl k) g
theorem OG.idiv (X : OS B mL own nm rt Z n0 p l e R s m args below meth c T h cells slots) {x y : Int32} (hd : decode B pc = .ok (.idiv, 1)) (hy : y ≠ 0) (g : OG p e below s n0 rc rs Q (T.setTop (mkF m (pc + 1) Ls (.int (x / y) :: st)))) : OG p e below s n0 rc rs Q (T.setTop (mkF m pc Ls (.int y :: .int x :: st))) := by
  obtain ⟨⟨hx, hby, -⟩, -, locs, -, Y⟩ := X
  exact OG.pre (fun _ k => XS.idiv Y.here hx rfl (hb hby hd) rfl hy k) g
theorem OG.ldiv (X : OS B mL own nm rt Z n0 p l e R s m args below meth c T h cells slots) {x y : Int64} (hd : decode B pc = .ok (.ldiv, 1)) (hy : y ≠ 0) (g : OG p e below s n0 rc rs Q (T.setTop (mkF m (pc + 1) Ls (.long (x / y) :: st)))) : OG p e below s n0 rc rs Q (T.setTop (mkF m pc Ls (.long y :: .long x :: st))) := by
  obtain ⟨⟨hx, hby, -⟩, -, locs, -, Y⟩ := X
  exact OG.pre (fun _ k => XS.ldiv Y.here hx rfl (hb hby hd) rfl hy k) g
theorem OG.irem (X : OS B mL own nm rt Z n0 p l e R s m args below meth c T h cells slots) {x y : Int32} (hd : decode B pc = .ok (.irem, 1)) (hy : y ≠ 0) (g : OG p e below s n0 rc rs Q (T.setTop (mkF m (pc + 1) Ls (.int (x % y) :: st)))) : OG p e below s n0 rc rs Q (T.setTop (mkF m pc Ls (.int y :: .int x :: st))) := by
  obtain ⟨⟨hx, hby, -⟩, -, locs, -, Y⟩ := X
  exact OG.pre (fun _ k => iremM Y hx rfl (hb hby hd) rfl hy k) g
theorem OG.lrem (X : OS B mL own nm rt Z n0 p l e R s m args below meth c T h cells slots) {x y : Int64} (hd : decode B pc = .ok (.lrem, 1)) (hy : y ≠ 0) (g : OG p e below s n0 rc rs Q (T.setTop (mkF m (pc + 1) Ls (.long (x - x / y * y) :: st)))) : OG p e below s n0 rc rs Q (T.setTop (mkF m pc Ls (.long y :: .long x :: st))) := by
  obtain ⟨⟨hx, hby, -⟩, -, locs, -, Y⟩ := X
  exact OG.pre (fun _ k => XS.lrem Y.here hx rfl (hb hby hd) rfl hy k) g
theorem OG.ineg (X : OS B mL own nm rt Z n0 p l e R s m args below meth c T h cells slots) {x : Int32} (hd : decode B pc = .ok (.ineg, 1))  (g : OG p e below s n0 rc rs Q (T.setTop (mkF m (pc + 1) Ls (.int (-x) :: st)))) : OG p e below s n0 rc rs Q (T.setTop (mkF m pc Ls (.int x :: st))) := by
  obtain ⟨⟨hx, hby, -⟩, -, locs, -, Y⟩ := X
  exact OG.pre (fun _ k => XS.ineg Y.here hx rfl (hb hby hd) rfl k) g
theorem OG.lneg (X : OS B mL own nm rt Z n0 p l e R s m args below meth c T h cells slots) {x : Int64} (hd : decode B pc = .ok (.lneg, 1))  (g : OG p e below s n0 rc rs Q (T.setTop (mkF m (pc + 1) Ls (.long (-x) :: st)))) : OG p e below s n0 rc rs Q (T.setTop (mkF m pc Ls (.long x :: st))) := by
  obtain ⟨⟨hx, hby, -⟩, -, locs, -, Y⟩ := X
  exact OG.pre (fun _ k => XS.lneg Y.here hx rfl (hb hby hd) rfl k) g
theorem OG.i2l (X : OS B mL own nm rt Z n0 p l e R s m args below meth c T h cells slots) {x : Int32} (hd : decode B pc = .ok (.i2l, 1))  (g : OG p e below s n0 rc rs Q (T.setTop (mkF m (pc + 1) Ls (.long (x.toInt64) :: st)))) : OG p e below s n0 rc rs Q (T.setTop (mkF m pc Ls (.int x :: st))) := by
  obtain ⟨⟨hx, hby, -⟩, -, locs, -, Y⟩ := X
  exact OG.pre (fun _ k => XS.i2l Y.here hx rfl (hb hby hd) rfl k) g
theorem OG.l2i (X : OS B mL own nm rt Z n0 p l e R s m args below meth c T h cells slots) {x : Int64} (hd : decode B pc = .ok (.l2i, 1))  (g : OG p e below s n0 rc rs Q (T.setTop (mkF m (pc + 1) Ls (.int (x.toInt32) :: st)))) : OG p e below s n0 rc rs Q (T.setTop (mkF m pc Ls (.long x :: st))) := by
  obtain ⟨⟨hx, hby, -⟩, -, locs, -, Y⟩ := X
  exact OG.pre (fun _ k => XS.l2i Y.here hx rfl (hb hby hd) rfl k) g
theorem OG.i2b (X : OS B mL own nm rt Z n0 p l e R s m args below meth c T h cells slots) {x : Int32} (hd : decode B pc = .ok (.i2b, 1))  (g : OG p e below s n0 rc rs Q (T.setTop (mkF m (pc + 1) Ls (.int (x.toInt8.toInt32) :: st)))) : OG p e below s n0 rc rs Q (T.setTop (mkF m pc Ls (.int x :: st))) := by
  obtain ⟨⟨hx, hby, -⟩, -, locs, -, Y⟩ := X
  exact OG.pre (fun _ k => XS.i2b Y.here hx rfl (hb hby hd) rfl k) g
theorem OG.i2s (X : OS B mL own nm rt Z n0 p l e R s m args below meth c T h cells slots) {x : Int32} (hd : decode B pc = .ok (.i2s, 1))  (g : OG p e below s n0 rc rs Q (T.setTop (mkF m (pc + 1) Ls (.int (x.toInt16.toInt32) :: st)))) : OG p e below s n0 rc rs Q (T.setTop (mkF m pc Ls (.int x :: st))) := by
  obtain ⟨⟨hx, hby, -⟩, -, locs, -, Y⟩ := X
  exact OG.pre (fun _ k => XS.i2s Y.here hx rfl (hb hby hd) rfl k) g
theorem OG.i2c (X : OS B mL own nm rt Z n0 p l e R s m args below meth c T h cells slots) {x : Int32} (hd : decode B pc = .ok (.i2c, 1))  (g : OG p e below s n0 rc rs Q (T.setTop (mkF m (pc + 1) Ls (.int (x.toUInt32.toUInt16.toUInt32.toInt32) :: st)))) : OG p e below s n0 rc rs Q (T.setTop (mkF m pc Ls (.int x :: st))) := by
  obtain ⟨⟨hx, hby, -⟩, -, locs, -, Y⟩ := X
  exact OG.pre (fun _ k => XS.i2c Y.here hx rfl (hb hby hd) rfl k) g
theorem OG.lcmp (X : OS B mL own nm rt Z n0 p l e R s m args below meth c T h cells slots) {x y : Int64} (hd : decode B pc = .ok (.lcmp, 1))  (g : OG p e below s n0 rc rs Q (T.setTop (mkF m (pc + 1) Ls (.int (lcmpW x y) :: st)))) : OG p e below s n0 rc rs Q (T.setTop (mkF m pc Ls (.long y :: .long x :: st))) := by
  obtain ⟨⟨hx, hby, -⟩, -, locs, -, Y⟩ := X
  exact OG.pre (fun _ k => XS.lcmp Y.here hx rfl (hb hby hd) rfl k) g
theorem OG.dup (X : OS B mL own nm rt Z n0 p l e R s m args below meth c T h cells slots) {x : Value} (hd : decode B pc = .ok (.dup, 1)) (hc : x.category = 1) (g : OG p e below s n0 rc rs Q (T.setTop (mkF m (pc + 1) Ls (x :: x :: st)))) : OG p e below s n0 rc rs Q (T.setTop (mkF m pc Ls (x :: st))) := by
  obtain ⟨⟨hx, hby, -⟩, -, locs, -, Y⟩ := X
  exact OG.pre (fun _ k => XS.dup Y.here hx rfl (hb hby hd) rfl hc k) g
theorem OG.pop (X : OS B mL own nm rt Z n0 p l e R s m args below meth c T h cells slots) {x : Value} (hd : decode B pc = .ok (.pop, 1)) (hc : x.category = 1) (g : OG p e below s n0 rc rs Q (T.setTop (mkF m (pc + 1) Ls st))) : OG p e below s n0 rc rs Q (T.setTop (mkF m pc Ls (x :: st))) := by
  obtain ⟨⟨hx, hby, -⟩, -, locs, -, Y⟩ := X
  exact OG.pre (fun _ k => XS.pop Y.here hx rfl (hb hby hd) rfl hc k) g
theorem OG.dupX1 (X : OS B mL own nm rt Z n0 p l e R s m args below meth c T h cells slots) {x y : Value} (hd : decode B pc = .ok (.dup_x1, 1)) (hc : x.category = 1) (hc' : y.category = 1) (g : OG p e below s n0 rc rs Q (T.setTop (mkF m (pc + 1) Ls (x :: y :: x :: st)))) : OG p e below s n0 rc rs Q (T.setTop (mkF m pc Ls (x :: y :: st))) := by
  obtain ⟨⟨hx, hby, -⟩, -, locs, -, Y⟩ := X
  exact OG.pre (fun _ k => XS.dupX1 Y.here hx rfl (hb hby hd) rfl hc hc' k) g
theorem OG.dup2 (X : OS B mL own nm rt Z n0 p l e R s m args below meth c T h cells slots) {x y : Value} (hd : decode B pc = .ok (.dup2, 1)) (hc : x.category = 1) (hc' : y.category = 1) (g : OG p e below s n0 rc rs Q (T.setTop (mkF m (pc + 1) Ls (x :: y :: x :: y :: st)))) : OG p e below s n0 rc rs Q (T.setTop (mkF m pc Ls (x :: y :: st))) := by
  obtain ⟨⟨hx, hby, -⟩, -, locs, -, Y⟩ := X
  exact OG.pre (fun _ k => Jvm.Free.XT.dup2 Y.here hx rfl (hb hby hd) rfl hc hc' k) g
theorem OG.iinc (X : OS B mL own nm rt Z n0 p l e R s m args below meth c T h cells slots) {k : Nat} {i : Int} {x z : Int32} {l' : Array Slot} (hd : decode B pc = .ok (.iinc k i, 3)) (hl : Ls[k]? = some (.val (.int x))) (hz : Int32.ofInt i = z) (hl' : storeLocals Ls k (.int (x + z)) = some l') (g : OG p e below s n0 rc rs Q (T.setTop (mkF m (pc + 3) l' st))) : OG p e below s n0 rc rs Q (T.setTop (mkF m pc Ls st)) := by
  obtain ⟨⟨hx, hby, -⟩, -, locs, -, Y⟩ := X
  subst hz
  exact OG.pre (fun _ q => XS.iinc Y.here hx rfl (hb hby hd) hl hl' q) g
theorem OG.goto (X : OS B mL own nm rt Z n0 p l e R s m args below meth c T h cells slots) {o : Int} {pc' : Nat} (hd : decode B pc = .ok (.goto o, 3)) (hp : 0 ≤ (pc : Int) + o ∧ ((pc : Int) + o).toNat = pc') (g : OG p e below s n0 rc rs Q (T.setTop (mkF m pc' Ls st))) : OG p e below s n0 rc rs Q (T.setTop (mkF m pc Ls st)) := by
  obtain ⟨⟨hx, hby, -⟩, -, locs, -, Y⟩ := X
  exact OG.pre (fun _ q => XS.goto Y.here hx rfl (pc0 := pc) rfl (hb hby hd) hp.1 hp.2 q) g
theorem OG.icmp_lt_t (X : OS B mL own nm rt Z n0 p l e R s m args below meth c T h cells slots) {x y : Int32} {o : Int} {pc' : Nat} (hd : decode B pc = .ok (.if_icmp .lt o, 3)) (hp : 0 ≤ (pc : Int) + o ∧ ((pc : Int) + o).toNat = pc') (hq : x < y) (g : OG p e below s n0 rc rs Q (T.setTop (mkF m pc' Ls st))) : OG p e below s n0 rc rs Q (T.setTop (mkF m pc Ls (.int y :: .int x :: st))) := by
  obtain ⟨⟨hx, hby, -⟩, -, locs, -, Y⟩ := X
  exact OG.pre (fun _ q => XS.icmpYes Y.here hx rfl (pc0 := pc) rfl (hb hby hd) rfl (tlt hq).1 hp.1 hp.2 q) g
theorem OG.icmp_lt_f (X : OS B mL own nm rt Z n0 p l e R s m args below meth c T h cells slots) {x y : Int32} {o : Int} (hd : decode B pc = .ok (.if_icmp .lt o, 3)) (hq : ¬ x < y) (g : OG p e below s n0 rc rs Q (T.setTop (mkF m (pc + 3) Ls st))) : OG p e below s n0 rc rs Q (T.setTop (mkF m pc Ls (.int y :: .int x :: st))) := by
  obtain ⟨⟨hx, hby, -⟩, -, locs, -, Y⟩ := X
  exact OG.pre (fun _ q => XS.icmpNo Y.here hx rfl (hb hby hd) rfl (flt hq).1 q) g
theorem OG.icmp_lt (X : OS B mL own nm rt Z n0 p l e R s m args below meth c T h cells slots) {x y : Int32} {o : Int} {pc' : Nat} (hd : decode B pc = .ok (.if_icmp .lt o, 3)) (hp : 0 ≤ (pc : Int) + o ∧ ((pc : Int) + o).toNat = pc') (g1 : x < y → OG p e below s n0 rc rs Q (T.setTop (mkF m pc' Ls st))) (g2 : ¬ x < y → OG p e below s n0 rc rs Q (T.setTop (mkF m (pc + 3) Ls st))) : OG p e below s n0 rc rs Q (T.setTop (mkF m pc Ls (.int y :: .int x :: st))) :=
  if hq : x < y then OG.icmp_lt_t X hd hp hq (g1 hq) else OG.icmp_lt_f X hd hq (g2 hq)
theorem OG.if_lt_t (X : OS B mL own nm rt Z n0 p l e R s m args below meth c T h cells slots) {x : Int32} {o : Int} {pc' : Nat} (hd : decode B pc = .ok (.ifCond .lt o, 3)) (hp : 0 ≤ (pc : Int) + o ∧ ((pc : Int) + o).toNat = pc') (hq : x < 0) (g : OG p e below s n0 rc rs Q (T.setTop (mkF m pc' Ls st))) : OG p e below s n0 rc rs Q (T.setTop (mkF m pc Ls (.int x :: st))) := by
  obtain ⟨⟨hx, hby, -⟩, -, locs, -, Y⟩ := X
  exact OG.pre (fun _ q => XS.ifYes Y.here hx rfl (pc0 := pc) rfl (hb hby hd) rfl ((if0 _ _).trans (tlt hq).1) hp.1 hp.2 q) g
theorem OG.if_lt_f (X : OS B mL own nm rt Z n0 p l e R s m args below meth c T h cells slots) {x : Int32} {o : Int} (hd : decode B pc = .ok (.ifCond .lt o, 3)) (hq : ¬ x < 0) (g : OG p e below s n0 rc rs Q (T.setTop (mkF m (pc + 3) Ls st))) : OG p e below s n0 rc rs Q (T.setTop (mkF m pc Ls (.int x :: st))) := by
  obtain ⟨⟨hx, hby, -⟩, -, locs, -, Y⟩ := X
  exact OG.pre (fun _ q => XS.ifNo Y.here hx rfl (hb hby hd) rfl ((if0 _ _).trans (flt hq).1) q) g
theorem OG.if_lt (X : OS B mL own nm rt Z n0 p l e R s m args below meth c T h cells slots) {x : Int32} {o : Int} {pc' : Nat} (hd : decode B pc = .ok (.ifCond .lt o, 3)) (hp : 0 ≤ (pc : Int) + o ∧ ((pc : Int) + o).toNat = pc') (g1 : x < 0 → OG p e below s n0 rc rs Q (T.setTop (mkF m pc' Ls st))) (g2 : ¬ x < 0 → OG p e below s n0 rc rs Q (T.setTop (mkF m (pc + 3) Ls st))) : OG p e below s n0 rc rs Q (T.setTop (mkF m pc Ls (.int x :: st))) :=
  if hq : x < 0 then OG.if_lt_t X hd hp hq (g1 hq) else OG.if_lt_f X hd hq (g2 hq)
theorem OG.ifl_lt_t (X : OS B mL own nm rt Z n0 p l e R s m args below meth c T h cells slots) {x y : Int64} {o : Int} {pc' : Nat} (hd : decode B pc = .ok (.ifCond .lt o, 3)) (hp : 0 ≤ (pc : Int) + o ∧ ((pc : Int) + o).toNat = pc') (hq : x < y) (g : OG p e below s n0 rc rs Q (T.setTop (mkF m pc' Ls st))) : OG p e below s n0 rc rs Q (T.setTop (mkF m pc Ls (.int (lcmpW x y) :: st))) := by
  obtain ⟨⟨hx, hby, -⟩, -, locs, -, Y⟩ := X
  exact OG.pre (fun _ q => XS.ifYes Y.here hx rfl (pc0 := pc) rfl (hb hby hd) rfl ((if0 _ _).trans (tlt ((lw_lt x y).mpr hq)).1) hp.1 hp.2 q) g
theorem OG.ifl_lt_f (X : OS B mL own nm rt Z n0 p l e R s m args below meth c T h cells slots) {x y : Int64} {o : Int} (hd : decode B pc = .ok (.ifCond .lt o, 3)) (hq : ¬ x < y) (g : OG p e below s n0 rc rs Q (T.setTop (mkF m (pc + 3) Ls st))) : OG p e below s n0 rc rs Q (T.setTop (mkF m pc Ls (.int (lcmpW x y) :: st))) := by
  obtain ⟨⟨hx, hby, -⟩, -, locs, -, Y⟩ := X
  exact OG.pre (fun _ q => XS.ifNo Y.here hx rfl (hb hby hd) rfl ((if0 _ _).trans (flt (fun q => hq ((lw_lt x y).mp q))).1) q) g
theorem OG.ifl_lt (X : OS B mL own nm rt Z n0 p l e R s m args below meth c T h cells slots) {x y : Int64} {o : Int} {pc' : Nat} (hd : decode B pc = .ok (.ifCond .lt o, 3)) (hp : 0 ≤ (pc : Int) + o ∧ ((pc : Int) + o).toNat = pc') (g1 : x < y → OG p e below s n0 rc rs Q (T.setTop (mkF m pc' Ls st))) (g2 : ¬ x < y → OG p e below s n0 rc rs Q (T.setTop (mkF m (pc + 3) Ls st))) : OG p e below s n0 rc rs Q (T.setTop (mkF m pc Ls (.int (lcmpW x y) :: st))) :=
  if hq : x < y then OG.ifl_lt_t X hd hp hq (g1 hq) else OG.ifl_lt_f X hd hq (g2 hq)
theorem OG.icmp_ge_t (X : OS B mL own nm rt Z n0 p l e R s m args below meth c T h cells slots) {x y : Int32} {o : Int} {pc' : Nat} (hd : decode B pc = .ok (.if_icmp .ge o, 3)) (hp : 0 ≤ (pc : Int) + o ∧ ((pc : Int) + o).toNat = pc') (hq : ¬ x < y) (g : OG p e below s n0 rc rs Q (T.setTop (mkF m pc' Ls st))) : OG p e below s n0 rc rs Q (T.setTop (mkF m pc Ls (.int y :: .int x :: st))) := by
  obtain ⟨⟨hx, hby, -⟩, -, locs, -, Y⟩ := X
  exact OG.pre (fun _ q => XS.icmpYes Y.here hx rfl (pc0 := pc) rfl (hb hby hd) rfl (flt hq).2.1 hp.1 hp.2 q) g
theorem OG.icmp_ge_f (X : OS B mL own nm rt Z n0 p l e R s m args below meth c T h cells slots) {x y : Int32} {o : Int} (hd : decode B pc = .ok (.if_icmp .ge o, 3)) (hq : x < y) (g : OG p e below s n0 rc rs Q (T.setTop (mkF m (pc + 3) Ls st))) : OG p e below s n0 rc rs Q (T.setTop (mkF m pc Ls (.int y :: .int x :: st))) := by
  obtain ⟨⟨hx, hby, -⟩, -, locs, -, Y⟩ := X
  exact OG.pre (fun _ q => XS.icmpNo Y.here hx rfl (hb hby hd) rfl (tlt hq).2.1 q) g
theorem OG.icmp_ge (X : OS B mL own nm rt Z n0 p l e R s m args below meth c T h cells slots) {x y : Int32} {o : Int} {pc' : Nat} (hd : decode B pc = .ok (.if_icmp .ge o, 3)) (hp : 0 ≤ (pc : Int) + o ∧ ((pc : Int) + o).toNat = pc') (g1 : ¬ x < y → OG p e below s n0 rc rs Q (T.setTop (mkF m pc' Ls st))) (g2 : x < y → OG p e below s n0 rc rs Q (T.setTop (mkF m (pc + 3) Ls st))) : OG p e below s n0 rc rs Q (T.setTop (mkF m pc Ls (.int y :: .int x :: st))) :=
  if hq : x < y then OG.icmp_ge_f X hd hq (g2 hq) else OG.icmp_ge_t X hd hp hq (g1 hq)
theorem OG.if_ge_t (X : OS B mL own nm rt Z n0 p l e R s m args below meth c T h cells slots) {x : Int32} {o : Int} {pc' : Nat} (hd : decode B pc = .ok (.ifCond .ge o, 3)) (hp : 0 ≤ (pc : Int) + o ∧ ((pc : Int) + o).toNat = pc') (hq : ¬ x < 0) (g : OG p e below s n0 rc rs Q (T.setTop (mkF m pc' Ls st))) : OG p e below s n0 rc rs Q (T.setTop (mkF m pc Ls (.int x :: st))) := by
  obtain ⟨⟨hx, hby, -⟩, -, locs, -, Y⟩ := X
  exact OG.pre (fun _ q => XS.ifYes Y.here hx rfl (pc0 := pc) rfl (hb hby hd) rfl ((if0 _ _).trans (flt hq).2.1) hp.1 hp.2 q) g
theorem OG.if_ge_f (X : OS B mL own nm rt Z n0 p l e R s m args below meth c T h cells slots) {x : Int32} {o : Int} (hd : decode B pc = .ok (.ifCond .ge o, 3)) (hq : x < 0) (g : OG p e below s n0 rc rs Q (T.setTop (mkF m (pc + 3) Ls st))) : OG p e below s n0 rc rs Q (T.setTop (mkF m pc Ls (.int x :: st))) := by
  obtain ⟨⟨hx, hby, -⟩, -, locs, -, Y⟩ := X
  exact OG.pre (fun _ q => XS.ifNo Y.here hx rfl (hb hby hd) rfl ((if0 _ _).trans (tlt hq).2.1) q) g
theorem OG.if_ge (X : OS B mL own nm rt Z n0 p l e R s m args below meth c T h cells slots) {x : Int32} {o : Int} {pc' : Nat} (hd : decode B pc = .ok (.ifCond .ge o, 3)) (hp : 0 ≤ (pc : Int) + o ∧ ((pc : Int) + o).toNat = pc') (g1 : ¬ x < 0 → OG p e below s n0 rc rs Q (T.setTop (mkF m pc' Ls st))) (g2 : x < 0 → OG p e below s n0 rc rs Q (T.setTop (mkF m (pc + 3) Ls st))) : OG p e below s n0 rc rs Q (T.setTop (mkF m pc Ls (.int x :: st))) :=
  if hq : x < 0 then OG.if_ge_f X hd hq (g2 hq) else OG.if_ge_t X hd hp hq (g1 hq)
theorem OG.ifl_ge_t (X : OS B mL own nm rt Z n0 p l e R s m args below meth c T h cells slots) {x y : Int64} {o : Int} {pc' : Nat} (hd : decode B pc = .ok (.ifCond .ge o, 3)) (hp : 0 ≤ (pc : Int) + o ∧ ((pc : Int) + o).toNat = pc') (hq : ¬ x < y) (g : OG p e below s n0 rc rs Q (T.setTop (mkF m pc' Ls st))) : OG p e below s n0 rc rs Q (T.setTop (mkF m pc Ls (.int (lcmpW x y) :: st))) := by
  obtain ⟨⟨hx, hby, -⟩, -, locs, -, Y⟩ := X
  exact OG.pre (fun _ q => XS.ifYes Y.here hx rfl (pc0 := pc) rfl (hb hby hd) rfl ((if0 _ _).trans (flt (fun q => hq ((lw_lt x y).mp q))).2.1) hp.1 hp.2 q) g
theorem OG.ifl_ge_f (X : OS B mL own nm rt Z n0 p l e R s m args below meth c T h cells slots) {x y : Int64} {o : Int} (hd : decode B pc = .ok (.ifCond .ge o, 3)) (hq : x < y) (g : OG p e below s n0 rc rs Q (T.setTop (mkF m (pc + 3) Ls st))) : OG p e below s n0 rc rs Q (T.setTop (mkF m pc Ls (.int (lcmpW x y) :: st))) := by
  obtain ⟨⟨hx, hby, -⟩, -, locs, -, Y⟩ := X
  exact OG.pre (fun _ q => XS.ifNo Y.here hx rfl (hb hby hd) rfl ((if0 _ _).trans (tlt ((lw_lt x y).mpr hq)).2.1) q) g
theorem OG.ifl_ge (X : OS B mL own nm rt Z n0 p l e R s m args below meth c T h cells slots) {x y : Int64} {o : Int} {pc' : Nat} (hd : decode B pc = .ok (.ifCond .ge o, 3)) (hp : 0 ≤ (pc : Int) + o ∧ ((pc : Int) + o).toNat = pc') (g1 : ¬ x < y → OG p e below s n0 rc rs Q (T.setTop (mkF m pc' Ls st))) (g2 : x < y → OG p e below s n0 rc rs Q (T.setTop (mkF m (pc + 3) Ls st))) : OG p e below s n0 rc rs Q (T.setTop (mkF m pc Ls (.int (lcmpW x y) :: st))) :=
  if hq : x < y then OG.ifl_ge_f X hd hq (g2 hq) else OG.ifl_ge_t X hd hp hq (g1 hq)
theorem OG.icmp_gt_t (X : OS B mL own nm rt Z n0 p l e R s m args below meth c T h cells slots) {x y : Int32} {o : Int} {pc' : Nat} (hd : decode B pc = .ok (.if_icmp .gt o, 3)) (hp : 0 ≤ (pc : Int) + o ∧ ((pc : Int) + o).toNat = pc') (hq : y < x) (g : OG p e below s n0 rc rs Q (T.setTop (mkF m pc' Ls st))) : OG p e below s n0 rc rs Q (T.setTop (mkF m pc Ls (.int y :: .int x :: st))) := by
  obtain ⟨⟨hx, hby, -⟩, -, locs, -, Y⟩ := X
  exact OG.pre (fun _ q => XS.icmpYes Y.here hx rfl (pc0 := pc) rfl (hb hby hd) rfl (tlt hq).2.2.1 hp.1 hp.2 q) g
theorem OG.icmp_gt_f (X : OS B mL own nm rt Z n0 p l e R s m args below meth c T h cells slots) {x y : Int32} {o : Int} (hd : decode B pc = .ok (.if_icmp .gt o, 3)) (hq : ¬ y < x) (g : OG p e below s n0 rc rs Q (T.setTop (mkF m (pc + 3) Ls st))) : OG p e below s n0 rc rs Q (T.setTop (mkF m pc Ls (.int y :: .int x :: st))) := by
  obtain ⟨⟨hx, hby, -⟩, -, locs, -, Y⟩ := X
  exact OG.pre (fun _ q => XS.icmpNo Y.here hx rfl (hb hby hd) rfl (flt hq).2.2.1 q) g
theorem OG.icmp_gt (X : OS B mL own nm rt Z n0 p l e R s m args below meth c T h cells slots) {x y : Int32} {o : Int} {pc' : Nat} (hd : decode B pc = .ok (.if_icmp .gt o, 3)) (hp : 0 ≤ (pc : Int) + o ∧ ((pc : Int) + o).toNat = pc') (g1 : y < x → OG p e below s n0 rc rs Q (T.setTop (mkF m pc' Ls st))) (g2 : ¬ y < x → OG p e below s n0 rc rs Q (T.setTop (mkF m (pc + 3) Ls st))) : OG p e below s n0 rc rs Q (T.setTop (mkF m pc Ls (.int y :: .int x :: st))) :=
  if hq : y < x then OG.icmp_gt_t X hd hp hq (g1 hq) else OG.icmp_gt_f X hd hq (g2 hq)
theorem OG.if_gt_t (X : OS B mL own nm rt Z n0 p l e R s m args below meth c T h cells slots) {x : Int32} {o : Int} {pc' : Nat} (hd : decode B pc = .ok (.ifCond .gt o, 3)) (hp : 0 ≤ (pc : Int) + o ∧ ((pc : Int) + o).toNat = pc') (hq : 0 < x) (g : OG p e below s n0 rc rs Q (T.setTop (mkF m pc' Ls st))) : OG p e below s n0 rc rs Q (T.setTop (mkF m pc Ls (.int x :: st))) := by
  obtain ⟨⟨hx, hby, -⟩, -, locs, -, Y⟩ := X
  exact OG.pre (fun _ q => XS.ifYes Y.here hx rfl (pc0 := pc) rfl (hb hby hd) rfl ((if0 _ _).trans (tlt hq).2.2.1) hp.1 hp.2 q) g
theorem OG.if_gt_f (X : OS B mL own nm rt Z n0 p l e R s m args below meth c T h cells slots) {x : Int32} {o : Int} (hd : decode B pc = .ok (.ifCond .gt o, 3)) (hq : ¬ 0 < x) (g : OG p e below s n0 rc rs Q (T.setTop (mkF m (pc + 3) Ls st))) : OG p e below s n0 rc rs Q (T.setTop (mkF m pc Ls (.int x :: st))) := by
  obtain ⟨⟨hx, hby, -⟩, -, locs, -, Y⟩ := X
  exact OG.pre (fun _ q => XS.ifNo Y.here hx rfl (hb hby hd) rfl ((if0 _ _).trans (flt hq).2.2.1) q) g
theorem OG.if_gt (X : OS B mL own nm rt Z n0 p l e R s m args below meth c T h cells slots) {x : Int32} {o : Int} {pc' : Nat} (hd : decode B pc = .ok (.ifCond .gt o, 3)) (hp : 0 ≤ (pc : Int) + o ∧ ((pc : Int) + o).toNat = pc') (g1 : 0 < x → OG p e below s n0 rc rs Q (T.setTop (mkF m pc' Ls st))) (g2 : ¬ 0 < x → OG p e below s n0 rc rs Q (T.setTop (mkF m (pc + 3) Ls st))) : OG p e below s n0 rc rs Q (T.setTop (mkF m pc Ls (.int x :: st))) :=
  if hq : 0 < x then OG.if_gt_t X hd hp hq (g1 hq) else OG.if_gt_f X hd hq (g2 hq)
theorem OG.ifl_gt_t (X : OS B mL own nm rt Z n0 p l e R s m args below meth c T h cells slots) {x y : Int64} {o : Int} {pc' : Nat} (hd : decode B pc = .ok (.ifCond .gt o, 3)) (hp : 0 ≤ (pc : Int) + o ∧ ((pc : Int) + o).toNat = pc') (hq : y < x) (g : OG p e below s n0 rc rs Q (T.setTop (mkF m pc' Ls st))) : OG p e below s n0 rc rs Q (T.setTop (mkF m pc Ls (.int (lcmpW x y) :: st))) := by
  obtain ⟨⟨hx, hby, -⟩, -, locs, -, Y⟩ := X
  exact OG.pre (fun _ q => XS.ifYes Y.here hx rfl (pc0 := pc) rfl (hb hby hd) rfl ((if0 _ _).trans (tlt ((lw_gt x y).mpr hq)).2.2.1) hp.1 hp.2 q) g
theorem OG.ifl_gt_f (X : OS B mL own nm rt Z n0 p l e R s m args below meth c T h cells slots) {x y : Int64} {o : Int} (hd : decode B pc = .ok (.ifCond .gt o, 3)) (hq : ¬ y < x) (g : OG p e below s n0 rc rs Q (T.setTop (mkF m (pc + 3) Ls st))) : OG p e below s n0 rc rs Q (T.setTop (mkF m pc Ls (.int (lcmpW x y) :: st))) := by
  obtain ⟨⟨hx, hby, -⟩, -, locs, -, Y⟩ := X
  exact OG.pre (fun _ q => XS.ifNo Y.here hx rfl (hb hby hd) rfl ((if0 _ _).trans (flt (fun q => hq ((lw_gt x y).mp q))).2.2.1) q) g
theorem OG.ifl_gt (X : OS B mL own nm rt Z n0 p l e R s m args below meth c T h cells slots) {x y : Int64} {o : Int} {pc' : Nat} (hd : decode B pc = .ok (.ifCond .gt o, 3)) (hp : 0 ≤ (pc : Int) + o ∧ ((pc : Int) + o).toNat = pc') (g1 : y < x → OG p e below s n0 rc rs Q (T.setTop (mkF m pc' Ls st))) (g2 : ¬ y < x → OG p e below s n0 rc rs Q (T.setTop (mkF m (pc + 3) Ls st))) : OG p e below s n0 rc rs Q (T.setTop (mkF m pc Ls (.int (lcmpW x y) :: st))) :=
  if hq : y < x then OG.ifl_gt_t X hd hp hq (g1 hq) else OG.ifl_gt_f X hd hq (g2 hq)
theorem OG.icmp_le_t (X : OS B mL own nm rt Z n0 p l e R s m args below meth c T h cells slots) {x y : Int32} {o : Int} {pc' : Nat} (hd : decode B pc = .ok (.if_icmp .le o, 3)) (hp : 0 ≤ (pc : Int) + o ∧ ((pc : Int) + o).toNat = pc') (hq : ¬ y < x) (g : OG p e below s n0 rc rs Q (T.setTop (mkF m pc' Ls st))) : OG p e below s n0 rc rs Q (T.setTop (mkF m pc Ls (.int y :: .int x :: st))) := by
  obtain ⟨⟨hx, hby, -⟩, -, locs, -, Y⟩ := X
  exact OG.pre (fun _ q => XS.icmpYes Y.here hx rfl (pc0 := pc) rfl (hb hby hd) rfl (flt hq).2.2.2 hp.1 hp.2 q) g
theorem OG.icmp_le_f (X : OS B mL own nm rt Z n0 p l e R s m args below meth c T h cells slots) {x y : Int32} {o : Int} (hd : decode B pc = .ok (.if_icmp .le o, 3)) (hq : y < x) (g : OG p e below s n0 rc rs Q (T.setTop (mkF m (pc + 3) Ls st))) : OG p e below s n0 rc rs Q (T.setTop (mkF m pc Ls (.int y :: .int x :: st))) := by
  obtain ⟨⟨hx, hby, -⟩, -, locs, -, Y⟩ := X
  exact OG.pre (fun _ q => XS.icmpNo Y.here hx rfl (hb hby hd) rfl (tlt hq).2.2.2 q) g
theorem OG.icmp_le (X : OS B mL own nm rt Z n0 p l e R s m args below meth c T h cells slots) {x y : Int32} {o : Int} {pc' : Nat} (hd : decode B pc = .ok (.if_icmp .le o, 3)) (hp : 0 ≤ (pc : Int) + o ∧ ((pc : Int) + o).toNat = pc') (g1 : ¬ y < x → OG p e below s n0 rc rs Q (T.setTop (mkF m pc' Ls st))) (g2 : y < x → OG p e below s n0 rc rs Q (T.setTop (mkF m (pc + 3) Ls st))) : OG p e below s n0 rc rs Q (T.setTop (mkF m pc Ls (.int y :: .int x :: st))) :=
  if hq : y < x then OG.icmp_le_f X hd hq (g2 hq) else OG.icmp_le_t X hd hp hq (g1 hq)
theorem OG.if_le_t (X : OS B mL own nm rt Z n0 p l e R s m args below meth c T h cells slots) {x : Int32} {o : Int} {pc' : Nat} (hd : decode B pc = .ok (.ifCond .le o, 3)) (hp : 0 ≤ (pc : Int) + o ∧ ((pc : Int) + o).toNat = pc') (hq : ¬ 0 < x) (g : OG p e below s n0 rc rs Q (T.setTop (mkF m pc' Ls st))) : OG p e below s n0 rc rs Q (T.setTop (mkF m pc Ls (.int x :: st))) := by
  obtain ⟨⟨hx, hby, -⟩, -, locs, -, Y⟩ := X
  exact OG.pre (fun _ q => XS.ifYes Y.here hx rfl (pc0 := pc) rfl (hb hby hd) rfl ((if0 _ _).trans (flt hq).2.2.2) hp.1 hp.2 q) g
theorem OG.if_le_f (X : OS B mL own nm rt Z n0 p l e R s m args below meth c T h cells slots) {x : Int32} {o : Int} (hd : decode B pc = .ok (.ifCond .le o, 3)) (hq : 0 < x) (g : OG p e below s n0 rc rs Q (T.setTop (mkF m (pc + 3) Ls st))) : OG p e below s n0 rc rs Q (T.setTop (mkF m pc Ls (.int x :: st))) := by
  obtain ⟨⟨hx, hby, -⟩, -, locs, -, Y⟩ := X
  exact OG.pre (fun _ q => XS.ifNo Y.here hx rfl (hb hby hd) rfl ((if0 _ _).trans (tlt hq).2.2.2) q) g
theorem OG.if_le (X : OS B mL own nm rt Z n0 p l e R s m args below meth c T h cells slots) {x : Int32} {o : Int} {pc' : Nat} (hd : decode B pc = .ok (.ifCond .le o, 3)) (hp : 0 ≤ (pc : Int) + o ∧ ((pc : Int) + o).toNat = pc') (g1 : ¬ 0 < x → OG p e below s n0 rc rs Q (T.setTop (mkF m pc' Ls st))) (g2 : 0 < x → OG p e below s n0 rc rs Q (T.setTop (mkF m (pc + 3) Ls st))) : OG p e below s n0 rc rs Q (T.setTop (mkF m pc Ls (.int x :: st))) :=
  if hq : 0 < x then OG.if_le_f X hd hq (g2 hq) else OG.if_le_t X hd hp hq (g1 hq)
theorem OG.ifl_le_t (X : OS B mL own nm rt Z n0 p l e R s m args below meth c T h cells slots) {x y : Int64} {o : Int} {pc' : Nat} (hd : decode B pc = .ok (.ifCond .le o, 3)) (hp : 0 ≤ (pc : Int) + o ∧ ((pc : Int) + o).toNat = pc') (hq : ¬ y < x) (g : OG p e below s n0 rc rs Q (T.setTop (mkF m pc' Ls st))) : OG p e below s n0 rc rs Q (T.setTop (mkF m pc Ls (.int (lcmpW x y) :: st))) := by
  obtain ⟨⟨hx, hby, -⟩, -, locs, -, Y⟩ := X
  exact OG.pre (fun _ q => XS.ifYes Y.here hx rfl (pc0 := pc) rfl (hb hby hd) rfl ((if0 _ _).trans (flt (fun q => hq ((lw_gt x y).mp q))).2.2.2) hp.1 hp.2 q) g
theorem OG.ifl_le_f (X : OS B mL own nm rt Z n0 p l e R s m args below meth c T h cells slots) {x y : Int64} {o : Int} (hd : decode B pc = .ok (.ifCond .le o, 3)) (hq : y < x) (g : OG p e below s n0 rc rs Q (T.setTop (mkF m (pc + 3) Ls st))) : OG p e below s n0 rc rs Q (T.setTop (mkF m pc Ls (.int (lcmpW x y) :: st))) := by
  obtain ⟨⟨hx, hby, -⟩, -, locs, -, Y⟩ := X
  exact OG.pre (fun _ q => XS.ifNo Y.here hx rfl (hb hby hd) rfl ((if0 _ _).trans (tlt ((lw_gt x y).mpr hq)).2.2.2) q) g
theorem OG.ifl_le (X : OS B mL own nm rt Z n0 p l e R s m args below meth c T h cells slots) {x y : Int64} {o : Int} {pc' : Nat} (hd : decode B pc = .ok (.ifCond .le o, 3)) (hp : 0 ≤ (pc : Int) + o ∧ ((pc : Int) + o).toNat = pc') (g1 : ¬ y < x → OG p e below s n0 rc rs Q (T.setTop (mkF m pc' Ls st))) (g2 : y < x → OG p e below s n0 rc rs Q (T.setTop (mkF m (pc + 3) Ls st))) : OG p e below s n0 rc rs Q (T.setTop (mkF m pc Ls (.int (lcmpW x y) :: st))) :=
  if hq : y < x then OG.ifl_le_f X hd hq (g2 hq) else OG.ifl_le_t X hd hp hq (g1 hq)
theorem OG.icmp_eq_t (X : OS B mL own nm rt Z n0 p l e R s m args below meth c T h cells slots) {x y : Int32} {o : Int} {pc' : Nat} (hd : decode B pc = .ok (.if_icmp .eq o, 3)) (hp : 0 ≤ (pc : Int) + o ∧ ((pc : Int) + o).toNat = pc') (hq : x = y) (g : OG p e below s n0 rc rs Q (T.setTop (mkF m pc' Ls st))) : OG p e below s n0 rc rs Q (T.setTop (mkF m pc Ls (.int y :: .int x :: st))) := by
  obtain ⟨⟨hx, hby, -⟩, -, locs, -, Y⟩ := X
  exact OG.pre (fun _ q => XS.icmpYes Y.here hx rfl (pc0 := pc) rfl (hb hby hd) rfl (teq hq).1 hp.1 hp.2 q) g
theorem OG.icmp_eq_f (X : OS B mL own nm rt Z n0 p l e R s m args below meth c T h cells slots) {x y : Int32} {o : Int} (hd : decode B pc = .ok (.if_icmp .eq o, 3)) (hq : ¬ x = y) (g : OG p e below s n0 rc rs Q (T.setTop (mkF m (pc + 3) Ls st))) : OG p e below s n0 rc rs Q (T.setTop (mkF m pc Ls (.int y :: .int x :: st))) := by
  obtain ⟨⟨hx, hby, -⟩, -, locs, -, Y⟩ := X
  exact OG.pre (fun _ q => XS.icmpNo Y.here hx rfl (hb hby hd) rfl (feq hq).1 q) g
theorem OG.icmp_eq (X : OS B mL own nm rt Z n0 p l e R s m args below meth c T h cells slots) {x y : Int32} {o : Int} {pc' : Nat} (hd : decode B pc = .ok (.if_icmp .eq o, 3)) (hp : 0 ≤ (pc : Int) + o ∧ ((pc : Int) + o).toNat = pc') (g1 : x = y → OG p e below s n0 rc rs Q (T.setTop (mkF m pc' Ls st))) (g2 : ¬ x = y → OG p e below s n0 rc rs Q (T.setTop (mkF m (pc + 3) Ls st))) : OG p e below s n0 rc rs Q (T.setTop (mkF m pc Ls (.int y :: .int x :: st))) :=
  if hq : x = y then OG.icmp_eq_t X hd hp hq (g1 hq) else OG.icmp_eq_f X hd hq (g2 hq)
theorem OG.if_eq_t (X : OS B mL own nm rt Z n0 p l e R s m args below meth c T h cells slots) {x : Int32} {o : Int} {pc' : Nat} (hd : decode B pc = .ok (.ifCond .eq o, 3)) (hp : 0 ≤ (pc : Int) + o ∧ ((pc : Int) + o).toNat = pc') (hq : x = 0) (g : OG p e below s n0 rc rs Q (T.setTop (mkF m pc' Ls st))) : OG p e below s n0 rc rs Q (T.setTop (mkF m pc Ls (.int x :: st))) := by
  obtain ⟨⟨hx, hby, -⟩, -, locs, -, Y⟩ := X
  exact OG.pre (fun _ q => XS.ifYes Y.here hx rfl (pc0 := pc) rfl (hb hby hd) rfl ((if0 _ _).trans (teq hq).1) hp.1 hp.2 q) g
theorem OG.if_eq_f (X : OS B mL own nm rt Z n0 p l e R s m args below meth c T h cells slots) {x : Int32} {o : Int} (hd : decode B pc = .ok (.ifCond .eq o, 3)) (hq : ¬ x = 0) (g : OG p e below s n0 rc rs Q (T.setTop (mkF m (pc + 3) Ls st))) : OG p e below s n0 rc rs Q (T.setTop (mkF m pc Ls (.int x :: st))) := by
  obtain ⟨⟨hx, hby, -⟩, -, locs, -, Y⟩ := X
  exact OG.pre (fun _ q => XS.ifNo Y.here hx rfl (hb hby hd) rfl ((if0 _ _).trans (feq hq).1) q) g
theorem OG.if_eq (X : OS B mL own nm rt Z n0 p l e R s m args below meth c T h cells slots) {x : Int32} {o : Int} {pc' : Nat} (hd : decode B pc = .ok (.ifCond .eq o, 3)) (hp : 0 ≤ (pc : Int) + o ∧ ((pc : Int) + o).toNat = pc') (g1 : x = 0 → OG p e below s n0 rc rs Q (T.setTop (mkF m pc' Ls st))) (g2 : ¬ x = 0 → OG p e below s n0 rc rs Q (T.setTop (mkF m (pc + 3) Ls st))) : OG p e below s n0 rc rs Q (T.setTop (mkF m pc Ls (.int x :: st))) :=
  if hq : x = 0 then OG.if_eq_t X hd hp hq (g1 hq) else OG.if_eq_f X hd hq (g2 hq)
theorem OG.ifl_eq_t (X : OS B mL own nm rt Z n0 p l e R s m args below meth c T h cells slots) {x y : Int64} {o : Int} {pc' : Nat} (hd : decode B pc = .ok (.ifCond .eq o, 3)) (hp : 0 ≤ (pc : Int) + o ∧ ((pc : Int) + o).toNat = pc') (hq : x = y) (g : OG p e below s n0 rc rs Q (T.setTop (mkF m pc' Ls st))) : OG p e below s n0 rc rs Q (T.setTop (mkF m pc Ls (.int (lcmpW x y) :: st))) := by
  obtain ⟨⟨hx, hby, -⟩, -, locs, -, Y⟩ := X
  exact OG.pre (fun _ q => XS.ifYes Y.here hx rfl (pc0 := pc) rfl (hb hby hd) rfl ((if0 _ _).trans (teq ((lw_eq x y).mpr hq)).1) hp.1 hp.2 q) g
theorem OG.ifl_eq_f (X : OS B mL own nm rt Z n0 p l e R s m args below meth c T h cells slots) {x y : Int64} {o : Int} (hd : decode B pc = .ok (.ifCond .eq o, 3)) (hq : ¬ x = y) (g : OG p e below s n0 rc rs Q (T.setTop (mkF m (pc + 3) Ls st))) : OG p e below s n0 rc rs Q (T.setTop (mkF m pc Ls (.int (lcmpW x y) :: st))) := by
  obtain ⟨⟨hx, hby, -⟩, -, locs, -, Y⟩ := X
  exact OG.pre (fun _ q => XS.ifNo Y.here hx rfl (hb hby hd) rfl ((if0 _ _).trans (feq (fun q => hq ((lw_eq x y).mp q))).1) q) g
theorem OG.ifl_eq (X : OS B mL own nm rt Z n0 p l e R s m args below meth c T h cells slots) {x y : Int64} {o : Int} {pc' : Nat} (hd : decode B pc = .ok (.ifCond .eq o, 3)) (hp : 0 ≤ (pc : Int) + o ∧ ((pc : Int) + o).toNat = pc') (g1 : x = y → OG p e below s n0 rc rs Q (T.setTop (mkF m pc' Ls st))) (g2 : ¬ x = y → OG p e below s n0 rc rs Q (T.setTop (mkF m (pc + 3) Ls st))) : OG p e below s n0 rc rs Q (T.setTop (mkF m pc Ls (.int (lcmpW x y) :: st))) :=
  if hq : x = y then OG.ifl_eq_t X hd hp hq (g1 hq) else OG.ifl_eq_f X hd hq (g2 hq)
theorem OG.icmp_ne_t (X : OS B mL own nm rt Z n0 p l e R s m args below meth c T h cells slots) {x y : Int32} {o : Int} {pc' : Nat} (hd : decode B pc = .ok (.if_icmp .ne o, 3)) (hp : 0 ≤ (pc : Int) + o ∧ ((pc : Int) + o).toNat = pc') (hq : ¬ x = y) (g : OG p e below s n0 rc rs Q (T.setTop (mkF m pc' Ls st))) : OG p e below s n0 rc rs Q (T.setTop (mkF m pc Ls (.int y :: .int x :: st))) := by
  obtain ⟨⟨hx, hby, -⟩, -, locs, -, Y⟩ := X
  exact OG.pre (fun _ q => XS.icmpYes Y.here hx rfl (pc0 := pc) rfl (hb hby hd) rfl (feq hq).2 hp.1 hp.2 q) g
theorem OG.icmp_ne_f (X : OS B mL own nm rt Z n0 p l e R s m args below meth c T h cells slots) {x y : Int32} {o : Int} (hd : decode B pc = .ok (.if_icmp .ne o, 3)) (hq : x = y) (g : OG p e below s n0 rc rs Q (T.setTop (mkF m (pc + 3) Ls st))) : OG p e below s n0 rc rs Q (T.setTop (mkF m pc Ls (.int y :: .int x :: st))) := by
  obtain ⟨⟨hx, hby, -⟩, -, locs, -, Y⟩ := X
  exact OG.pre (fun _ q => XS.icmpNo Y.here hx rfl (hb hby hd) rfl (teq hq).2 q) g
theorem OG.icmp_ne (X : OS B mL own nm rt Z n0 p l e R s m args below meth c T h cells slots) {x y : Int32} {o : Int} {pc' : Nat} (hd : decode B pc = .ok (.if_icmp .ne o, 3)) (hp : 0 ≤ (pc : Int) + o ∧ ((pc : Int) + o).toNat = pc') (g1 : ¬ x = y → OG p e below s n0 rc rs Q (T.setTop (mkF m pc' Ls st))) (g2 : x = y → OG p e below s n0 rc rs Q (T.setTop (mkF m (pc + 3) Ls st))) : OG p e below s n0 rc rs Q (T.setTop (mkF m pc Ls (.int y :: .int x :: st))) :=
  if hq : x = y then OG.icmp_ne_f X hd hq (g2 hq) else OG.icmp_ne_t X hd hp hq (g1 hq)
theorem OG.if_ne_t (X : OS B mL own nm rt Z n0 p l e R s m args below meth c T h cells slots) {x : Int32} {o : Int} {pc' : Nat} (hd : decode B pc = .ok (.ifCond .ne o, 3)) (hp : 0 ≤ (pc : Int) + o ∧ ((pc : Int) + o).toNat = pc') (hq : ¬ x = 0) (g : OG p e below s n0 rc rs Q (T.setTop (mkF m pc' Ls st))) : OG p e below s n0 rc rs Q (T.setTop (mkF m pc Ls (.int x :: st))) := by
  obtain ⟨⟨hx, hby, -⟩, -, locs, -, Y⟩ := X
  exact OG.pre (fun _ q => XS.ifYes Y.here hx rfl (pc0 := pc) rfl (hb hby hd) rfl ((if0 _ _).trans (feq hq).2) hp.1 hp.2 q) g
theorem OG.if_ne_f (X : OS B mL own nm rt Z n0 p l e R s m args below meth c T h cells slots) {x : Int32} {o : Int} (hd : decode B pc = .ok (.ifCond .ne o, 3)) (hq : x = 0) (g : OG p e below s n0 rc rs Q (T.setTop (mkF m (pc + 3) Ls st))) : OG p e below s n0 rc rs Q (T.setTop (mkF m pc Ls (.int x :: st))) := by
  obtain ⟨⟨hx, hby, -⟩, -, locs, -, Y⟩ := X
  exact OG.pre (fun _ q => XS.ifNo Y.here hx rfl (hb hby hd) rfl ((if0 _ _).trans (teq hq).2) q) g
theorem OG.if_ne (X : OS B mL own nm rt Z n0 p l e R s m args below meth c T h cells slots) {x : Int32} {o : Int} {pc' : Nat} (hd : decode B pc = .ok (.ifCond .ne o, 3)) (hp : 0 ≤ (pc : Int) + o ∧ ((pc : Int) + o).toNat = pc') (g1 : ¬ x = 0 → OG p e below s n0 rc rs Q (T.setTop (mkF m pc' Ls st))) (g2 : x = 0 → OG p e below s n0 rc rs Q (T.setTop (mkF m (pc + 3) Ls st))) : OG p e below s n0 rc rs Q (T.setTop (mkF m pc Ls (.int x :: st))) :=
  if hq : x = 0 then OG.if_ne_f X hd hq (g2 hq) else OG.if_ne_t X hd hp hq (g1 hq)
theorem OG.ifl_ne_t (X : OS B mL own nm rt Z n0 p l e R s m args below meth c T h cells slots) {x y : Int64} {o : Int} {pc' : Nat} (hd : decode B pc = .ok (.ifCond .ne o, 3)) (hp : 0 ≤ (pc : Int) + o ∧ ((pc : Int) + o).toNat = pc') (hq : ¬ x = y) (g : OG p e below s n0 rc rs Q (T.setTop (mkF m pc' Ls st))) : OG p e below s n0 rc rs Q (T.setTop (mkF m pc Ls (.int (lcmpW x y) :: st))) := by
  obtain ⟨⟨hx, hby, -⟩, -, locs, -, Y⟩ := X
  exact OG.pre (fun _ q => XS.ifYes Y.here hx rfl (pc0 := pc) rfl (hb hby hd) rfl ((if0 _ _).trans (feq (fun q => hq ((lw_eq x y).mp q))).2) hp.1 hp.2 q) g
theorem OG.ifl_ne_f (X : OS B mL own nm rt Z n0 p l e R s m args below meth c T h cells slots) {x y : Int64} {o : Int} (hd : decode B pc = .ok (.ifCond .ne o, 3)) (hq : x = y) (g : OG p e below s n0 rc rs Q (T.setTop (mkF m (pc + 3) Ls st))) : OG p e below s n0 rc rs Q (T.setTop (mkF m pc Ls (.int (lcmpW x y) :: st))) := by
  obtain ⟨⟨hx, hby, -⟩, -, locs, -, Y⟩ := X
  exact OG.pre (fun _ q => XS.ifNo Y.here hx rfl (hb hby hd) rfl ((if0 _ _).trans (teq ((lw_eq x y).mpr hq)).2) q) g
theorem OG.ifl_ne (X : OS B mL own nm rt Z n0 p l e R s m args below meth c T h cells slots) {x y : Int64} {o : Int} {pc' : Nat} (hd : decode B pc = .ok (.ifCond .ne o, 3)) (hp : 0 ≤ (pc : Int) + o ∧ ((pc : Int) + o).toNat = pc') (g1 : ¬ x = y → OG p e below s n0 rc rs Q (T.setTop (mkF m pc' Ls st))) (g2 : x = y → OG p e below s n0 rc rs Q (T.setTop (mkF m (pc + 3) Ls st))) : OG p e below s n0 rc rs Q (T.setTop (mkF m pc Ls (.int (lcmpW x y) :: st))) :=
  if hq : x = y then OG.ifl_ne_f X hd hq (g2 hq) else OG.ifl_ne_t X hd hp hq (g1 hq)
theorem OG.ifnullYes (X : OS B mL own nm rt Z n0 p l e R s m args below meth c T h cells slots)  {o : Int} {pc' : Nat} (hd : decode B pc = .ok (.ifnull o, 3)) (hp : 0 ≤ (pc : Int) + o ∧ ((pc : Int) + o).toNat = pc') (g : OG p e below s n0 rc rs Q (T.setTop (mkF m pc' Ls st))) : OG p e below s n0 rc rs Q (T.setTop (mkF m pc Ls (.null :: st))) := by
  obtain ⟨⟨hx, hby, -⟩, -, locs, -, Y⟩ := X
  exact OG.pre (fun _ q => XS.ifnullYes Y.here hx rfl (pc0 := pc) rfl (hb hby hd) rfl hp.1 hp.2 q) g
theorem OG.ifnonnullYes (X : OS B mL own nm rt Z n0 p l e R s m args below meth c T h cells slots) {a : Addr} {o : Int} {pc' : Nat} (hd : decode B pc = .ok (.ifnonnull o, 3)) (hp : 0 ≤ (pc : Int) + o ∧ ((pc : Int) + o).toNat = pc') (g : OG p e below s n0 rc rs Q (T.setTop (mkF m pc' Ls st))) : OG p e below s n0 rc rs Q (T.setTop (mkF m pc Ls (.ref a :: st))) := by
  obtain ⟨⟨hx, hby, -⟩, -, locs, -, Y⟩ := X
  exact OG.pre (fun _ q => XS.ifnonnullYes Y.here hx rfl (pc0 := pc) rfl (hb hby hd) rfl hp.1 hp.2 q) g
theorem OG.ifnullNo (X : OS B mL own nm rt Z n0 p l e R s m args below meth c T h cells slots) {a : Addr} {o : Int} (hd : decode B pc = .ok (.ifnull o, 3)) (g : OG p e below s n0 rc rs Q (T.setTop (mkF m (pc + 3) Ls st))) : OG p e below s n0 rc rs Q (T.setTop (mkF m pc Ls (.ref a :: st))) := by
  obtain ⟨⟨hx, hby, -⟩, -, locs, -, Y⟩ := X
  exact OG.pre (fun _ q => XS.ifnullNo Y.here hx rfl (hb hby hd) rfl q) g
theorem OG.ifnonnullNo (X : OS B mL own nm rt Z n0 p l e R s m args below meth c T h cells slots)  {o : Int} (hd : decode B pc = .ok (.ifnonnull o, 3)) (g : OG p e below s n0 rc rs Q (T.setTop (mkF m (pc + 3) Ls st))) : OG p e below s n0 rc rs Q (T.setTop (mkF m pc Ls (.null :: st))) := by
  obtain ⟨⟨hx, hby, -⟩, -, locs, -, Y⟩ := X
  exact OG.pre (fun _ q => XS.ifnonnullNo Y.here hx rfl (hb hby hd) rfl q) g
theorem OG.acmp_eq_t (X : OS B mL own nm rt Z n0 p l e R s m args below meth c T h cells slots) {x y : Addr} {o : Int} {pc' : Nat} (hd : decode B pc = .ok (.if_acmp .eq o, 3)) (hp : 0 ≤ (pc : Int) + o ∧ ((pc : Int) + o).toNat = pc') (hq : x = y) (g : OG p e below s n0 rc rs Q (T.setTop (mkF m pc' Ls st))) : OG p e below s n0 rc rs Q (T.setTop (mkF m pc Ls (.ref y :: .ref x :: st))) := by
  obtain ⟨⟨hx, hby, -⟩, -, locs, -, Y⟩ := X
  exact OG.pre (fun _ q => RoadKit.acmp Y hx rfl rfl rfl (pc0 := pc) (pc' := pc') (same := true) rfl (hb hby hd) rfl (decide_eq_true (congrArg Value.ref hq)) hp.1 (by simp [acV, hp.2]) q) g
theorem OG.acmp_eq_f (X : OS B mL own nm rt Z n0 p l e R s m args below meth c T h cells slots) {x y : Addr} {o : Int} {pc' : Nat} (hd : decode B pc = .ok (.if_acmp .eq o, 3)) (hp : 0 ≤ (pc : Int) + o ∧ ((pc : Int) + o).toNat = pc') (hq : ¬ x = y) (g : OG p e below s n0 rc rs Q (T.setTop (mkF m (pc + 3) Ls st))) : OG p e below s n0 rc rs Q (T.setTop (mkF m pc Ls (.ref y :: .ref x :: st))) := by
  obtain ⟨⟨hx, hby, -⟩, -, locs, -, Y⟩ := X
  exact OG.pre (fun _ q => RoadKit.acmp Y hx rfl rfl rfl (pc0 := pc) (pc' := (pc + 3)) (same := false) rfl (hb hby hd) rfl (decide_eq_false fun q => hq (Value.ref.inj q)) hp.1 (by simp [acV]) q) g
theorem OG.acmp_ne_f (X : OS B mL own nm rt Z n0 p l e R s m args below meth c T h cells slots) {x y : Addr} {o : Int} {pc' : Nat} (hd : decode B pc = .ok (.if_acmp .ne o, 3)) (hp : 0 ≤ (pc : Int) + o ∧ ((pc : Int) + o).toNat = pc') (hq : x = y) (g : OG p e below s n0 rc rs Q (T.setTop (mkF m (pc + 3) Ls st))) : OG p e below s n0 rc rs Q (T.setTop (mkF m pc Ls (.ref y :: .ref x :: st))) := by
  obtain ⟨⟨hx, hby, -⟩, -, locs, -, Y⟩ := X
  exact OG.pre (fun _ q => RoadKit.acmp Y hx rfl rfl rfl (pc0 := pc) (pc' := (pc + 3)) (same := true) rfl (hb hby hd) rfl (decide_eq_true (congrArg Value.ref hq)) hp.1 (by simp [acV]) q) g
theorem OG.acmp_ne_t (X : OS B mL own nm rt Z n0 p l e R s m args below meth c T h cells slots) {x y : Addr} {o : Int} {pc' : Nat} (hd : decode B pc = .ok (.if_acmp .ne o, 3)) (hp : 0 ≤ (pc : Int) + o ∧ ((pc : Int) + o).toNat = pc') (hq : ¬ x = y) (g : OG p e below s n0 rc rs Q (T.setTop (mkF m pc' Ls st))) : OG p e below s n0 rc rs Q (T.setTop (mkF m pc Ls (.ref y :: .ref x :: st))) := by
  obtain ⟨⟨hx, hby, -⟩, -, locs, -, Y⟩ := X
  exact OG.pre (fun _ q => RoadKit.acmp Y hx rfl rfl rfl (pc0 := pc) (pc' := pc') (same := false) rfl (hb hby hd) rfl (decide_eq_false fun q => hq (Value.ref.inj q)) hp.1 (by simp [acV, hp.2]) q) g
theorem OG.acmp_eq (X : OS B mL own nm rt Z n0 p l e R s m args below meth c T h cells slots) {x y : Addr} {o : Int} {pc' : Nat} (hd : decode B pc = .ok (.if_acmp .eq o, 3)) (hp : 0 ≤ (pc : Int) + o ∧ ((pc : Int) + o).toNat = pc') (g1 : x = y → OG p e below s n0 rc rs Q (T.setTop (mkF m pc' Ls st))) (g2 : ¬ x = y → OG p e below s n0 rc rs Q (T.setTop (mkF m (pc + 3) Ls st))) : OG p e below s n0 rc rs Q (T.setTop (mkF m pc Ls (.ref y :: .ref x :: st))) :=
  if hq : x = y then OG.acmp_eq_t X hd hp hq (g1 hq) else OG.acmp_eq_f X hd hp hq (g2 hq)
theorem OG.acmp_ne (X : OS B mL own nm rt Z n0 p l e R s m args below meth c T h cells slots) {x y : Addr} {o : Int} {pc' : Nat} (hd : decode B pc = .ok (.if_acmp .ne o, 3)) (hp : 0 ≤ (pc : Int) + o ∧ ((pc : Int) + o).toNat = pc') (g1 : x = y → OG p e below s n0 rc rs Q (T.setTop (mkF m (pc + 3) Ls st))) (g2 : ¬ x = y → OG p e below s n0 rc rs Q (T.setTop (mkF m pc' Ls st))) : OG p e below s n0 rc rs Q (T.setTop (mkF m pc Ls (.ref y :: .ref x :: st))) :=
  if hq : x = y then OG.acmp_ne_f X hd hp hq (g1 hq) else OG.acmp_ne_t X hd hp hq (g2 hq)
theorem OG.retI {z : Int32} (X : OS B mL own nm (some .int) Z n0 p l e R s m args below meth c T h cells slots) (hd : decode B pc = .ok (.ireturn, 1))  (hc : cells ≤ rc) (hs : slots ≤ rs) (hQ : Q (some (.int z)) h) : OG p e below s n0 rc rs Q (T.setTop (mkF m pc Ls (.int z :: st))) := by
  obtain ⟨⟨hx, hby, -, -, -, hrt, hlk, -⟩, eT, locs, N, Y⟩ := X
  obtain ⟨fs, hr, hrun, hended, hW, hsame⟩ := Y.leave (v := (some (.int z))) (fun q => by first | rfl | (rw [hrt] at q; cases q)) hlk
  refine ⟨_, _, ?_, hrun, hended, _, _, rfl, ⟨?_, N⟩, ⟨_, rfl⟩, hW, hsame.mono hc hs⟩
  · exact Jvm.RoadKit.retI Y hx hrt (hb hby hd) hr
  · show Q _ T.heap
    rw [eT]; exact hQ
theorem OG.retN {z : Int32} {t : FieldType} (X : OS B mL own nm (some t) Z n0 p l e R s m args below meth c T h cells slots) (hd : decode B pc = .ok (.ireturn, 1)) (ht : t = .boolean ∨ t = .byte ∨ t = .char ∨ t = .short) (hc : cells ≤ rc) (hs : slots ≤ rs) (hQ : Q (some (.int (nar t z))) h) : OG p e below s n0 rc rs Q (T.setTop (mkF m pc Ls (.int z :: st))) := by
  obtain ⟨⟨hx, hby, -, -, -, hrt, hlk, -⟩, eT, locs, N, Y⟩ := X
  obtain ⟨fs, hr, hrun, hended, hW, hsame⟩ := Y.leave (v := (some (.int (nar t z)))) (fun q => by first | rfl | (rw [hrt] at q; cases q)) hlk
  refine ⟨_, _, ?_, hrun, hended, _, _, rfl, ⟨?_, N⟩, ⟨_, rfl⟩, hW, hsame.mono hc hs⟩
  · exact Jvm.RoadKit.retN Y hx (t := t) hrt ht (hb hby hd) hr
  · show Q _ T.heap
    rw [eT]; exact hQ
theorem OG.retJ {z : Int64} (X : OS B mL own nm (some .long) Z n0 p l e R s m args below meth c T h cells slots) (hd : decode B pc = .ok (.lreturn, 1))  (hc : cells ≤ rc) (hs : slots ≤ rs) (hQ : Q (some (.long z)) h) : OG p e below s n0 rc rs Q (T.setTop (mkF m pc Ls (.long z :: st))) := by
  obtain ⟨⟨hx, hby, -, -, -, hrt, hlk, -⟩, eT, locs, N, Y⟩ := X
  obtain ⟨fs, hr, hrun, hended, hW, hsame⟩ := Y.leave (v := (some (.long z))) (fun q => by first | rfl | (rw [hrt] at q; cases q)) hlk
  refine ⟨_, _, ?_, hrun, hended, _, _, rfl, ⟨?_, N⟩, ⟨_, rfl⟩, hW, hsame.mono hc hs⟩
  · exact Jvm.RoadKit.retOut (t := .long) Y hx hrt rfl (Or.inr (Or.inl ⟨rfl, rfl, _, rfl⟩)) (hb hby hd) hr
  · show Q _ T.heap
    rw [eT]; exact hQ
theorem OG.retA {w : Value} {t : FieldType} (X : OS B mL own nm (some t) Z n0 p l e R s m args below meth c T h cells slots) (hd : decode B pc = .ok (.areturn, 1)) (ht : t.isReference = true) (hw : w.isRef = true) (hc : cells ≤ rc) (hs : slots ≤ rs) (hQ : Q (some w) h) : OG p e below s n0 rc rs Q (T.setTop (mkF m pc Ls (w :: st))) := by
  obtain ⟨⟨hx, hby, -, -, -, hrt, hlk, -⟩, eT, locs, N, Y⟩ := X
  obtain ⟨fs, hr, hrun, hended, hW, hsame⟩ := Y.leave (v := (some w)) (fun q => by first | rfl | (rw [hrt] at q; cases q)) hlk
  refine ⟨_, _, ?_, hrun, hended, _, _, rfl, ⟨?_, N⟩, ⟨_, rfl⟩, hW, hsame.mono hc hs⟩
  · exact Jvm.RoadKit.retOut (t := t) Y hx hrt (by rcases ref_cases hw with rfl | ⟨z, rfl⟩ <;> cases t <;> rfl) (Or.inr (Or.inr (Or.inr (Or.inr ⟨rfl, ht, hw⟩)))) (hb hby hd) hr
  · show Q _ T.heap
    rw [eT]; exact hQ
theorem OG.retV  (X : OS B mL own nm none Z n0 p l e R s m args below meth c T h cells slots) (hd : decode B pc = .ok (.return_, 1))  (hc : cells ≤ rc) (hs : slots ≤ rs) (hQ : Q none h) : OG p e below s n0 rc rs Q (T.setTop (mkF m pc Ls [])) := by
  obtain ⟨⟨hx, hby, -, -, -, hrt, hlk, -⟩, eT, locs, N, Y⟩ := X
  obtain ⟨fs, hr, hrun, hended, hW, hsame⟩ := Y.leave (v := none) (fun q => by first | rfl | (rw [hrt] at q; cases q)) hlk
  refine ⟨_, _, ?_, hrun, hended, _, _, rfl, ⟨?_, N⟩, ⟨_, rfl⟩, hW, hsame.mono hc hs⟩
  · exact Y.returnOut hx hrt (hb hby hd) hr
  · show Q _ T.heap
    rw [eT]; exact hQ
theorem OG.ldcInt (X : OS B mL own nm rt Z n0 p l e R s m args below meth c T h cells slots) {index : Nat} {v : Int32} (w : (Cond.constant own index v).before a0 Z = true) (hd : decode B pc = .ok (.ldc index, 2)) (g : OG p e below s n0 rc rs Q (T.setTop (mkF m (pc + 2) Ls (.int v :: st)))) : OG p e below s n0 rc rs Q (T.setTop (mkF m pc Ls st)) := by
  obtain ⟨⟨hx, hby, -, hown, -, -, -, hZ⟩, -, locs, -, Y⟩ := X
  exact OG.pre (fun _ k => Y.ldcInt hx hown (mvT hZ w) (g := mkF m pc Ls st) rfl (hb hby hd) _ k) g
theorem OG.ldcwInt (X : OS B mL own nm rt Z n0 p l e R s m args below meth c T h cells slots) {index : Nat} {v : Int32} (w : (Cond.constant own index v).before a0 Z = true) (hd : decode B pc = .ok (.ldc_w index, 3)) (g : OG p e below s n0 rc rs Q (T.setTop (mkF m (pc + 3) Ls (.int v :: st)))) : OG p e below s n0 rc rs Q (T.setTop (mkF m pc Ls st)) := by
  obtain ⟨⟨hx, hby, -, hown, -, -, -, hZ⟩, -, locs, -, Y⟩ := X
  exact OG.pre (fun _ k => Y.ldcwInt hx hown (mvT hZ w) (g := mkF m pc Ls st) rfl (hb hby hd) _ k) g
theorem OG.ldc2Long (X : OS B mL own nm rt Z n0 p l e R s m args below meth c T h cells slots) {index : Nat} {v : Int64} (w : (Cond.constantLong own index v).before a0 Z = true) (hd : decode B pc = .ok (.ldc2_w index, 3)) (g : OG p e below s n0 rc rs Q (T.setTop (mkF m (pc + 3) Ls (.long v :: st)))) : OG p e below s n0 rc rs Q (T.setTop (mkF m pc Ls st)) := by
  obtain ⟨⟨hx, hby, -, hown, -, -, -, hZ⟩, -, locs, -, Y⟩ := X
  exact OG.pre (fun _ k => Y.ldc2Long hx hown (mvT hZ w) (g := mkF m pc Ls st) rfl (hb hby hd) _ k) g
theorem OG.getF (X : OS B mL own nm rt Z n0 p l e R s m args below meth c T h cells slots) {R0 O n d host : String} {index : Nat} (w : (Cond.fieldLink own index R0 n d).before a0 Z = true ∨ (Cond.fieldLinkNest own index R0 n d host).before a0 Z = true) (via : Via Z R0 O n d) {a : Addr} {v : Value} (F : Fld Z h a O n d v) (hd : decode B pc = .ok (.getfield index, 3)) (g : ∀ T', OS B mL own nm rt Z n0 p l e R s m args below meth c T' h cells slots → OG p e below s n0 rc rs Q (T'.setTop (mkF m (pc + 3) Ls (v :: st)))) : OG p e below s n0 rc rs Q (T.setTop (mkF m pc Ls (.ref a :: st))) := by
  obtain ⟨h0, eT, locs, N, Y⟩ := X
  have h0' := h0
  obtain ⟨hx, hby, -, hown, -, -, -, hZ⟩ := h0'
  obtain ⟨T', Y', e', stp⟩ := RoadKit.getF Y hx hZ hown w via eT F (g := mkF m pc Ls (.ref a :: st)) rfl rfl (hb hby hd)
  exact OG.pre stp (g T' ⟨h0, e', locs, N, Y'⟩)
theorem OG.getS (X : OS B mL own nm rt Z n0 p l e R s m args below meth c T h cells slots) {R0 O n d host : String} {index : Nat} (w : (Cond.fieldLink own index R0 n d).before a0 Z = true ∨ (Cond.fieldLinkNest own index R0 n d host).before a0 Z = true) (via : Via Z R0 O n d) {v : Value} (F : Sta Z h O n d v) (hd : decode B pc = .ok (.getstatic index, 3)) (g : ∀ T', OS B mL own nm rt Z n0 p l e R s m args below meth c T' h cells slots → OG p e below s n0 rc rs Q (T'.setTop (mkF m (pc + 3) Ls (v :: st)))) : OG p e below s n0 rc rs Q (T.setTop (mkF m pc Ls st)) := by
  obtain ⟨h0, eT, locs, N, Y⟩ := X
  have h0' := h0
  obtain ⟨hx, hby, -, hown, -, -, -, hZ⟩ := h0'
  obtain ⟨T', Y', e', stp⟩ := RoadKit.getS2 Y hx hZ hown w via eT F (g := mkF m pc Ls st) rfl (hb hby hd)
  exact OG.pre stp (g T' ⟨h0, e', locs, N, Y'⟩)
theorem OG.putF (X : OS B mL own nm rt Z n0 p l e R s m args below meth c T h cells slots) {R0 O n d host C : String} {index kk : Nat} {ty : FieldType} (w : (Cond.fieldLink own index R0 n d).before a0 Z = true ∨ (Cond.fieldLinkNest own index R0 n d host).before a0 Z = true) (via : Via Z R0 O n d) {a : Addr} {v old : Value} (F : Fld Z h a O n d old) (E : Exa Z h a C) (L : (Cond.lays C O n d).before a0 Z = true ∨ ((Cond.laysFinal C O n d).before a0 Z = true ∧ own = O ∧ nm = "<init>")) (wi : (Cond.instantiable C kk).before a0 Z = true) (hty : parseFieldDescriptor d = some ty) (hn : narrow ty v = v) (hf : fits ty v = true) (hd : decode B pc = .ok (.putfield index, 3)) (ge : n0 ≤ a) (g : ∀ T' h', OS B mL own nm rt Z n0 p l e R s m args below meth c T' h' cells slots → Wr h h' a (slotOf Z O n d) v → OG p e below s n0 rc rs Q (T'.setTop (mkF m (pc + 3) Ls st))) : OG p e below s n0 rc rs Q (T.setTop (mkF m pc Ls (v :: .ref a :: st))) := by
  obtain ⟨h0, eT, locs, N, Y⟩ := X
  have h0' := h0
  obtain ⟨hx, hby, -, hown, hnm, -, -, hZ⟩ := h0'
  obtain ⟨T', h', Y', e', W, stp⟩ := RoadKit.putF Y hx hZ hown w via eT F E (L.imp id fun q => ⟨q.1, q.2.1, hnm.trans q.2.2⟩) wi hty hn hf (g := mkF m pc Ls (v :: .ref a :: st)) rfl rfl (hb hby hd)
  exact OG.pre stp (g T' h' ⟨h0, e', _, Fr.snoc Y' N ge, Y'⟩ W)
theorem OG.putFN (X : OS B mL own nm rt Z n0 p l e R s m args below meth c T h cells slots) {R0 O n d C : String} {index kk : Nat} {ty : FieldType} (w : (Cond.fieldLink own index R0 n d).before a0 Z = true) (via : Via Z R0 O n d) {a : Addr} {v v' old : Value} (F : Fld Z h a O n d old) (E : Exa Z h a C) (L : (Cond.lays C O n d).before a0 Z = true ∨ ((Cond.laysFinal C O n d).before a0 Z = true ∧ own = O ∧ nm = "<init>")) (wi : (Cond.instantiable C kk).before a0 Z = true) (hty : parseFieldDescriptor d = some ty) (hn : narrow ty v = v') (hf : fits ty v' = true) (hd : decode B pc = .ok (.putfield index, 3)) (ge : n0 ≤ a) (g : ∀ T' h', OS B mL own nm rt Z n0 p l e R s m args below meth c T' h' cells slots → Wr h h' a (slotOf Z O n d) v' → OG p e below s n0 rc rs Q (T'.setTop (mkF m (pc + 3) Ls st))) : OG p e below s n0 rc rs Q (T.setTop (mkF m pc Ls (v :: .ref a :: st))) := by
  obtain ⟨h0, eT, locs, N, Y⟩ := X
  have h0' := h0
  obtain ⟨hx, hby, -, hown, hnm, -, -, hZ⟩ := h0'
  obtain ⟨T', h', Y', e', W, stp⟩ := RoadKit.putFN Y hx hZ hown w via eT F E (L.imp id fun q => ⟨q.1, q.2.1, hnm.trans q.2.2⟩) wi hty hn hf (g := mkF m pc Ls (v :: .ref a :: st)) rfl rfl (hb hby hd)
  exact OG.pre stp (g T' h' ⟨h0, e', _, Fr.snoc Y' N ge, Y'⟩ W)
theorem OG.newO (X : OS B mL own nm rt Z n0 p l e R s m args below meth c T h cells slots) {C : String} {index n : Nat} (w : (Cond.classLink own index C).before a0 Z = true) (wi : (Cond.instantiable C n).before a0 Z = true) (wz : (Cond.initialized C).before a0 Z = true) (hd : decode B pc = .ok (.new index, 3)) (hc : cells + 1 ≤ R.cells) (hl : slots + n ≤ R.slots) (g : ∀ T' h' a, a = h.size → OS B mL own nm rt Z n0 p l e R s m args below meth c T' h' (cells + 1) (slots + n) → Ext h h' → Exa Z h' a C → (∀ {O nm d : String} {ty : FieldType}, Laid Z a0 C O nm d → parseFieldDescriptor d = some ty → Fld Z h' a O nm d (defaultValue ty)) → OG p e below s n0 rc rs Q (T'.setTop (mkF m (pc + 3) Ls (.ref a :: st)))) : OG p e below s n0 rc rs Q (T.setTop (mkF m pc Ls st)) := by
  obtain ⟨h0, eT, locs, N, Y⟩ := X
  have h0' := h0
  obtain ⟨hx, hby, -, hown, hnm, -, -, hZ⟩ := h0'
  obtain ⟨T', h', Y', e', E', A', D', -, stp⟩ := RoadKit.newO Y hx hZ hown w wi wz eT (g := mkF m pc Ls st) rfl (hb hby hd) hc hl
  exact OG.pre stp (g T' h' _ rfl ⟨h0, e', _, N, Y'⟩ E' A' D')
theorem OG.newP (X : OS B mL own nm rt Z n0 p l e R s m args below meth c T h cells slots) {aty : ArrayType} (w : (Cond.arrayClass (newarray.typeOf aty)).before a0 Z = true) {n : Int32} (hd : decode B pc = .ok (.newarray aty, 2)) (hn : ¬ n < 0) {cap : Nat} (hcap : n.toNatClampNeg ≤ cap) (hb8 : cap * 8 ≤ 536870912) (hc : cells + 1 ≤ R.cells) (hl : slots + cap ≤ R.slots) (g : ∀ T' h' a, a = h.size → OS B mL own nm rt Z n0 p l e R s m args below meth c T' h' (cells + 1) (slots + cap) → Ext h h' → (∃ cA, Arr Z h' a (newA cA (newarray.typeOf aty) n) (newarray.typeOf aty)) → OG p e below s n0 rc rs Q (T'.setTop (mkF m (pc + 2) Ls (.ref a :: st)))) : OG p e below s n0 rc rs Q (T.setTop (mkF m pc Ls (.int n :: st))) := by
  obtain ⟨h0, eT, locs, N, Y⟩ := X
  have h0' := h0
  obtain ⟨hx, hby, -, hown, hnm, -, -, hZ⟩ := h0'
  obtain ⟨T', h', cA, Y', e', E', A', stp⟩ := RoadKit.newP Y hx hZ w eT (g := mkF m pc Ls (.int n :: st)) rfl (hb hby hd) rfl hn hcap hb8 hc hl
  exact OG.pre stp (g T' h' _ rfl ⟨h0, e', _, N, Y'⟩ E' ⟨cA, A'⟩)
/-- an array of ints, bytes, chars, booleans: its length and what it holds -/
def Ia (Z : State) (h : Heap) (a : Addr) (ty : FieldType) (n : Nat) (f : Nat → Int32) : Prop := ∃ cl : Cell, Arr Z h a cl ty ∧ cl.slots.size = n ∧ n < 2 ^ 31 ∧ ∀ i, i < n → cl.slots[i]? = some (.int (f i))
variable {a b : Addr} {h' : Heap} {ty : FieldType} {n : Nat} {f : Nat → Int32} {sl : Nat} {v : Value} {wl : List Addr}
theorem Ia.lt (F : Ia Z h a ty n f) : a < h.size := by obtain ⟨c, A, -⟩ := F; exact A.lt
theorem Ia.ext (F : Ia Z h a ty n f) (E : Ext h h') : Ia Z h' a ty n f := by obtain ⟨c, A, r⟩ := F; exact ⟨c, A.ext E, r⟩
theorem Ia.other (F : Ia Z h b ty n f) (W : Wr h h' a sl v) (q : b ≠ a) : Ia Z h' b ty n f := by obtain ⟨c, A, r⟩ := F; exact ⟨c, A.other W q, r⟩
theorem Ia.keep (F : Ia Z h a ty n f) (K : Keep h h' wl) (q : a ∉ wl) : Ia Z h' a ty n f := by obtain ⟨c, A, r⟩ := F; exact ⟨c, ⟨K.2.1 a c A.1 q, A.2⟩, r⟩
theorem Ia.congr {f' : Nat → Int32} (F : Ia Z h a ty n f) (q : ∀ i, i < n → f i = f' i) : Ia Z h a ty n f' := by obtain ⟨c, A, r1, r2, r3⟩ := F; exact ⟨c, A, r1, r2, fun i hi => by rw [← q i hi]; exact r3 i hi⟩
theorem Ia.len (F : Ia Z h a ty n f) : n < 2 ^ 31 := by obtain ⟨c, A, r1, r2, r3⟩ := F; exact r2
theorem Ia.new {cA : ClassId} {k : Int32} (A : Arr Z h a (newA cA ty k) ty) (q : ¬ k < 0) (hk : k.toNatClampNeg = n) (hty : defaultValue ty = .int 0) : Ia Z h a ty n (fun _ => 0) := by
  subst hk
  refine ⟨_, A, sz_new _ _ _, ?_, fun i hi => ?_⟩
  · have := k.toInt_lt; simp only [Int32.toNatClampNeg]; omega
  · simp [newA, hi, hty]
theorem Ia.set {j : Nat} {x : Int32} (F : Ia Z h a ty n f) (W : Wr h h' a j (.int x)) : Ia Z h' a ty n (fun i => if i = j then x else f i) := by
  obtain ⟨c, A, r1, r2, r3⟩ := F
  refine ⟨_, A.same W, by rw [sz_set]; exact r1, r2, fun i hi => ?_⟩
  by_cases q : i = j
  · subst q; simp [Cell.setSlot, r1, hi]
  · have := r3 i hi
    simp only [Cell.setSlot, if_neg q]
    rw [Array.getElem?_setIfInBounds_ne (fun u => q u.symm)]; exact this
theorem idx32 {j : Int32} {n : Nat} (h1 : 0 ≤ j.toInt) (h2 : j.toInt < n) : ¬ (j < 0 ∨ n ≤ j.toNatClampNeg) := by
  have e0 : (0 : Int32).toInt = 0 := rfl
  simp only [Int32.lt_iff_toInt_lt, Int32.toNatClampNeg, e0]; omega
theorem len32 {n : Nat} (h : n < 2 ^ 31) : n.toInt32.toInt = n := Int32.toInt_ofNat_small h
theorem OG.iaload (X : OS B mL own nm rt Z n0 p l e R s m args below meth c T h cells slots) {a : Addr} {n : Nat} {f : Nat → Int32} (F : Ia Z h a .int n f) {j : Int32} (hj : 0 ≤ j.toInt ∧ j.toInt < n) (hd : decode B pc = .ok (.iaload, 1)) (g : OG p e below s n0 rc rs Q (T.setTop (mkF m (pc + 1) Ls (.int (f j.toInt.toNat) :: st)))) : OG p e below s n0 rc rs Q (T.setTop (mkF m pc Ls (.int j :: .ref a :: st))) := by
  obtain ⟨⟨hx, hby, -, -, -, -, -, hZ⟩, eT, locs, -, Y⟩ := X
  obtain ⟨cl, A, r1, r2, r3⟩ := F
  have hi := idx32 hj.1 hj.2
  have hq : j.toInt.toNat < n := by omega
  exact OG.pre (fun _ k => Y.iaload hx (j := j) (v := .int (f j.toInt.toNat)) (by rw [eT]; exact A.1) (State.isArrayOf_alike hZ.alike A.2.1) A.2.2 (by rw [r1]; exact hi) (r3 _ hq) (g := mkF m pc Ls (.int j :: .ref a :: st)) rfl rfl (hb hby hd) _ k) g
theorem OG.baload (X : OS B mL own nm rt Z n0 p l e R s m args below meth c T h cells slots) {a : Addr} {n : Nat} {f : Nat → Int32} (F : Ia Z h a .byte n f) {j : Int32} (hj : 0 ≤ j.toInt ∧ j.toInt < n) (hd : decode B pc = .ok (.baload, 1)) (g : OG p e below s n0 rc rs Q (T.setTop (mkF m (pc + 1) Ls (.int (f j.toInt.toNat) :: st)))) : OG p e below s n0 rc rs Q (T.setTop (mkF m pc Ls (.int j :: .ref a :: st))) := by
  obtain ⟨⟨hx, hby, -, -, -, -, -, hZ⟩, eT, locs, -, Y⟩ := X
  obtain ⟨cl, A, r1, r2, r3⟩ := F
  have hi := idx32 hj.1 hj.2
  have hq : j.toInt.toNat < n := by omega
  exact OG.pre (fun _ k => Y.baloadBytes hx (j := j) (v := .int (f j.toInt.toNat)) (by rw [eT]; exact A.1) (State.isArrayOf_alike hZ.alike A.2.1) A.2.2 (by rw [r1]; exact hi) (r3 _ hq) (g := mkF m pc Ls (.int j :: .ref a :: st)) rfl rfl (hb hby hd) _ k) g
theorem OG.zaload (X : OS B mL own nm rt Z n0 p l e R s m args below meth c T h cells slots) {a : Addr} {n : Nat} {f : Nat → Int32} (F : Ia Z h a .boolean n f) {j : Int32} (hj : 0 ≤ j.toInt ∧ j.toInt < n) (hd : decode B pc = .ok (.baload, 1)) (g : OG p e below s n0 rc rs Q (T.setTop (mkF m (pc + 1) Ls (.int (f j.toInt.toNat) :: st)))) : OG p e below s n0 rc rs Q (T.setTop (mkF m pc Ls (.int j :: .ref a :: st))) := by
  obtain ⟨⟨hx, hby, -, -, -, -, -, hZ⟩, eT, locs, -, Y⟩ := X
  obtain ⟨cl, A, r1, r2, r3⟩ := F
  have hi := idx32 hj.1 hj.2
  have hq : j.toInt.toNat < n := by omega
  exact OG.pre (fun _ k => Y.baloadBooleans hx (j := j) (v := .int (f j.toInt.toNat)) (by rw [eT]; exact A.1) (State.isArrayOf_alike hZ.alike A.2.1) A.2.2 (by rw [r1]; exact hi) (r3 _ hq) (g := mkF m pc Ls (.int j :: .ref a :: st)) rfl rfl (hb hby hd) _ k) g
theorem OG.caload (X : OS B mL own nm rt Z n0 p l e R s m args below meth c T h cells slots) {a : Addr} {n : Nat} {f : Nat → Int32} (F : Ia Z h a .char n f) {j : Int32} (hj : 0 ≤ j.toInt ∧ j.toInt < n) (hd : decode B pc = .ok (.caload, 1)) (g : OG p e below s n0 rc rs Q (T.setTop (mkF m (pc + 1) Ls (.int (f j.toInt.toNat) :: st)))) : OG p e below s n0 rc rs Q (T.setTop (mkF m pc Ls (.int j :: .ref a :: st))) := by
  obtain ⟨⟨hx, hby, -, -, -, -, -, hZ⟩, eT, locs, -, Y⟩ := X
  obtain ⟨cl, A, r1, r2, r3⟩ := F
  have hi := idx32 hj.1 hj.2
  have hq : j.toInt.toNat < n := by omega
  exact OG.pre (fun _ k => Y.caload hx (j := j) (v := .int (f j.toInt.toNat)) (by rw [eT]; exact A.1) (State.isArrayOf_alike hZ.alike A.2.1) A.2.2 (by rw [r1]; exact hi) (r3 _ hq) (g := mkF m pc Ls (.int j :: .ref a :: st)) rfl rfl (hb hby hd) _ k) g
theorem OG.saload (X : OS B mL own nm rt Z n0 p l e R s m args below meth c T h cells slots) {a : Addr} {n : Nat} {f : Nat → Int32} (F : Ia Z h a .short n f) {j : Int32} (hj : 0 ≤ j.toInt ∧ j.toInt < n) (hd : decode B pc = .ok (.saload, 1)) (g : OG p e below s n0 rc rs Q (T.setTop (mkF m (pc + 1) Ls (.int (f j.toInt.toNat) :: st)))) : OG p e below s n0 rc rs Q (T.setTop (mkF m pc Ls (.int j :: .ref a :: st))) := by
  obtain ⟨⟨hx, hby, -, -, -, -, -, hZ⟩, eT, locs, -, Y⟩ := X
  obtain ⟨cl, A, r1, r2, r3⟩ := F
  have hi := idx32 hj.1 hj.2
  have hq : j.toInt.toNat < n := by omega
  exact OG.pre (fun _ k => Y.saload hx (j := j) (v := .int (f j.toInt.toNat)) (by rw [eT]; exact A.1) (State.isArrayOf_alike hZ.alike A.2.1) A.2.2 (by rw [r1]; exact hi) (r3 _ hq) (g := mkF m pc Ls (.int j :: .ref a :: st)) rfl rfl (hb hby hd) _ k) g
theorem OG.arraylength (X : OS B mL own nm rt Z n0 p l e R s m args below meth c T h cells slots) {a : Addr} {ty : FieldType} {n : Nat} {f : Nat → Int32} (F : Ia Z h a ty n f) {z : Int32} (hz : z.toInt = n) (hd : decode B pc = .ok (.arraylength, 1)) (g : OG p e below s n0 rc rs Q (T.setTop (mkF m (pc + 1) Ls (.int z :: st)))) : OG p e below s n0 rc rs Q (T.setTop (mkF m pc Ls (.ref a :: st))) := by
  obtain ⟨⟨hx, hby, -, -, -, -, -, hZ⟩, eT, locs, -, Y⟩ := X
  obtain ⟨cl, A, r1, r2, r3⟩ := F
  have ez : cl.slots.size.toInt32 = z := by rw [← Int32.toInt_inj, r1, len32 r2, hz]
  exact OG.pre (fun _ k => Y.arraylength hx (by rw [eT]; exact A.1) (State.isArrayOf_alike hZ.alike A.2.1) (g := mkF m pc Ls (.ref a :: st)) rfl rfl (hb hby hd) _ (by rw [ez]; exact k)) g
theorem OG.iastore (X : OS B mL own nm rt Z n0 p l e R s m args below meth c T h cells slots) {a : Addr} {n : Nat} {f : Nat → Int32} (F : Ia Z h a .int n f) {j x : Int32} (hj : 0 ≤ j.toInt ∧ j.toInt < n) (hd : decode B pc = .ok (.iastore, 1)) (ge : n0 ≤ a) (g : ∀ T' h', OS B mL own nm rt Z n0 p l e R s m args below meth c T' h' cells slots → Wr h h' a j.toInt.toNat (.int (x)) → Ia Z h' a .int n (fun i => if i = j.toInt.toNat then x else f i) → OG p e below s n0 rc rs Q (T'.setTop (mkF m (pc + 1) Ls st))) : OG p e below s n0 rc rs Q (T.setTop (mkF m pc Ls (.int x :: .int j :: .ref a :: st))) := by
  obtain ⟨h0, eT, locs, N, Y⟩ := X
  have h0' := h0
  obtain ⟨hx, hby, -, hown, hnm, -, -, hZ⟩ := h0'
  have F' := F
  obtain ⟨cl, A, r1, r2, r3⟩ := F'
  obtain ⟨T', h', Y', e', W, stp⟩ := RoadKit.stI Y hx hZ eT A (j := j) (by rw [r1]; exact idx32 hj.1 hj.2) (g := mkF m pc Ls (.int x :: .int j :: .ref a :: st)) rfl rfl (hb hby hd)
  exact OG.pre stp (g T' h' ⟨h0, e', _, Fr.snoc Y' N ge, Y'⟩ W (F.set W))
theorem OG.bastore (X : OS B mL own nm rt Z n0 p l e R s m args below meth c T h cells slots) {a : Addr} {n : Nat} {f : Nat → Int32} (F : Ia Z h a .byte n f) {j x : Int32} (hj : 0 ≤ j.toInt ∧ j.toInt < n) (hd : decode B pc = .ok (.bastore, 1)) (ge : n0 ≤ a) (g : ∀ T' h', OS B mL own nm rt Z n0 p l e R s m args below meth c T' h' cells slots → Wr h h' a j.toInt.toNat (.int (x.toInt8.toInt32)) → Ia Z h' a .byte n (fun i => if i = j.toInt.toNat then x.toInt8.toInt32 else f i) → OG p e below s n0 rc rs Q (T'.setTop (mkF m (pc + 1) Ls st))) : OG p e below s n0 rc rs Q (T.setTop (mkF m pc Ls (.int x :: .int j :: .ref a :: st))) := by
  obtain ⟨h0, eT, locs, N, Y⟩ := X
  have h0' := h0
  obtain ⟨hx, hby, -, hown, hnm, -, -, hZ⟩ := h0'
  have F' := F
  obtain ⟨cl, A, r1, r2, r3⟩ := F'
  obtain ⟨T', h', Y', e', W, stp⟩ := RoadKit.stB Y hx hZ eT A (j := j) (by rw [r1]; exact idx32 hj.1 hj.2) (g := mkF m pc Ls (.int x :: .int j :: .ref a :: st)) rfl rfl (hb hby hd)
  exact OG.pre stp (g T' h' ⟨h0, e', _, Fr.snoc Y' N ge, Y'⟩ W (F.set W))
theorem OG.castore (X : OS B mL own nm rt Z n0 p l e R s m args below meth c T h cells slots) {a : Addr} {n : Nat} {f : Nat → Int32} (F : Ia Z h a .char n f) {j x : Int32} (hj : 0 ≤ j.toInt ∧ j.toInt < n) (hd : decode B pc = .ok (.castore, 1)) (ge : n0 ≤ a) (g : ∀ T' h', OS B mL own nm rt Z n0 p l e R s m args below meth c T' h' cells slots → Wr h h' a j.toInt.toNat (.int (x.toUInt32.toUInt16.toUInt32.toInt32)) → Ia Z h' a .char n (fun i => if i = j.toInt.toNat then x.toUInt32.toUInt16.toUInt32.toInt32 else f i) → OG p e below s n0 rc rs Q (T'.setTop (mkF m (pc + 1) Ls st))) : OG p e below s n0 rc rs Q (T.setTop (mkF m pc Ls (.int x :: .int j :: .ref a :: st))) := by
  obtain ⟨h0, eT, locs, N, Y⟩ := X
  have h0' := h0
  obtain ⟨hx, hby, -, hown, hnm, -, -, hZ⟩ := h0'
  have F' := F
  obtain ⟨cl, A, r1, r2, r3⟩ := F'
  obtain ⟨T', h', Y', e', W, stp⟩ := RoadKit.stC Y hx hZ eT A (j := j) (by rw [r1]; exact idx32 hj.1 hj.2) (g := mkF m pc Ls (.int x :: .int j :: .ref a :: st)) rfl rfl (hb hby hd)
  exact OG.pre stp (g T' h' ⟨h0, e', _, Fr.snoc Y' N ge, Y'⟩ W (F.set W))
theorem OG.zastore (X : OS B mL own nm rt Z n0 p l e R s m args below meth c T h cells slots) {a : Addr} {n : Nat} {f : Nat → Int32} (F : Ia Z h a .boolean n f) {j x : Int32} (hj : 0 ≤ j.toInt ∧ j.toInt < n) (hd : decode B pc = .ok (.bastore, 1)) (ge : n0 ≤ a) (g : ∀ T' h', OS B mL own nm rt Z n0 p l e R s m args below meth c T' h' cells slots → Wr h h' a j.toInt.toNat (.int (x &&& 1)) → Ia Z h' a .boolean n (fun i => if i = j.toInt.toNat then x &&& 1 else f i) → OG p e below s n0 rc rs Q (T'.setTop (mkF m (pc + 1) Ls st))) : OG p e below s n0 rc rs Q (T.setTop (mkF m pc Ls (.int x :: .int j :: .ref a :: st))) := by
  obtain ⟨h0, eT, locs, N, Y⟩ := X
  have h0' := h0
  obtain ⟨hx, hby, -, hown, hnm, -, -, hZ⟩ := h0'
  have F' := F
  obtain ⟨cl, A, r1, r2, r3⟩ := F'
  obtain ⟨T', h', Y', e', W, stp⟩ := RoadKit.stZ Y hx hZ eT A (j := j) (by rw [r1]; exact idx32 hj.1 hj.2) (g := mkF m pc Ls (.int x :: .int j :: .ref a :: st)) rfl rfl (hb hby hd)
  exact OG.pre stp (g T' h' ⟨h0, e', _, Fr.snoc Y' N ge, Y'⟩ W (F.set W))
theorem OG.callS (X : OS B mL own nm rt Z n0 p l e R s m args below meth c T h cells slots) {y : MethodName} {index : Nat} {Bc : ByteArray} {mc : Nat} {rtc : Option FieldType} {rmc : Room} {asc : Array Value} {Qc : Option Value → Heap → Prop} (w1 : (Cond.methodLink own index y).before a0 Z = true) (w2 : (Cond.static y).before a0 Z = true) (hy : y.cls ≠ "java/lang/invoke/MethodHandle" ∧ y.cls ≠ "java/lang/invoke/VarHandle") (hM : OM l y Bc mc rtc rmc [] Z asc h n0 Qc) (wc : (Cond.code y Bc mc rtc).before a0 Z = true) (wz : (Cond.initialized y.cls).before a0 Z = true) (hfr : rmc.frames + 1 ≤ R.frames) {W : Nat} (hlo : W + (mc + 11) + rmc.locals ≤ R.locals) (hsz : Ls.size = mL) {argsL : List Value} {ps : List FieldType} {rr : Option FieldType} (hpd : parseMethodDescriptor y.desc = some ⟨ps, rr⟩) (hlen : argsL.length = ps.length) (hd : decode B pc = .ok (.invokestatic index, 3)) (has : argsL.toArray = asc) (hW : (st.map fun v => v.category).sum ≤ W) (hcl : cells + rmc.cells ≤ R.cells) (hsl : slots + rmc.slots ≤ R.slots) (g : ∀ v T' h', OS B mL own nm rt Z n0 p l e R s m args below meth c T' h' (cells + rmc.cells) (slots + rmc.slots) → Qc v h' → OG p e below s n0 rc rs Q (T'.setTop (mkF m (pc + 3) Ls (v.toList ++ st)))) : OG p e below s n0 rc rs Q (T.setTop (mkF m pc Ls (argsL.reverse ++ st))) := by
  obtain ⟨h0, eT, locs, N, Y⟩ := X
  have h0' := h0
  obtain ⟨hx, hby, hml, hown, hnm, -, -, hZ⟩ := h0'
  obtain ⟨_, _, ⟨T', L', k', n'⟩, -, Y', ⟨Lc, hQ, q2, q3, q4⟩, stp⟩ := Jvm.LawKit.callS Y hx (y := y) hown (mvT hZ w1) (mvT hZ w2) (mvT hZ wz) (mvT hZ wc) hy (backOf (W := W) (Z := Z) (h := h) (rm := rmc) (as' := asc) (Q := fun v hh L => Qc v hh ∧ Fr n0 L) hM hZ wc wz hfr hlo) (g := mkF m pc Ls (argsL.reverse ++ st)) rfl (by rw [hml]; exact hsz) (argsL := argsL) (rest := st) (lenOf hpd hlen) rfl (by show 2 * 0 + _ ≤ _; omega) (hb hby hd) (fun _ _ => ⟨has, eT, hcl, hsl⟩)
  dsimp only [Pt.U, Pt.locs, Pt.cells, Pt.slots] at Y' q2 q3 q4 stp hQ
  subst q2 q3 q4
  exact OG.pre stp (g _ T' _ ⟨h0, rfl, _, Fr.app N hQ.2, Y'⟩ hQ.1)

theorem OG.callC (X : OS B mL own nm rt Z n0 p l e R s m args below meth c T h cells slots) {y : MethodName} {index : Nat} {Bc : ByteArray} {mc : Nat} {rmc : Room} {asc : Array Value} {Qc : Option Value → Heap → Prop} (hy1 : y.name = "<init>") (w1 : (Cond.methodLink own index y).before a0 Z = true) (w2 : (Cond.instanceMethod y).before a0 Z = true) (hy : y.cls ≠ "java/lang/invoke/MethodHandle" ∧ y.cls ≠ "java/lang/invoke/VarHandle") {a : Addr} (hM : OM l y Bc mc none rmc [] Z asc h n0 Qc) (wc : (Cond.code y Bc mc none).before a0 Z = true) (wz : (Cond.initialized y.cls).before a0 Z = true) (hfr : rmc.frames + 1 ≤ R.frames) {W : Nat} (hlo : W + (mc + 11) + rmc.locals ≤ R.locals) (hsz : Ls.size = mL) {argsL : List Value} {ps : List FieldType} {rr : Option FieldType} (hpd : parseMethodDescriptor y.desc = some ⟨ps, rr⟩) (hlen : argsL.length = ps.length) (hd : decode B pc = .ok (.invokespecial index, 3)) (has : (Value.ref a :: argsL).toArray = asc) (hW : (st.map fun v => v.category).sum ≤ W) (hcl : cells + rmc.cells ≤ R.cells) (hsl : slots + rmc.slots ≤ R.slots) (g : ∀ v T' h', OS B mL own nm rt Z n0 p l e R s m args below meth c T' h' (cells + rmc.cells) (slots + rmc.slots) → Qc v h' → OG p e below s n0 rc rs Q (T'.setTop (mkF m (pc + 3) Ls (v.toList ++ st)))) : OG p e below s n0 rc rs Q (T.setTop (mkF m pc Ls (argsL.reverse ++ .ref a :: st))) := by
  obtain ⟨h0, eT, locs, N, Y⟩ := X
  have h0' := h0
  obtain ⟨hx, hby, hml, hown, hnm, -, -, hZ⟩ := h0'
  obtain ⟨_, _, ⟨T', L', k', n'⟩, -, Y', ⟨Lc, hQ, q2, q3, q4⟩, stp⟩ := Y.specialBack hx (y := y) hy1 hown (mvT hZ w1) (mvT hZ w2) (mvT hZ wc) hy (backOf (W := W) (Z := Z) (h := h) (rm := rmc) (as' := asc) (Q := fun v hh L => Qc v hh ∧ Fr n0 L) hM hZ wc wz hfr hlo) (g := mkF m pc Ls (argsL.reverse ++ .ref a :: st)) rfl (by rw [hml]; exact hsz) (Steps.refl _) (a := a) (argsL := argsL) (rest := st) (lenOf hpd hlen) rfl (by show 2 * 0 + _ ≤ _; omega) (hb hby hd) (fun _ _ => ⟨has, eT, hcl, hsl⟩)
  dsimp only [Pt.U, Pt.locs, Pt.cells, Pt.slots] at Y' q2 q3 q4 stp hQ
  subst q2 q3 q4
  exact OG.pre (fun _ k => stp.trans k) (g _ T' _ ⟨h0, rfl, _, Fr.app N hQ.2, Y'⟩ hQ.1)

theorem OG.callV (X : OS B mL own nm rt Z n0 p l e R s m args below meth c T h cells slots) {y : MethodName} {index : Nat} {Bc : ByteArray} {mc : Nat} {rtc : Option FieldType} {rmc : Room} {asc : Array Value} {Qc : Option Value → Heap → Prop} {z : MethodName} {C : String} (w1 : (Cond.methodLink own index y).before a0 Z = true) (w2 : (Cond.declares y).before a0 Z = true) (w3 : NotFace s y) (w4 : (Cond.selects C y z).before a0 Z = true) (w5 : (Cond.instanceMethod z).before a0 Z = true) (hy : y.cls ≠ "java/lang/invoke/MethodHandle" ∧ y.cls ≠ "java/lang/invoke/VarHandle") {a : Addr} (E : Exa Z h a C) (hM : OM l z Bc mc rtc rmc [] Z asc h n0 Qc) (wc : (Cond.code z Bc mc rtc).before a0 Z = true) (wz : (Cond.initialized z.cls).before a0 Z = true) (hfr : rmc.frames + 1 ≤ R.frames) {W : Nat} (hlo : W + (mc + 11) + rmc.locals ≤ R.locals) (hsz : Ls.size = mL) {argsL : List Value} {ps : List FieldType} {rr : Option FieldType} (hpd : parseMethodDescriptor y.desc = some ⟨ps, rr⟩) (hlen : argsL.length = ps.length) (hd : decode B pc = .ok (.invokevirtual index, 3)) (has : (Value.ref a :: argsL).toArray = asc) (hW : (st.map fun v => v.category).sum ≤ W) (hcl : cells + rmc.cells ≤ R.cells) (hsl : slots + rmc.slots ≤ R.slots) (g : ∀ v T' h', OS B mL own nm rt Z n0 p l e R s m args below meth c T' h' (cells + rmc.cells) (slots + rmc.slots) → Qc v h' → OG p e below s n0 rc rs Q (T'.setTop (mkF m (pc + 3) Ls (v.toList ++ st)))) : OG p e below s n0 rc rs Q (T.setTop (mkF m pc Ls (argsL.reverse ++ .ref a :: st))) := by
  obtain ⟨h0, eT, locs, N, Y⟩ := X
  have h0' := h0
  obtain ⟨hx, hby, hml, hown, hnm, -, -, hZ⟩ := h0'
  obtain ⟨cq, kq, qa, qb, qc⟩ := isOf hZ eT E
  obtain ⟨_, _, ⟨T', L', k', n'⟩, -, Y', ⟨Lc, hQ, q2, q3, q4⟩, stp⟩ := Y.virtualBack hx (y := y) (z := z) hown (mvT hZ w1) (mvT hZ w2) w3 (mvT hZ w4) (mvT hZ w5) hy (backOf (W := W) (Z := Z) (h := h) (rm := rmc) (as' := asc) (Q := fun v hh L => Qc v hh ∧ Fr n0 L) hM hZ wc wz hfr hlo) qa qc (g := mkF m pc Ls (argsL.reverse ++ .ref a :: st)) rfl (by rw [hml]; exact hsz) (Steps.refl _) (argsL := argsL) (rest := st) (lenOf hpd hlen) rfl (by show 2 * 0 + _ ≤ _; omega) (hb hby hd) (fun _ _ => ⟨has, eT, hcl, hsl⟩)
  dsimp only [Pt.U, Pt.locs, Pt.cells, Pt.slots] at Y' q2 q3 q4 stp hQ
  subst q2 q3 q4
  exact OG.pre (fun _ k => stp.trans k) (g _ T' _ ⟨h0, rfl, _, Fr.app N hQ.2, Y'⟩ hQ.1)

theorem selP {y y' : MethodName} {args : Array Value} {s : State} (hc : y'.cls = y.cls) (w : (Cond.selects y'.cls y' y').before args s = true) (hp : s.PrivateAt y) (hi : (Cond.instanceMethod y).before args s = true) (hy : y.cls ≠ "java/lang/invoke/MethodHandle" ∧ y.cls ≠ "java/lang/invoke/VarHandle") : (Cond.selects y.cls y y).before args s = true := by
  obtain ⟨c2, r2, m2, q1, q2, q3, q4, kP, hkP, hkPi⟩ := Cond.selects_spec w
  exact selects_self_of_private (c := m2.cls) (by rw [← hc]; exact findClass_of_methodNamed q3) hkP hkPi hp hi hy
theorem OG.callP (X : OS B mL own nm rt Z n0 p l e R s m args below meth c T h cells slots) {y : MethodName} {index : Nat} {Bc : ByteArray} {mc : Nat} {rtc : Option FieldType} {rmc : Room} {asc : Array Value} {Qc : Option Value → Heap → Prop} {y' : MethodName} (w1 : (Cond.methodLink own index y).before a0 Z = true) (w2 : (Cond.instanceMethod y).before a0 Z = true) (hc' : y'.cls = y.cls) (w3 : (Cond.selects y'.cls y' y').before a0 Z = true) (w4 : (Cond.privateMethod y).before a0 Z = true) (hy : y.cls ≠ "java/lang/invoke/MethodHandle" ∧ y.cls ≠ "java/lang/invoke/VarHandle") {C : String} {a : Addr} (E : Exa Z h a C) (hM : OM l y Bc mc rtc rmc [] Z asc h n0 Qc) (wc : (Cond.code y Bc mc rtc).before a0 Z = true) (wz : (Cond.initialized y.cls).before a0 Z = true) (hfr : rmc.frames + 1 ≤ R.frames) {W : Nat} (hlo : W + (mc + 11) + rmc.locals ≤ R.locals) (hsz : Ls.size = mL) {argsL : List Value} {ps : List FieldType} {rr : Option FieldType} (hpd : parseMethodDescriptor y.desc = some ⟨ps, rr⟩) (hlen : argsL.length = ps.length) (hd : decode B pc = .ok (.invokevirtual index, 3)) (has : (Value.ref a :: argsL).toArray = asc) (hW : (st.map fun v => v.category).sum ≤ W) (hcl : cells + rmc.cells ≤ R.cells) (hsl : slots + rmc.slots ≤ R.slots) (g : ∀ v T' h', OS B mL own nm rt Z n0 p l e R s m args below meth c T' h' (cells + rmc.cells) (slots + rmc.slots) → Qc v h' → OG p e below s n0 rc rs Q (T'.setTop (mkF m (pc + 3) Ls (v.toList ++ st)))) : OG p e below s n0 rc rs Q (T.setTop (mkF m pc Ls (argsL.reverse ++ .ref a :: st))) := by
  obtain ⟨h0, eT, locs, N, Y⟩ := X
  have h0' := h0
  obtain ⟨hx, hby, hml, hown, hnm, -, -, hZ⟩ := h0'
  obtain ⟨cq, qa, qb⟩ := E.cell
  have hpr : s.PrivateAt y := Cond.privateMethod_at (mvP hZ w4 (args := #[]))
  obtain ⟨_, _, ⟨T', L', k', n'⟩, -, Y', ⟨Lc, hQ, q2, q3, q4⟩, stp⟩ := Y.privateBack hx (y := y) hown (mvT hZ w1) (mvT hZ w2) (selP hc' (mvT hZ w3) hpr (mvT hZ w2) hy) hpr (mvT hZ wc) hy (backOf (W := W) (Z := Z) (h := h) (rm := rmc) (as' := asc) (Q := fun v hh L => Qc v hh ∧ Fr n0 L) hM hZ wc wz hfr hlo) (g := mkF m pc Ls (argsL.reverse ++ .ref a :: st)) rfl (by rw [hml]; exact hsz) (Steps.refl _) (a := a) (by rw [eT]; exact qa) qb (argsL := argsL) (rest := st) (lenOf hpd hlen) rfl (by show 2 * 0 + _ ≤ _; omega) (hb hby hd) (fun _ _ => ⟨has, eT, hcl, hsl⟩)
  dsimp only [Pt.U, Pt.locs, Pt.cells, Pt.slots] at Y' q2 q3 q4 stp hQ
  subst q2 q3 q4
  exact OG.pre (fun _ k => stp.trans k) (g _ T' _ ⟨h0, rfl, _, Fr.app N hQ.2, Y'⟩ hQ.1)

theorem OG.initO (X : OS B mL own nm rt Z n0 p l e R s m args below meth c T h cells slots) {index : Nat} (w1 : (Cond.methodLink own index Lib.objectInit).before a0 Z = true) (w2 : (Cond.instanceMethod Lib.objectInit).before a0 Z = true) (w3 : (Cond.code Lib.objectInit ⟨#[0xb1]⟩ 1 none).before a0 Z = true) {a : Addr} (hd : decode B pc = .ok (.invokespecial index, 3)) (hsz : Ls.size = mL) (hf : 1 ≤ R.frames) {W : Nat} (hW : (st.map fun v => v.category).sum ≤ W) (hlo : W + 12 ≤ R.locals) (g : ∀ T', OS B mL own nm rt Z n0 p l e R s m args below meth c T' h cells slots → OG p e below s n0 rc rs Q (T'.setTop (mkF m (pc + 3) Ls st))) : OG p e below s n0 rc rs Q (T.setTop (mkF m pc Ls (.ref a :: st))) := by
  obtain ⟨h0, eT, locs, N, Y⟩ := X
  have h0' := h0
  obtain ⟨hx, hby, hml, hown, hnm, -, -, hZ⟩ := h0'
  obtain ⟨T', Y', e', stp⟩ := RoadKit.initO Y hx hZ hown w1 w2 w3 eT (g := mkF m pc Ls (.ref a :: st)) rfl (by rw [hml]; exact hsz) rfl (hb hby hd) hf (W := W) (by show 2 * 0 + _ ≤ _; omega) hlo
  exact OG.pre stp (g T' ⟨h0, e', _, N, Y'⟩)
theorem Ia.toArv (F : Ia Z h a .int n f) {z : Int32} (hz : z.toInt = n) : ∃ k, Arv Z h a k .int z ((List.range n).map fun i => .int (f i)) (.int 0) := by
  obtain ⟨c, A, r1, r2, r3⟩ := F
  refine ⟨c.cls, c, A, rfl, ?_, ?_, ?_, ?_⟩
  · rw [r1]; simp only [Int32.toNatClampNeg]; omega
  · rw [Int32.lt_iff_toInt_lt]; have : (0 : Int32).toInt = 0 := rfl
    omega
  · intro i hi; rw [r1] at hi; rw [r3 i hi]; simp [List.getD_eq_getElem?_getD, hi]
  · intro i hi; rw [r1] at hi; simp [List.getD_eq_getElem?_getD, hi, fits]
theorem Ia.ofArv {k : ClassId} {z : Int32} {vs : List Value} (W : Arv Z h a k .int z vs (.int 0)) (hz : z.toInt = n) (H : ∀ i, i < n → vs.getD i (.int 0) = .int (f i)) : Ia Z h a .int n f := by
  obtain ⟨c, A, -, S, -, Hs, -⟩ := W
  have hs : c.slots.size = n := by rw [S]; simp only [Int32.toNatClampNeg]; omega
  exact ⟨c, A, hs, by have := z.toInt_lt; omega, fun i hi => by rw [Hs i (by rw [hs]; exact hi), H i hi]⟩
theorem OG.arraycopyI (X : OS B mL own nm rt Z n0 p l e R s m args below meth c T h cells slots) {index : Nat} (w1 : (Cond.methodLink own index Jvm.Stand.acN).before a0 Z = true) (w2 : (Cond.native Jvm.Stand.acN).before a0 Z = true) (w3 : (Cond.static Jvm.Stand.acN).before a0 Z = true) (w4 : (Cond.initialized "java/lang/System").before a0 Z = true) {a b : Addr} {n n' : Nat} {f f' : Nat → Int32} (F : Ia Z h a .int n f) (G : Ia Z h b .int n' f') {nn : Int32} {q : Nat} (hq : nn.toInt = q) (h1 : q ≤ n) (h2 : q ≤ n') (ge : n0 ≤ b) (hd : decode B pc = .ok (.invokestatic index, 3)) (hsz : Ls.size = mL) (hf : 1 ≤ R.frames) {W : Nat} (hW : (st.map fun v => v.category).sum ≤ W) (hlo : W + 18 ≤ R.locals) (g : ∀ T' h', OS B mL own nm rt Z n0 p l e R s m args below meth c T' h' cells slots → Keep h h' [b] → Ia Z h' b .int n' (fun i => if i < q then f i else f' i) → OG p e below s n0 rc rs Q (T'.setTop (mkF m (pc + 3) Ls st))) : OG p e below s n0 rc rs Q (T.setTop (mkF m pc Ls (.int nn :: .int 0 :: .ref b :: .int 0 :: .ref a :: st))) := by
  obtain ⟨h0, eT, locs, N, Y⟩ := X
  have h0' := h0
  obtain ⟨hx, hby, hml, hown, hnm, -, -, hZ⟩ := h0'
  have la := F.len
  have lb := G.len
  obtain ⟨ka, VA⟩ := F.toArv (z := n.toInt32) (len32 la)
  obtain ⟨kb, VB⟩ := G.toArv (z := n'.toInt32) (len32 lb)
  have e0 : (0 : Int32).toNatClampNeg = 0 := rfl
  have eq : nn.toNatClampNeg = q := by simp only [Int32.toNatClampNeg]; omega
  have ea : n.toInt32.toNatClampNeg = n := by simp only [Int32.toNatClampNeg, len32 la]; omega
  have eb : n'.toInt32.toNatClampNeg = n' := by simp only [Int32.toNatClampNeg, len32 lb]; omega
  have hnn : ¬ nn < 0 := by rw [Int32.lt_iff_toInt_lt]; have : (0 : Int32).toInt = 0 := rfl; omega
  obtain ⟨T', h', L, Y', e', N', K, V, stp⟩ := cpA Y hx hZ hown w1 w2 w3 w4 eT VA VB (Or.inl ⟨rfl, rfl⟩) (sp := 0) (dp := 0) (nn := nn) (by decide) (by decide) hnn (by rw [e0, eq, ea]; omega) (by rw [e0, eq, eb]; omega) rfl (by rw [e0, eq]; simp; omega) N ge (g := mkF m pc Ls (.int nn :: .int 0 :: .ref b :: .int 0 :: .ref a :: st)) rfl (by rw [hml]; exact hsz) rfl (hb hby hd) hf (W := W) (by show 2 * 0 + _ ≤ _; omega) (by exact hlo)
  refine OG.pre stp (g T' h' ⟨h0, e', L, N', Y'⟩ K (Ia.ofArv V (len32 lb) (fun i hi => ?_)))
  rw [e0, eq]
  by_cases hi2 : i < q
  · simp [List.getD_eq_getElem?_getD, List.getElem?_append, hi2, Nat.lt_of_lt_of_le hi2 h1]
  · simp [List.getD_eq_getElem?_getD, List.getElem?_append, hi2, hi, show q + (i - q) = i by omega]
end OwnKit
end Jvm.RoadKit

namespace Jvm.Pilot.@@N@@
open Jvm Jvm.ClassFile Sem Op Lib Jvm.Free Jvm.Stand Jvm.LawKit Jvm.RoadKit Bundle Jvm.Pilot.@@N@@.Jvm.D
theorem d1_0 : decode method_3_code 0 = .ok (.iload_n 0, 1) := by decide +kernel
theorem d1_1 : decode method_3_code 1 = .ok (.bipush 8, 2) := by decide +kernel
theorem d1_3 : decode method_3_code 3 = .ok (.iload_n 2, 1) := by decide +kernel
theorem d1_4 : decode method_3_code 4 = .ok (.imul, 1) := by decide +kernel
theorem d1_5 : decode method_3_code 5 = .ok (.iushr, 1) := by decide +kernel
theorem d1_6 : decode method_3_code 6 = .ok (.sipush 255, 3) := by decide +kernel
theorem d1_9 : decode method_3_code 9 = .ok (.iand, 1) := by decide +kernel
theorem d1_10 : decode method_3_code 10 = .ok (.istore_n 3, 1) := by decide +kernel
theorem d1_11 : decode method_3_code 11 = .ok (.iload_n 1, 1) := by decide +kernel
theorem d1_12 : decode method_3_code 12 = .ok (.iload_n 2, 1) := by decide +kernel
theorem d1_13 : decode method_3_code 13 = .ok (.iushr, 1) := by decide +kernel
theorem d1_14 : decode method_3_code 14 = .ok (.iconst 1, 1) := by decide +kernel
theorem d1_15 : decode method_3_code 15 = .ok (.iand, 1) := by decide +kernel
theorem d1_16 : decode method_3_code 16 = .ok (.ifCond .eq 12, 3) := by decide +kernel
theorem d1_28 : decode method_3_code 28 = .ok (.iload_n 3, 1) := by decide +kernel
theorem d1_29 : decode method_3_code 29 = .ok (.i2b, 1) := by decide +kernel
theorem d1_30 : decode method_3_code 30 = .ok (.ireturn, 1) := by decide +kernel
theorem d1_19 : decode method_3_code 19 = .ok (.sipush 128, 3) := by decide +kernel
theorem d1_22 : decode method_3_code 22 = .ok (.iload_n 3, 1) := by decide +kernel
theorem d1_23 : decode method_3_code 23 = .ok (.bipush 63, 2) := by decide +kernel
theorem d1_25 : decode method_3_code 25 = .ok (.iand, 1) := by decide +kernel
theorem d1_26 : decode method_3_code 26 = .ok (.ior, 1) := by decide +kernel
theorem d1_27 : decode method_3_code 27 = .ok (.istore_n 3, 1) := by decide +kernel
def F1 (q : Int32) (k : Int32) (i : Int32) : Int32 := (if (((k.toUInt32 >>> (i &&& 31).toUInt32).toInt32) &&& (1 : Int32)) = (0 : Int32) then (((((q.toUInt32 >>> (((8 : Int32) * i) &&& 31).toUInt32).toInt32) &&& (255 : Int32)).toInt8.toInt32)).toInt8.toInt32 else ((((128 : Int32) ||| ((((q.toUInt32 >>> (((8 : Int32) * i) &&& 31).toUInt32).toInt32) &&& (255 : Int32)) &&& (63 : Int32))).toInt8.toInt32)).toInt8.toInt32)
theorem pn_1 : plainName "com/example/skipstone/skipstone/index/StringEncodingWellFormedPinLaw" = true := by first | (simp [plainName, overriddenIn]; done) | decide +kernel
theorem ef_1 (m : MethodId) (q : Int32) (k : Int32) (i : Int32) : entryFrame m #[(.int q), (.int k), (.int i)] 4 = mkF m 0 #[.val (.int q), .val (.int k), .val (.int i), .unset] [] := by first | (simp [entryFrame, mkF, argsToLocals, Value.category]; done) | rfl
def Q1 (Z : State) (q : Int32) (k : Int32) (i : Int32)  (h0 : Heap) : Option Value → Heap → Prop := fun v h => v = some (.int (F1 q k i)) ∧ h = h0
abbrev room1 : Room := { frames := 0, cells := 0, slots := 0, locals := 0 }
set_option maxRecDepth 65536 in
set_option maxHeartbeats 40000000 in
theorem rm1 (l : Launch) (Z : State) (a0 : Array Value) (hw : ∀ d ∈ tables_1, d.before a0 Z = true) (ws : List Jvm.Cond) (q : Int32) (k : Int32) (i : Int32)  (h0 : Heap) (n0 : Nat)  :
    OM l (⟨"com/example/skipstone/skipstone/index/StringEncodingWellFormedPinLaw", "pick", "(III)B"⟩ : MethodName) method_3_code 4 (some .byte) room1 ws Z #[(.int q), (.int k), (.int i)] h0 n0 (Q1 Z q k i  h0) := by
  refine OM.of (plainFor_of_name pn_1) (fun m => ef_1 m q k i) ?_
  intro p e s m below meth c T X
  refine OG.iloadN X d1_0 rfl ?_
  refine OG.bipush X d1_1 (z := (8 : Int32)) rfl ?_
  refine OG.iloadN X d1_3 rfl ?_
  refine OG.imul X d1_4 ?_
  refine OG.iushr X d1_5 ?_
  refine OG.sipush X d1_6 (z := (255 : Int32)) rfl ?_
  refine OG.iand X d1_9 ?_
  refine OG.istoreN X d1_10 (l' := #[.val (.int q), .val (.int k), .val (.int i), .val (.int (((q.toUInt32 >>> (((8 : Int32) * i) &&& 31).toUInt32).toInt32) &&& (255 : Int32)))]) rfl ?_
  refine OG.iloadN X d1_11 rfl ?_
  refine OG.iloadN X d1_12 rfl ?_
  refine OG.iushr X d1_13 ?_
  refine OG.iconst X d1_14 (z := (1 : Int32)) rfl ?_
  refine OG.iand X d1_15 ?_
  refine OG.if_eq X d1_16 (pc' := 28) (by decide) ?_ ?_
  · intro c16
    refine OG.iloadN X d1_28 rfl ?_
    refine OG.i2b X d1_29 ?_
    exact OG.retN X (t := .byte) d1_30 (by simp) (by decide) (by decide) ⟨by rw [F1, if_pos c16]; try rfl, rfl⟩
  · intro c16
    refine OG.sipush X d1_19 (z := (128 : Int32)) rfl ?_
    refine OG.iloadN X d1_22 rfl ?_
    refine OG.bipush X d1_23 (z := (63 : Int32)) rfl ?_
    refine OG.iand X d1_25 ?_
    refine OG.ior X d1_26 ?_
    refine OG.istoreN X d1_27 (l' := #[.val (.int q), .val (.int k), .val (.int i), .val (.int ((128 : Int32) ||| ((((q.toUInt32 >>> (((8 : Int32) * i) &&& 31).toUInt32).toInt32) &&& (255 : Int32)) &&& (63 : Int32))))]) rfl ?_
    refine OG.iloadN X d1_28 rfl ?_
    refine OG.i2b X d1_29 ?_
    exact OG.retN X (t := .byte) d1_30 (by simp) (by decide) (by decide) ⟨by rw [F1, if_neg c16]; try rfl, rfl⟩
def bb (f : Nat → Int32) (j : Nat) : Int := (f j &&& 255).toInt
def SPr (a c1 c2 c3 r k : Int) : Prop := (k = 1 ∧ a < 128) ∨ (k = 2 ∧ 194 ≤ a ∧ a < 224 ∧ 2 ≤ r ∧ 128 ≤ c1 ∧ c1 ≤ 191) ∨ (k = 3 ∧ 224 ≤ a ∧ a < 240 ∧ 3 ≤ r ∧ 128 ≤ c1 ∧ c1 ≤ 191 ∧ (a = 224 → 160 ≤ c1) ∧ (a = 237 → c1 ≤ 159) ∧ 128 ≤ c2 ∧ c2 ≤ 191) ∨ (k = 4 ∧ 240 ≤ a ∧ a < 245 ∧ 4 ≤ r ∧ 128 ≤ c1 ∧ c1 ≤ 191 ∧ (a = 240 → 144 ≤ c1) ∧ (a = 244 → c1 ≤ 143) ∧ 128 ≤ c2 ∧ c2 ≤ 191 ∧ 128 ≤ c3 ∧ c3 ≤ 191) ∨
  (k = -1 ∧ ¬ a < 128 ∧ ¬ (194 ≤ a ∧ a < 224 ∧ 2 ≤ r ∧ 128 ≤ c1 ∧ c1 ≤ 191) ∧ ¬ (224 ≤ a ∧ a < 240 ∧ 3 ≤ r ∧ 128 ≤ c1 ∧ c1 ≤ 191 ∧ (a = 224 → 160 ≤ c1) ∧ (a = 237 → c1 ≤ 159) ∧ 128 ≤ c2 ∧ c2 ≤ 191) ∧ ¬ (240 ≤ a ∧ a < 245 ∧ 4 ≤ r ∧ 128 ≤ c1 ∧ c1 ≤ 191 ∧ (a = 240 → 144 ≤ c1) ∧ (a = 244 → c1 ≤ 143) ∧ 128 ≤ c2 ∧ c2 ≤ 191 ∧ 128 ≤ c3 ∧ c3 ≤ 191))
def nxt (a c1 c2 c3 r : Int) : Int := if a < 128 then 1 else if (194 ≤ a ∧ a < 224 ∧ 2 ≤ r ∧ 128 ≤ c1 ∧ c1 ≤ 191) then 2 else if (224 ≤ a ∧ a < 240 ∧ 3 ≤ r ∧ 128 ≤ c1 ∧ c1 ≤ 191 ∧ (a = 224 → 160 ≤ c1) ∧ (a = 237 → c1 ≤ 159) ∧ 128 ≤ c2 ∧ c2 ≤ 191) then 3 else if (240 ≤ a ∧ a < 245 ∧ 4 ≤ r ∧ 128 ≤ c1 ∧ c1 ≤ 191 ∧ (a = 240 → 144 ≤ c1) ∧ (a = 244 → c1 ≤ 143) ∧ 128 ≤ c2 ∧ c2 ≤ 191 ∧ 128 ≤ c3 ∧ c3 ≤ 191) then 4 else -1
theorem own_nxt {a c1 c2 c3 r k : Int} (h : SPr a c1 c2 c3 r k) : nxt a c1 c2 c3 r = k := by
  unfold SPr at h
  rcases h with ⟨rfl, h⟩ | ⟨rfl, h⟩ | ⟨rfl, h⟩ | ⟨rfl, h⟩ | ⟨rfl, h1, h2, h3, h4⟩
  · rw [nxt, if_pos h]
  · rw [nxt, if_neg (by omega), if_pos h]
  · rw [nxt, if_neg (by omega), if_neg (by omega), if_pos h]
  · rw [nxt, if_neg (by omega), if_neg (by omega), if_neg (by omega), if_pos h]
  · rw [nxt, if_neg h1, if_neg h2, if_neg h3, if_neg h4]
def good (f : Nat → Int32) (K : Nat) : Nat → Nat → Bool
  | 0, _ => true
  | k + 1, P => if P < K then (if nxt (bb f P) (bb f (P + 1)) (bb f (P + 2)) (bb f (P + 3)) ((K : Int) - P) < 0 then false else good f K k (P + (nxt (bb f P) (bb f (P + 1)) (bb f (P + 2)) (bb f (P + 3)) ((K : Int) - P)).toNat)) else true
theorem own_gF {f : Nat → Int32} {K k P : Nat} {z : Int} (hP : P < K) (h : SPr (bb f P) (bb f (P + 1)) (bb f (P + 2)) (bb f (P + 3)) ((K : Int) - P) z) (hz : z < 0) : good f K (k + 1) P = false := by
  rw [good, if_pos hP, own_nxt h, if_pos hz]
theorem own_rng {a c1 c2 c3 r z : Int} (h : SPr a c1 c2 c3 r z) (hr : 1 ≤ r) (hz : ¬ z < 0) : 1 ≤ z ∧ z ≤ r ∧ z ≤ 4 := by
  unfold SPr at h; omega
theorem own_gS {f : Nat → Int32} {K k P : Nat} {z : Int} (hP : P < K) (h : SPr (bb f P) (bb f (P + 1)) (bb f (P + 2)) (bb f (P + 3)) ((K : Int) - P) z) (hz : ¬ z < 0) : good f K (k + 1) P = good f K k (P + z.toNat) := by
  rw [good, if_pos hP, own_nxt h, if_neg hz]
theorem own_gT {f : Nat → Int32} {K k P : Nat} (hP : ¬ P < K) : good f K (k + 1) P = true := by
  rw [good, if_neg hP]
theorem own_more {f : Nat → Int32} {K : Nat} : ∀ (k P : Nat), K - P ≤ k → (∀ Q, Q < K → ∃ z : Int, SPr (bb f Q) (bb f (Q + 1)) (bb f (Q + 2)) (bb f (Q + 3)) ((K : Int) - Q) z) → good f K (k + 1) P = good f K k P := by
  intro k
  induction k with
  | zero => intro P h _; rw [own_gT (by omega)]; rfl
  | succ k ih =>
    intro P h hs
    by_cases q : P < K
    · obtain ⟨z, hz⟩ := hs P q
      by_cases n : z < 0
      · rw [own_gF q hz n, own_gF q hz n]
      · have r := own_rng hz (by omega) n
        rw [own_gS q hz n, own_gS q hz n]; exact ih _ (by omega) hs
    · rw [own_gT q, own_gT q]
theorem own_tot (a c1 c2 c3 r : Int) : ∃ z, SPr a c1 c2 c3 r z := by
  by_cases h1 : a < 128
  · exact ⟨1, by unfold SPr; omega⟩
  · by_cases h2 : (194 ≤ a ∧ a < 224 ∧ 2 ≤ r ∧ 128 ≤ c1 ∧ c1 ≤ 191)
    · exact ⟨2, by unfold SPr; omega⟩
    · by_cases h3 : (224 ≤ a ∧ a < 240 ∧ 3 ≤ r ∧ 128 ≤ c1 ∧ c1 ≤ 191 ∧ (a = 224 → 160 ≤ c1) ∧ (a = 237 → c1 ≤ 159) ∧ 128 ≤ c2 ∧ c2 ≤ 191)
      · exact ⟨3, Or.inr (Or.inr (Or.inl ⟨rfl, h3⟩))⟩
      · by_cases h4 : (240 ≤ a ∧ a < 245 ∧ 4 ≤ r ∧ 128 ≤ c1 ∧ c1 ≤ 191 ∧ (a = 240 → 144 ≤ c1) ∧ (a = 244 → c1 ≤ 143) ∧ 128 ≤ c2 ∧ c2 ≤ 191 ∧ 128 ≤ c3 ∧ c3 ≤ 191)
        · exact ⟨4, Or.inr (Or.inr (Or.inr (Or.inl ⟨rfl, h4⟩)))⟩
        · exact ⟨-1, Or.inr (Or.inr (Or.inr (Or.inr ⟨rfl, h1, h2, h3, h4⟩)))⟩
theorem own_ltL {x k : Int32} {K : Int} (hk : k.toInt = K) : x < k ↔ x.toInt < K := by rw [Int32.lt_iff_toInt_lt, hk]
theorem own_Llt {x k : Int32} {K : Int} (hk : k.toInt = K) : k < x ↔ K < x.toInt := by rw [Int32.lt_iff_toInt_lt, hk]
theorem own_eqL {x k : Int32} {K : Int} (hk : k.toInt = K) : x = k ↔ x.toInt = K := by rw [← Int32.toInt_inj, hk]
theorem own_sub {n p k : Int32} {M P : Nat} {K : Int} (hn : n.toInt = M) (hp : p.toInt = P) (hM : M ≤ 4) (hP : P ≤ 5) (hk : k.toInt = K) : n - p < k ↔ (M : Int) - P < K := by
  have h1 := c_isub n p
  have h2 := rng32 (n - p)
  rw [own_ltL hk]
  omega
theorem own_add {p k : Int32} {P K : Nat} (hp : p.toInt = P) (hk : k.toInt = K) (h : P ≤ 10) (h2 : K ≤ 10) : (p + k).toInt = (P + K : Nat) := by
  have h1 := c_iadd p k
  have h2 := rng32 (p + k)
  omega
theorem own_nat {p : Int32} {P : Nat} (hp : p.toInt = P) : p.toInt.toNat = P := by omega
theorem own_bR (f : Nat → Int32) (j : Nat) : 0 ≤ bb f j ∧ bb f j < 256 := by
  unfold bb
  have := c_and (f j) 255 (by decide)
  have e : (255 : Int32).toInt = 255 := rfl
  omega
theorem own_fin {P : Int32 → Prop} (key : ∀ a : Fin 256, P (Int32.ofNat a.val)) {a : Int32} (h : 0 ≤ a.toInt ∧ a.toInt < 256) : P a := by
  have e : a = Int32.ofNat a.toInt.toNat := by
    rw [← Int32.toInt_inj, Int32.toInt_ofNat_of_lt (by omega)]; omega
  rw [e]; exact key ⟨a.toInt.toNat, by omega⟩
theorem own_128 {a : Int32} (h : 0 ≤ a.toInt ∧ a.toInt < 256) : a &&& 128 = 0 ↔ a.toInt < 128 := own_fin (P := fun a => a &&& 128 = 0 ↔ a.toInt < 128) (by decide +kernel) h
theorem own_224 {a : Int32} (h : 0 ≤ a.toInt ∧ a.toInt < 256) : a &&& 224 = 192 ↔ (192 ≤ a.toInt ∧ a.toInt < 224) := own_fin (P := fun a => a &&& 224 = 192 ↔ (192 ≤ a.toInt ∧ a.toInt < 224)) (by decide +kernel) h
theorem own_240 {a : Int32} (h : 0 ≤ a.toInt ∧ a.toInt < 256) : a &&& 240 = 224 ↔ (224 ≤ a.toInt ∧ a.toInt < 240) := own_fin (P := fun a => a &&& 240 = 224 ↔ (224 ≤ a.toInt ∧ a.toInt < 240)) (by decide +kernel) h
theorem own_248 {a : Int32} (h : 0 ≤ a.toInt ∧ a.toInt < 256) : a &&& 248 = 240 ↔ (240 ≤ a.toInt ∧ a.toInt < 248) := own_fin (P := fun a => a &&& 248 = 240 ↔ (240 ≤ a.toInt ∧ a.toInt < 248)) (by decide +kernel) h
theorem own_192 {a : Int32} (h : 0 ≤ a.toInt ∧ a.toInt < 256) : a &&& 192 = 128 ↔ (128 ≤ a.toInt ∧ a.toInt < 192) := own_fin (P := fun a => a &&& 192 = 128 ↔ (128 ≤ a.toInt ∧ a.toInt < 192)) (by decide +kernel) h
theorem own_r192 {f : Nat → Int32} {j : Int32} {J : Nat} (hj : j.toInt = J) : f j.toInt.toNat &&& 192 = 128 ↔ (128 ≤ bb f J ∧ bb f J < 192) := by
  rw [own_nat hj]
  have e : f J &&& 192 = (f J &&& 255) &&& 192 := by rw [Int32.and_assoc]; rfl
  rw [e]; exact own_192 (own_bR f J)
theorem own_by {f : Nat → Int32} {y j : Int32} {J : Nat} (hj : j.toInt = J) (h : y = f j.toInt.toNat &&& 255) : y.toInt = bb f J := by
  rw [own_nat hj] at h; rw [h]; rfl
theorem own_cp {x y z : Int32} {X Y : Int} (hz : z = (x <<< ((6 : Int32) &&& 31)) ||| (y &&& 63)) (hx : x.toInt = X) (hX : 0 ≤ X ∧ X < 1048576) (hy : y.toInt = Y) (hY : 0 ≤ Y ∧ Y < 256) : z.toInt = X * 64 + Y % 64 := by
  have h1 := c_ishl x 6 6 (by decide)
  have h2 := rng32 (x <<< ((6 : Int32) &&& 31))
  have h0 : ((2 ^ 6 : Nat) : Int) = 64 := by decide
  have h4 := c_mask y 63 6 (by decide) (by decide)
  rw [h0] at h1 h4
  have h3 : (x <<< ((6 : Int32) &&& 31)).toInt = X * 64 := by omega
  have h5 := c_or (x <<< ((6 : Int32) &&& 31)) (y &&& 63) 6 (by decide) 64 (by decide) (by omega) (by omega) (by omega)
  rw [← hz] at h5
  have h6 := rng32 z
  omega
theorem own_m {x : Int32} {m : Int32} (k : Nat) (K : Int) (hk : k ≤ 31) (hm : m.toBitVec.toNat = 2 ^ k - 1) (hK : ((2 ^ k : Nat) : Int) = K) {X : Int} (hx : x.toInt = X) : (x &&& m).toInt = X % K := by
  rw [c_mask x m k hk hm, hK, hx]
theorem pn_3 : plainName "com/example/skipstone/skipstone/index/StringEncodingWellFormedPinLaw" = true := by first | (simp [plainName, overriddenIn]; done) | decide +kernel
theorem ef_3 (m : MethodId) (a : Addr) (o : Int32) (n : Int32) : entryFrame m #[(.ref a), (.int o), (.int n)] 9 = mkF m 0 #[.val (.ref a), .val (.int o), .val (.int n), .unset, .unset, .unset, .unset, .unset, .unset] [] := by first | (simp [entryFrame, mkF, argsToLocals, Value.category]; done) | rfl
def Q3 (Z : State) (a : Addr) (o : Int32) (n : Int32) (f : Nat → Int32) (P M : Nat) (h0 : Heap) : Option Value → Heap → Prop := fun v h => ∃ k : Int32, v = some (.int k) ∧ SPr (bb f P) (bb f (P + 1)) (bb f (P + 2)) (bb f (P + 3)) ((M : Int) - P) k.toInt ∧ h = h0
theorem d3_0 : decode method_5_code 0 = .ok (.aload_n 0, 1) := by decide +kernel
theorem d3_1 : decode method_5_code 1 = .ok (.iload_n 1, 1) := by decide +kernel
theorem d3_2 : decode method_5_code 2 = .ok (.baload, 1) := by decide +kernel
theorem d3_3 : decode method_5_code 3 = .ok (.sipush 255, 3) := by decide +kernel
theorem d3_6 : decode method_5_code 6 = .ok (.iand, 1) := by decide +kernel
theorem d3_7 : decode method_5_code 7 = .ok (.istore_n 3, 1) := by decide +kernel
theorem d3_8 : decode method_5_code 8 = .ok (.iload_n 3, 1) := by decide +kernel
theorem d3_9 : decode method_5_code 9 = .ok (.sipush 128, 3) := by decide +kernel
theorem d3_12 : decode method_5_code 12 = .ok (.iand, 1) := by decide +kernel
theorem d3_13 : decode method_5_code 13 = .ok (.ifCond .ne 5, 3) := by decide +kernel
theorem d3_18 : decode method_5_code 18 = .ok (.iload_n 3, 1) := by decide +kernel
theorem d3_19 : decode method_5_code 19 = .ok (.sipush 224, 3) := by decide +kernel
theorem d3_22 : decode method_5_code 22 = .ok (.iand, 1) := by decide +kernel
theorem d3_23 : decode method_5_code 23 = .ok (.sipush 192, 3) := by decide +kernel
theorem d3_26 : decode method_5_code 26 = .ok (.if_icmp .ne 20, 3) := by decide +kernel
theorem d3_46 : decode method_5_code 46 = .ok (.iload_n 3, 1) := by decide +kernel
theorem d3_47 : decode method_5_code 47 = .ok (.sipush 240, 3) := by decide +kernel
theorem d3_50 : decode method_5_code 50 = .ok (.iand, 1) := by decide +kernel
theorem d3_51 : decode method_5_code 51 = .ok (.sipush 224, 3) := by decide +kernel
theorem d3_54 : decode method_5_code 54 = .ok (.if_icmp .ne 20, 3) := by decide +kernel
theorem d3_74 : decode method_5_code 74 = .ok (.iload_n 3, 1) := by decide +kernel
theorem d3_75 : decode method_5_code 75 = .ok (.sipush 248, 3) := by decide +kernel
theorem d3_78 : decode method_5_code 78 = .ok (.iand, 1) := by decide +kernel
theorem d3_79 : decode method_5_code 79 = .ok (.sipush 240, 3) := by decide +kernel
theorem d3_82 : decode method_5_code 82 = .ok (.if_icmp .ne 19, 3) := by decide +kernel
theorem d3_101 : decode method_5_code 101 = .ok (.iconst (-1), 1) := by decide +kernel
theorem d3_102 : decode method_5_code 102 = .ok (.ireturn, 1) := by decide +kernel
theorem d3_85 : decode method_5_code 85 = .ok (.iconst 4, 1) := by decide +kernel
theorem d3_86 : decode method_5_code 86 = .ok (.istore 4, 2) := by decide +kernel
theorem d3_88 : decode method_5_code 88 = .ok (.iload_n 3, 1) := by decide +kernel
theorem d3_89 : decode method_5_code 89 = .ok (.bipush 7, 2) := by decide +kernel
theorem d3_91 : decode method_5_code 91 = .ok (.iand, 1) := by decide +kernel
theorem d3_92 : decode method_5_code 92 = .ok (.istore 5, 2) := by decide +kernel
theorem d3_94 : decode method_5_code 94 = .ok (.ldc 26, 2) := by decide +kernel
theorem d3_96 : decode method_5_code 96 = .ok (.istore 6, 2) := by decide +kernel
theorem d3_98 : decode method_5_code 98 = .ok (.goto 5, 3) := by decide +kernel
theorem d3_103 : decode method_5_code 103 = .ok (.iload_n 2, 1) := by decide +kernel
theorem d3_104 : decode method_5_code 104 = .ok (.iload_n 1, 1) := by decide +kernel
theorem d3_105 : decode method_5_code 105 = .ok (.isub, 1) := by decide +kernel
theorem d3_106 : decode method_5_code 106 = .ok (.iload 4, 2) := by decide +kernel
theorem d3_108 : decode method_5_code 108 = .ok (.if_icmp .ge 5, 3) := by decide +kernel
theorem d3_113 : decode method_5_code 113 = .ok (.aload_n 0, 1) := by decide +kernel
theorem d3_114 : decode method_5_code 114 = .ok (.iload_n 1, 1) := by decide +kernel
theorem d3_115 : decode method_5_code 115 = .ok (.iconst 1, 1) := by decide +kernel
theorem d3_116 : decode method_5_code 116 = .ok (.iadd, 1) := by decide +kernel
theorem d3_117 : decode method_5_code 117 = .ok (.baload, 1) := by decide +kernel
theorem d3_118 : decode method_5_code 118 = .ok (.sipush 255, 3) := by decide +kernel
theorem d3_121 : decode method_5_code 121 = .ok (.iand, 1) := by decide +kernel
theorem d3_122 : decode method_5_code 122 = .ok (.istore 7, 2) := by decide +kernel
theorem d3_124 : decode method_5_code 124 = .ok (.iload 7, 2) := by decide +kernel
theorem d3_126 : decode method_5_code 126 = .ok (.sipush 192, 3) := by decide +kernel
theorem d3_129 : decode method_5_code 129 = .ok (.iand, 1) := by decide +kernel
theorem d3_130 : decode method_5_code 130 = .ok (.sipush 128, 3) := by decide +kernel
theorem d3_133 : decode method_5_code 133 = .ok (.if_icmp .eq 5, 3) := by decide +kernel
theorem d3_138 : decode method_5_code 138 = .ok (.iload 5, 2) := by decide +kernel
theorem d3_140 : decode method_5_code 140 = .ok (.bipush 6, 2) := by decide +kernel
theorem d3_142 : decode method_5_code 142 = .ok (.ishl, 1) := by decide +kernel
theorem d3_143 : decode method_5_code 143 = .ok (.iload 7, 2) := by decide +kernel
theorem d3_145 : decode method_5_code 145 = .ok (.bipush 63, 2) := by decide +kernel
theorem d3_147 : decode method_5_code 147 = .ok (.iand, 1) := by decide +kernel
theorem d3_148 : decode method_5_code 148 = .ok (.ior, 1) := by decide +kernel
theorem d3_149 : decode method_5_code 149 = .ok (.istore 5, 2) := by decide +kernel
theorem d3_151 : decode method_5_code 151 = .ok (.iload 4, 2) := by decide +kernel
theorem d3_153 : decode method_5_code 153 = .ok (.iconst 3, 1) := by decide +kernel
theorem d3_154 : decode method_5_code 154 = .ok (.if_icmp .lt 41, 3) := by decide +kernel
theorem d3_157 : decode method_5_code 157 = .ok (.aload_n 0, 1) := by decide +kernel
theorem d3_158 : decode method_5_code 158 = .ok (.iload_n 1, 1) := by decide +kernel
theorem d3_159 : decode method_5_code 159 = .ok (.iconst 2, 1) := by decide +kernel
theorem d3_160 : decode method_5_code 160 = .ok (.iadd, 1) := by decide +kernel
theorem d3_161 : decode method_5_code 161 = .ok (.baload, 1) := by decide +kernel
theorem d3_162 : decode method_5_code 162 = .ok (.sipush 255, 3) := by decide +kernel
theorem d3_165 : decode method_5_code 165 = .ok (.iand, 1) := by decide +kernel
theorem d3_166 : decode method_5_code 166 = .ok (.istore 8, 2) := by decide +kernel
theorem d3_168 : decode method_5_code 168 = .ok (.iload 8, 2) := by decide +kernel
theorem d3_170 : decode method_5_code 170 = .ok (.sipush 192, 3) := by decide +kernel
theorem d3_173 : decode method_5_code 173 = .ok (.iand, 1) := by decide +kernel
theorem d3_174 : decode method_5_code 174 = .ok (.sipush 128, 3) := by decide +kernel
theorem d3_177 : decode method_5_code 177 = .ok (.if_icmp .eq 5, 3) := by decide +kernel
theorem d3_182 : decode method_5_code 182 = .ok (.iload 5, 2) := by decide +kernel
theorem d3_184 : decode method_5_code 184 = .ok (.bipush 6, 2) := by decide +kernel
theorem d3_186 : decode method_5_code 186 = .ok (.ishl, 1) := by decide +kernel
theorem d3_187 : decode method_5_code 187 = .ok (.iload 8, 2) := by decide +kernel
theorem d3_189 : decode method_5_code 189 = .ok (.bipush 63, 2) := by decide +kernel
theorem d3_191 : decode method_5_code 191 = .ok (.iand, 1) := by decide +kernel
theorem d3_192 : decode method_5_code 192 = .ok (.ior, 1) := by decide +kernel
theorem d3_193 : decode method_5_code 193 = .ok (.istore 5, 2) := by decide +kernel
theorem d3_195 : decode method_5_code 195 = .ok (.iload 4, 2) := by decide +kernel
theorem d3_197 : decode method_5_code 197 = .ok (.iconst 4, 1) := by decide +kernel
theorem d3_198 : decode method_5_code 198 = .ok (.if_icmp .ne 41, 3) := by decide +kernel
theorem d3_201 : decode method_5_code 201 = .ok (.aload_n 0, 1) := by decide +kernel
theorem d3_202 : decode method_5_code 202 = .ok (.iload_n 1, 1) := by decide +kernel
theorem d3_203 : decode method_5_code 203 = .ok (.iconst 3, 1) := by decide +kernel
theorem d3_204 : decode method_5_code 204 = .ok (.iadd, 1) := by decide +kernel
theorem d3_205 : decode method_5_code 205 = .ok (.baload, 1) := by decide +kernel
theorem d3_206 : decode method_5_code 206 = .ok (.sipush 255, 3) := by decide +kernel
theorem d3_209 : decode method_5_code 209 = .ok (.iand, 1) := by decide +kernel
theorem d3_210 : decode method_5_code 210 = .ok (.istore 8, 2) := by decide +kernel
theorem d3_212 : decode method_5_code 212 = .ok (.iload 8, 2) := by decide +kernel
theorem d3_214 : decode method_5_code 214 = .ok (.sipush 192, 3) := by decide +kernel
theorem d3_217 : decode method_5_code 217 = .ok (.iand, 1) := by decide +kernel
theorem d3_218 : decode method_5_code 218 = .ok (.sipush 128, 3) := by decide +kernel
theorem d3_221 : decode method_5_code 221 = .ok (.if_icmp .eq 5, 3) := by decide +kernel
theorem d3_226 : decode method_5_code 226 = .ok (.iload 5, 2) := by decide +kernel
theorem d3_228 : decode method_5_code 228 = .ok (.bipush 6, 2) := by decide +kernel
theorem d3_230 : decode method_5_code 230 = .ok (.ishl, 1) := by decide +kernel
theorem d3_231 : decode method_5_code 231 = .ok (.iload 8, 2) := by decide +kernel
theorem d3_233 : decode method_5_code 233 = .ok (.bipush 63, 2) := by decide +kernel
theorem d3_235 : decode method_5_code 235 = .ok (.iand, 1) := by decide +kernel
theorem d3_236 : decode method_5_code 236 = .ok (.ior, 1) := by decide +kernel
theorem d3_237 : decode method_5_code 237 = .ok (.istore 5, 2) := by decide +kernel
theorem d3_239 : decode method_5_code 239 = .ok (.iload 5, 2) := by decide +kernel
theorem d3_241 : decode method_5_code 241 = .ok (.iload 6, 2) := by decide +kernel
theorem d3_243 : decode method_5_code 243 = .ok (.if_icmp .ge 5, 3) := by decide +kernel
theorem d3_248 : decode method_5_code 248 = .ok (.iload 5, 2) := by decide +kernel
theorem d3_250 : decode method_5_code 250 = .ok (.ldc 27, 2) := by decide +kernel
theorem d3_252 : decode method_5_code 252 = .ok (.if_icmp .lt 12, 3) := by decide +kernel
theorem d3_264 : decode method_5_code 264 = .ok (.iload 5, 2) := by decide +kernel
theorem d3_266 : decode method_5_code 266 = .ok (.ldc 29, 2) := by decide +kernel
theorem d3_268 : decode method_5_code 268 = .ok (.if_icmp .le 5, 3) := by decide +kernel
theorem d3_273 : decode method_5_code 273 = .ok (.iload 4, 2) := by decide +kernel
theorem d3_275 : decode method_5_code 275 = .ok (.ireturn, 1) := by decide +kernel
theorem d3_271 : decode method_5_code 271 = .ok (.iconst (-1), 1) := by decide +kernel
theorem d3_272 : decode method_5_code 272 = .ok (.ireturn, 1) := by decide +kernel
theorem d3_255 : decode method_5_code 255 = .ok (.iload 5, 2) := by decide +kernel
theorem d3_257 : decode method_5_code 257 = .ok (.ldc 28, 2) := by decide +kernel
theorem d3_259 : decode method_5_code 259 = .ok (.if_icmp .gt 5, 3) := by decide +kernel
theorem d3_262 : decode method_5_code 262 = .ok (.iconst (-1), 1) := by decide +kernel
theorem d3_263 : decode method_5_code 263 = .ok (.ireturn, 1) := by decide +kernel
theorem d3_246 : decode method_5_code 246 = .ok (.iconst (-1), 1) := by decide +kernel
theorem d3_247 : decode method_5_code 247 = .ok (.ireturn, 1) := by decide +kernel
theorem d3_224 : decode method_5_code 224 = .ok (.iconst (-1), 1) := by decide +kernel
theorem d3_225 : decode method_5_code 225 = .ok (.ireturn, 1) := by decide +kernel
theorem d3_180 : decode method_5_code 180 = .ok (.iconst (-1), 1) := by decide +kernel
theorem d3_181 : decode method_5_code 181 = .ok (.ireturn, 1) := by decide +kernel
theorem d3_136 : decode method_5_code 136 = .ok (.iconst (-1), 1) := by decide +kernel
theorem d3_137 : decode method_5_code 137 = .ok (.ireturn, 1) := by decide +kernel
theorem d3_111 : decode method_5_code 111 = .ok (.iconst (-1), 1) := by decide +kernel
theorem d3_112 : decode method_5_code 112 = .ok (.ireturn, 1) := by decide +kernel
theorem d3_57 : decode method_5_code 57 = .ok (.iconst 3, 1) := by decide +kernel
theorem d3_58 : decode method_5_code 58 = .ok (.istore 4, 2) := by decide +kernel
theorem d3_60 : decode method_5_code 60 = .ok (.iload_n 3, 1) := by decide +kernel
theorem d3_61 : decode method_5_code 61 = .ok (.bipush 15, 2) := by decide +kernel
theorem d3_63 : decode method_5_code 63 = .ok (.iand, 1) := by decide +kernel
theorem d3_64 : decode method_5_code 64 = .ok (.istore 5, 2) := by decide +kernel
theorem d3_66 : decode method_5_code 66 = .ok (.sipush 2048, 3) := by decide +kernel
theorem d3_69 : decode method_5_code 69 = .ok (.istore 6, 2) := by decide +kernel
theorem d3_71 : decode method_5_code 71 = .ok (.goto 32, 3) := by decide +kernel
theorem d3_29 : decode method_5_code 29 = .ok (.iconst 2, 1) := by decide +kernel
theorem d3_30 : decode method_5_code 30 = .ok (.istore 4, 2) := by decide +kernel
theorem d3_32 : decode method_5_code 32 = .ok (.iload_n 3, 1) := by decide +kernel
theorem d3_33 : decode method_5_code 33 = .ok (.bipush 31, 2) := by decide +kernel
theorem d3_35 : decode method_5_code 35 = .ok (.iand, 1) := by decide +kernel
theorem d3_36 : decode method_5_code 36 = .ok (.istore 5, 2) := by decide +kernel
theorem d3_38 : decode method_5_code 38 = .ok (.sipush 128, 3) := by decide +kernel
theorem d3_41 : decode method_5_code 41 = .ok (.istore 6, 2) := by decide +kernel
theorem d3_43 : decode method_5_code 43 = .ok (.goto 60, 3) := by decide +kernel
theorem d3_16 : decode method_5_code 16 = .ok (.iconst 1, 1) := by decide +kernel
theorem d3_17 : decode method_5_code 17 = .ok (.ireturn, 1) := by decide +kernel
abbrev room3 : Room := { frames := 0, cells := 0, slots := 0, locals := 0 }
set_option maxRecDepth 65536 in
set_option maxHeartbeats 40000000 in
theorem rm3 (l : Launch) (Z : State) (a0 : Array Value) (hw : ∀ d ∈ tables_1, d.before a0 Z = true) (ws : List Jvm.Cond) (a : Addr) (o : Int32) (n : Int32) (f : Nat → Int32) (P M : Nat) (h0 : Heap) (n0 : Nat) (A_a : Ia Z h0 a .byte 4 f) (hp : o.toInt = P) (hn : n.toInt = M) (hlt : P < M) (h4 : M ≤ 4) :
    OM l (⟨"com/example/skipstone/skipstone/index/StringEncodingWellFormedPinLaw", "step", "([BII)I"⟩ : MethodName) method_5_code 9 (some .int) room3 ws Z #[(.ref a), (.int o), (.int n)] h0 n0 (Q3 Z a o n f P M h0) := by
  refine OM.of (plainFor_of_name pn_3) (fun m => ef_3 m a o n) ?_
  intro p e s m below meth c T X
  refine OG.aloadN X d3_0 rfl rfl ?_
  refine OG.iloadN X d3_1 rfl ?_
  refine OG.baload X A_a (by omega) d3_2 ?_
  refine OG.sipush X d3_3 (z := (255 : Int32)) rfl ?_
  refine OG.iand X d3_6 ?_
  refine OG.istoreNV X d3_7 (l' := fun z => #[.val (.ref a), .val (.int o), .val (.int n), .val (.int z), .unset, .unset, .unset, .unset, .unset]) (fun _ => rfl) ?_
  intro a' ha'
  have hav := own_by hp ha'; have hab : 0 ≤ a'.toInt ∧ a'.toInt < 256 := by rw [hav]; exact own_bR f P
  refine OG.iloadN X d3_8 rfl ?_
  refine OG.sipush X d3_9 (z := (128 : Int32)) rfl ?_
  refine OG.iand X d3_12 ?_
  refine OG.if_ne X d3_13 (pc' := 18) (by decide) ?_ ?_
  · intro c13
    refine OG.iloadN X d3_18 rfl ?_
    refine OG.sipush X d3_19 (z := (224 : Int32)) rfl ?_
    refine OG.iand X d3_22 ?_
    refine OG.sipush X d3_23 (z := (192 : Int32)) rfl ?_
    refine OG.icmp_ne X d3_26 (pc' := 46) (by decide) ?_ ?_
    · intro c26
      refine OG.iloadN X d3_46 rfl ?_
      refine OG.sipush X d3_47 (z := (240 : Int32)) rfl ?_
      refine OG.iand X d3_50 ?_
      refine OG.sipush X d3_51 (z := (224 : Int32)) rfl ?_
      refine OG.icmp_ne X d3_54 (pc' := 74) (by decide) ?_ ?_
      · intro c54
        refine OG.iloadN X d3_74 rfl ?_
        refine OG.sipush X d3_75 (z := (248 : Int32)) rfl ?_
        refine OG.iand X d3_78 ?_
        refine OG.sipush X d3_79 (z := (240 : Int32)) rfl ?_
        refine OG.icmp_ne X d3_82 (pc' := 101) (by decide) ?_ ?_
        · intro c82
          refine OG.iconst X d3_101 (z := (-1 : Int32)) rfl ?_
          exact OG.retI X d3_102 (by decide) (by decide) ⟨_, rfl, (by have z0 := (not_congr (own_128 hab)).mp c13; have z1 := (not_congr (own_224 hab)).mp c26; have z2 := (not_congr (own_240 hab)).mp c54; have z3 := (not_congr (own_248 hab)).mp c82; have hr0 := own_bR f P; have hr1 := own_bR f (P + 1); have hr2 := own_bR f (P + 2); have hr3 := own_bR f (P + 3); have ev : (-1 : Int32).toInt = -1 := rfl; unfold SPr; omega), rfl⟩
        · intro c82
          refine OG.iconst X d3_85 (z := (4 : Int32)) rfl ?_
          refine OG.istore X d3_86 (l' := #[.val (.ref a), .val (.int o), .val (.int n), .val (.int a'), .val (.int (4 : Int32)), .unset, .unset, .unset, .unset]) rfl ?_
          refine OG.iloadN X d3_88 rfl ?_
          refine OG.bipush X d3_89 (z := (7 : Int32)) rfl ?_
          refine OG.iand X d3_91 ?_
          refine OG.istoreV X d3_92 (l' := fun z => #[.val (.ref a), .val (.int o), .val (.int n), .val (.int a'), .val (.int (4 : Int32)), .val (.int z), .unset, .unset, .unset]) (fun _ => rfl) ?_
          intro q0 hq0
          have hq0v : q0.toInt = bb f P % 8 := by rw [hq0]; exact own_m 3 8 (by decide) (by decide) (by decide) hav
          refine OG.ldcInt X (v := (65536 : Int32)) (hw _ (List.mem_of_getElem? (i := 15) rfl)) d3_94 ?_
          refine OG.istore X d3_96 (l' := #[.val (.ref a), .val (.int o), .val (.int n), .val (.int a'), .val (.int (4 : Int32)), .val (.int q0), .val (.int (65536 : Int32)), .unset, .unset]) rfl ?_
          refine OG.goto X d3_98 (pc' := 103) (by decide) ?_
          refine OG.iloadN X d3_103 rfl ?_
          refine OG.iloadN X d3_104 rfl ?_
          refine OG.isub X d3_105 ?_
          refine OG.iload X d3_106 rfl ?_
          refine OG.icmp_ge X d3_108 (pc' := 113) (by decide) ?_ ?_
          · intro c108
            refine OG.aloadN X d3_113 rfl rfl ?_
            refine OG.iloadN X d3_114 rfl ?_
            refine OG.iconst X d3_115 (z := (1 : Int32)) rfl ?_
            refine OG.iadd X d3_116 ?_
            refine OG.baload X A_a (by have z := (not_congr (own_sub hn hp h4 (by omega) (K := 4) rfl)).mp c108; rw [own_add (K := 1) hp rfl (by omega) (by decide)]; omega) d3_117 ?_
            refine OG.sipush X d3_118 (z := (255 : Int32)) rfl ?_
            refine OG.iand X d3_121 ?_
            refine OG.istoreV X d3_122 (l' := fun z => #[.val (.ref a), .val (.int o), .val (.int n), .val (.int a'), .val (.int (4 : Int32)), .val (.int q0), .val (.int (65536 : Int32)), .val (.int z), .unset]) (fun _ => rfl) ?_
            intro b1 hb1
            have hb1v := own_by (own_add (K := 1) hp rfl (by omega) (by decide)) hb1; have hb1b : 0 ≤ b1.toInt ∧ b1.toInt < 256 := by rw [hb1v]; exact own_bR f _
            refine OG.iload X d3_124 rfl ?_
            refine OG.sipush X d3_126 (z := (192 : Int32)) rfl ?_
            refine OG.iand X d3_129 ?_
            refine OG.sipush X d3_130 (z := (128 : Int32)) rfl ?_
            refine OG.icmp_eq X d3_133 (pc' := 138) (by decide) ?_ ?_
            · intro c133
              refine OG.iload X d3_138 rfl ?_
              refine OG.bipush X d3_140 (z := (6 : Int32)) rfl ?_
              refine OG.ishl X d3_142 ?_
              refine OG.iload X d3_143 rfl ?_
              refine OG.bipush X d3_145 (z := (63 : Int32)) rfl ?_
              refine OG.iand X d3_147 ?_
              refine OG.ior X d3_148 ?_
              refine OG.istoreV X d3_149 (l' := fun z => #[.val (.ref a), .val (.int o), .val (.int n), .val (.int a'), .val (.int (4 : Int32)), .val (.int z), .val (.int (65536 : Int32)), .val (.int b1), .unset]) (fun _ => rfl) ?_
              intro q1 hq1
              have hq1v := own_cp hq1 hq0v (by have := own_bR f P; omega) hb1v (own_bR f _)
              refine OG.iload X d3_151 rfl ?_
              refine OG.iconst X d3_153 (z := (3 : Int32)) rfl ?_
              refine OG.icmp_lt_f X d3_154 (by decide) ?_
              refine OG.aloadN X d3_157 rfl rfl ?_
              refine OG.iloadN X d3_158 rfl ?_
              refine OG.iconst X d3_159 (z := (2 : Int32)) rfl ?_
              refine OG.iadd X d3_160 ?_
              refine OG.baload X A_a (by have z := (not_congr (own_sub hn hp h4 (by omega) (K := 4) rfl)).mp c108; rw [own_add (K := 2) hp rfl (by omega) (by decide)]; omega) d3_161 ?_
              refine OG.sipush X d3_162 (z := (255 : Int32)) rfl ?_
              refine OG.iand X d3_165 ?_
              refine OG.istoreV X d3_166 (l' := fun z => #[.val (.ref a), .val (.int o), .val (.int n), .val (.int a'), .val (.int (4 : Int32)), .val (.int q1), .val (.int (65536 : Int32)), .val (.int b1), .val (.int z)]) (fun _ => rfl) ?_
              intro b2 hb2
              have hb2v := own_by (own_add (K := 2) hp rfl (by omega) (by decide)) hb2; have hb2b : 0 ≤ b2.toInt ∧ b2.toInt < 256 := by rw [hb2v]; exact own_bR f _
              refine OG.iload X d3_168 rfl ?_
              refine OG.sipush X d3_170 (z := (192 : Int32)) rfl ?_
              refine OG.iand X d3_173 ?_
              refine OG.sipush X d3_174 (z := (128 : Int32)) rfl ?_
              refine OG.icmp_eq X d3_177 (pc' := 182) (by decide) ?_ ?_
              · intro c177
                refine OG.iload X d3_182 rfl ?_
                refine OG.bipush X d3_184 (z := (6 : Int32)) rfl ?_
                refine OG.ishl X d3_186 ?_
                refine OG.iload X d3_187 rfl ?_
                refine OG.bipush X d3_189 (z := (63 : Int32)) rfl ?_
                refine OG.iand X d3_191 ?_
                refine OG.ior X d3_192 ?_
                refine OG.istoreV X d3_193 (l' := fun z => #[.val (.ref a), .val (.int o), .val (.int n), .val (.int a'), .val (.int (4 : Int32)), .val (.int z), .val (.int (65536 : Int32)), .val (.int b1), .val (.int b2)]) (fun _ => rfl) ?_
                intro q2 hq2
                have hq2v := own_cp hq2 hq1v (by have := own_bR f P; have := own_bR f (P + 1); omega) hb2v (own_bR f _)
                refine OG.iload X d3_195 rfl ?_
                refine OG.iconst X d3_197 (z := (4 : Int32)) rfl ?_
                refine OG.icmp_ne_f X d3_198 (by decide) ?_
                refine OG.aloadN X d3_201 rfl rfl ?_
                refine OG.iloadN X d3_202 rfl ?_
                refine OG.iconst X d3_203 (z := (3 : Int32)) rfl ?_
                refine OG.iadd X d3_204 ?_
                refine OG.baload X A_a (by have z := (not_congr (own_sub hn hp h4 (by omega) (K := 4) rfl)).mp c108; rw [own_add (K := 3) hp rfl (by omega) (by decide)]; omega) d3_205 ?_
                refine OG.sipush X d3_206 (z := (255 : Int32)) rfl ?_
                refine OG.iand X d3_209 ?_
                refine OG.istoreV X d3_210 (l' := fun z => #[.val (.ref a), .val (.int o), .val (.int n), .val (.int a'), .val (.int (4 : Int32)), .val (.int q2), .val (.int (65536 : Int32)), .val (.int b1), .val (.int z)]) (fun _ => rfl) ?_
                intro b3 hb3
                have hb3v := own_by (own_add (K := 3) hp rfl (by omega) (by decide)) hb3; have hb3b : 0 ≤ b3.toInt ∧ b3.toInt < 256 := by rw [hb3v]; exact own_bR f _
                refine OG.iload X d3_212 rfl ?_
                refine OG.sipush X d3_214 (z := (192 : Int32)) rfl ?_
                refine OG.iand X d3_217 ?_
                refine OG.sipush X d3_218 (z := (128 : Int32)) rfl ?_
                refine OG.icmp_eq X d3_221 (pc' := 226) (by decide) ?_ ?_
                · intro c221
                  refine OG.iload X d3_226 rfl ?_
                  refine OG.bipush X d3_228 (z := (6 : Int32)) rfl ?_
                  refine OG.ishl X d3_230 ?_
                  refine OG.iload X d3_231 rfl ?_
                  refine OG.bipush X d3_233 (z := (63 : Int32)) rfl ?_
                  refine OG.iand X d3_235 ?_
                  refine OG.ior X d3_236 ?_
                  refine OG.istoreV X d3_237 (l' := fun z => #[.val (.ref a), .val (.int o), .val (.int n), .val (.int a'), .val (.int (4 : Int32)), .val (.int z), .val (.int (65536 : Int32)), .val (.int b1), .val (.int b3)]) (fun _ => rfl) ?_
                  intro q3 hq3
                  have hq3v := own_cp hq3 hq2v (by have := own_bR f P; have := own_bR f (P + 1); have := own_bR f (P + 2); omega) hb3v (own_bR f _)
                  refine OG.iload X d3_239 rfl ?_
                  refine OG.iload X d3_241 rfl ?_
                  refine OG.icmp_ge X d3_243 (pc' := 248) (by decide) ?_ ?_
                  · intro c243
                    refine OG.iload X d3_248 rfl ?_
                    refine OG.ldcInt X (v := (55296 : Int32)) (hw _ (List.mem_of_getElem? (i := 16) rfl)) d3_250 ?_
                    refine OG.icmp_lt X d3_252 (pc' := 264) (by decide) ?_ ?_
                    · intro c252
                      refine OG.iload X d3_264 rfl ?_
                      refine OG.ldcInt X (v := (1114111 : Int32)) (hw _ (List.mem_of_getElem? (i := 17) rfl)) d3_266 ?_
                      refine OG.icmp_le X d3_268 (pc' := 273) (by decide) ?_ ?_
                      · intro c268
                        refine OG.iload X d3_273 rfl ?_
                        exact OG.retI X d3_275 (by decide) (by decide) ⟨_, rfl, (by have z0 := (not_congr (own_128 hab)).mp c13; have z1 := (not_congr (own_224 hab)).mp c26; have z2 := (not_congr (own_240 hab)).mp c54; have z3 := (own_248 hab).mp c82; have z4 := (not_congr (own_sub hn hp h4 (by omega) (K := 4) rfl)).mp c108; have z5 := (own_192 hb1b).mp c133; have z6 := (own_192 hb2b).mp c177; have z7 := (own_192 hb3b).mp c221; have z8 := (not_congr (own_ltL (K := 65536) rfl)).mp c243; have z9 := (own_ltL (K := 55296) rfl).mp c252; have z10 := (not_congr (own_Llt (K := 1114111) rfl)).mp c268; have hr0 := own_bR f P; have hr1 := own_bR f (P + 1); have hr2 := own_bR f (P + 2); have hr3 := own_bR f (P + 3); have ev : (4 : Int32).toInt = 4 := rfl; unfold SPr; omega), rfl⟩
                      · intro c268
                        refine OG.iconst X d3_271 (z := (-1 : Int32)) rfl ?_
                        exact OG.retI X d3_272 (by decide) (by decide) ⟨_, rfl, (by have z0 := (not_congr (own_128 hab)).mp c13; have z1 := (not_congr (own_224 hab)).mp c26; have z2 := (not_congr (own_240 hab)).mp c54; have z3 := (own_248 hab).mp c82; have z4 := (not_congr (own_sub hn hp h4 (by omega) (K := 4) rfl)).mp c108; have z5 := (own_192 hb1b).mp c133; have z6 := (own_192 hb2b).mp c177; have z7 := (own_192 hb3b).mp c221; have z8 := (not_congr (own_ltL (K := 65536) rfl)).mp c243; have z9 := (own_ltL (K := 55296) rfl).mp c252; have z10 := (own_Llt (K := 1114111) rfl).mp c268; have hr0 := own_bR f P; have hr1 := own_bR f (P + 1); have hr2 := own_bR f (P + 2); have hr3 := own_bR f (P + 3); have ev : (-1 : Int32).toInt = -1 := rfl; unfold SPr; omega), rfl⟩
                    · intro c252
                      refine OG.iload X d3_255 rfl ?_
                      refine OG.ldcInt X (v := (57343 : Int32)) (hw _ (List.mem_of_getElem? (i := 18) rfl)) d3_257 ?_
                      refine OG.icmp_gt X d3_259 (pc' := 264) (by decide) ?_ ?_
                      · intro c259
                        refine OG.iload X d3_264 rfl ?_
                        refine OG.ldcInt X (v := (1114111 : Int32)) (hw _ (List.mem_of_getElem? (i := 17) rfl)) d3_266 ?_
                        refine OG.icmp_le X d3_268 (pc' := 273) (by decide) ?_ ?_
                        · intro c268
                          refine OG.iload X d3_273 rfl ?_
                          exact OG.retI X d3_275 (by decide) (by decide) ⟨_, rfl, (by have z0 := (not_congr (own_128 hab)).mp c13; have z1 := (not_congr (own_224 hab)).mp c26; have z2 := (not_congr (own_240 hab)).mp c54; have z3 := (own_248 hab).mp c82; have z4 := (not_congr (own_sub hn hp h4 (by omega) (K := 4) rfl)).mp c108; have z5 := (own_192 hb1b).mp c133; have z6 := (own_192 hb2b).mp c177; have z7 := (own_192 hb3b).mp c221; have z8 := (not_congr (own_ltL (K := 65536) rfl)).mp c243; have z9 := (not_congr (own_ltL (K := 55296) rfl)).mp c252; have z10 := (own_Llt (K := 57343) rfl).mp c259; have z11 := (not_congr (own_Llt (K := 1114111) rfl)).mp c268; have hr0 := own_bR f P; have hr1 := own_bR f (P + 1); have hr2 := own_bR f (P + 2); have hr3 := own_bR f (P + 3); have ev : (4 : Int32).toInt = 4 := rfl; unfold SPr; omega), rfl⟩
                        · intro c268
                          refine OG.iconst X d3_271 (z := (-1 : Int32)) rfl ?_
                          exact OG.retI X d3_272 (by decide) (by decide) ⟨_, rfl, (by have z0 := (not_congr (own_128 hab)).mp c13; have z1 := (not_congr (own_224 hab)).mp c26; have z2 := (not_congr (own_240 hab)).mp c54; have z3 := (own_248 hab).mp c82; have z4 := (not_congr (own_sub hn hp h4 (by omega) (K := 4) rfl)).mp c108; have z5 := (own_192 hb1b).mp c133; have z6 := (own_192 hb2b).mp c177; have z7 := (own_192 hb3b).mp c221; have z8 := (not_congr (own_ltL (K := 65536) rfl)).mp c243; have z9 := (not_congr (own_ltL (K := 55296) rfl)).mp c252; have z10 := (own_Llt (K := 57343) rfl).mp c259; have z11 := (own_Llt (K := 1114111) rfl).mp c268; have hr0 := own_bR f P; have hr1 := own_bR f (P + 1); have hr2 := own_bR f (P + 2); have hr3 := own_bR f (P + 3); have ev : (-1 : Int32).toInt = -1 := rfl; unfold SPr; omega), rfl⟩
                      · intro c259
                        refine OG.iconst X d3_262 (z := (-1 : Int32)) rfl ?_
                        exact OG.retI X d3_263 (by decide) (by decide) ⟨_, rfl, (by have z0 := (not_congr (own_128 hab)).mp c13; have z1 := (not_congr (own_224 hab)).mp c26; have z2 := (not_congr (own_240 hab)).mp c54; have z3 := (own_248 hab).mp c82; have z4 := (not_congr (own_sub hn hp h4 (by omega) (K := 4) rfl)).mp c108; have z5 := (own_192 hb1b).mp c133; have z6 := (own_192 hb2b).mp c177; have z7 := (own_192 hb3b).mp c221; have z8 := (not_congr (own_ltL (K := 65536) rfl)).mp c243; have z9 := (not_congr (own_ltL (K := 55296) rfl)).mp c252; have z10 := (not_congr (own_Llt (K := 57343) rfl)).mp c259; have hr0 := own_bR f P; have hr1 := own_bR f (P + 1); have hr2 := own_bR f (P + 2); have hr3 := own_bR f (P + 3); have ev : (-1 : Int32).toInt = -1 := rfl; unfold SPr; omega), rfl⟩
                  · intro c243
                    refine OG.iconst X d3_246 (z := (-1 : Int32)) rfl ?_
                    exact OG.retI X d3_247 (by decide) (by decide) ⟨_, rfl, (by have z0 := (not_congr (own_128 hab)).mp c13; have z1 := (not_congr (own_224 hab)).mp c26; have z2 := (not_congr (own_240 hab)).mp c54; have z3 := (own_248 hab).mp c82; have z4 := (not_congr (own_sub hn hp h4 (by omega) (K := 4) rfl)).mp c108; have z5 := (own_192 hb1b).mp c133; have z6 := (own_192 hb2b).mp c177; have z7 := (own_192 hb3b).mp c221; have z8 := (own_ltL (K := 65536) rfl).mp c243; have hr0 := own_bR f P; have hr1 := own_bR f (P + 1); have hr2 := own_bR f (P + 2); have hr3 := own_bR f (P + 3); have ev : (-1 : Int32).toInt = -1 := rfl; unfold SPr; omega), rfl⟩
                · intro c221
                  refine OG.iconst X d3_224 (z := (-1 : Int32)) rfl ?_
                  exact OG.retI X d3_225 (by decide) (by decide) ⟨_, rfl, (by have z0 := (not_congr (own_128 hab)).mp c13; have z1 := (not_congr (own_224 hab)).mp c26; have z2 := (not_congr (own_240 hab)).mp c54; have z3 := (own_248 hab).mp c82; have z4 := (not_congr (own_sub hn hp h4 (by omega) (K := 4) rfl)).mp c108; have z5 := (own_192 hb1b).mp c133; have z6 := (own_192 hb2b).mp c177; have z7 := (not_congr (own_192 hb3b)).mp c221; have hr0 := own_bR f P; have hr1 := own_bR f (P + 1); have hr2 := own_bR f (P + 2); have hr3 := own_bR f (P + 3); have ev : (-1 : Int32).toInt = -1 := rfl; unfold SPr; omega), rfl⟩
              · intro c177
                refine OG.iconst X d3_180 (z := (-1 : Int32)) rfl ?_
                exact OG.retI X d3_181 (by decide) (by decide) ⟨_, rfl, (by have z0 := (not_congr (own_128 hab)).mp c13; have z1 := (not_congr (own_224 hab)).mp c26; have z2 := (not_congr (own_240 hab)).mp c54; have z3 := (own_248 hab).mp c82; have z4 := (not_congr (own_sub hn hp h4 (by omega) (K := 4) rfl)).mp c108; have z5 := (own_192 hb1b).mp c133; have z6 := (not_congr (own_192 hb2b)).mp c177; have hr0 := own_bR f P; have hr1 := own_bR f (P + 1); have hr2 := own_bR f (P + 2); have hr3 := own_bR f (P + 3); have ev : (-1 : Int32).toInt = -1 := rfl; unfold SPr; omega), rfl⟩
            · intro c133
              refine OG.iconst X d3_136 (z := (-1 : Int32)) rfl ?_
              exact OG.retI X d3_137 (by decide) (by decide) ⟨_, rfl, (by have z0 := (not_congr (own_128 hab)).mp c13; have z1 := (not_congr (own_224 hab)).mp c26; have z2 := (not_congr (own_240 hab)).mp c54; have z3 := (own_248 hab).mp c82; have z4 := (not_congr (own_sub hn hp h4 (by omega) (K := 4) rfl)).mp c108; have z5 := (not_congr (own_192 hb1b)).mp c133; have hr0 := own_bR f P; have hr1 := own_bR f (P + 1); have hr2 := own_bR f (P + 2); have hr3 := own_bR f (P + 3); have ev : (-1 : Int32).toInt = -1 := rfl; unfold SPr; omega), rfl⟩
          · intro c108
            refine OG.iconst X d3_111 (z := (-1 : Int32)) rfl ?_
            exact OG.retI X d3_112 (by decide) (by decide) ⟨_, rfl, (by have z0 := (not_congr (own_128 hab)).mp c13; have z1 := (not_congr (own_224 hab)).mp c26; have z2 := (not_congr (own_240 hab)).mp c54; have z3 := (own_248 hab).mp c82; have z4 := (own_sub hn hp h4 (by omega) (K := 4) rfl).mp c108; have hr0 := own_bR f P; have hr1 := own_bR f (P + 1); have hr2 := own_bR f (P + 2); have hr3 := own_bR f (P + 3); have ev : (-1 : Int32).toInt = -1 := rfl; unfold SPr; omega), rfl⟩
      · intro c54
        refine OG.iconst X d3_57 (z := (3 : Int32)) rfl ?_
        refine OG.istore X d3_58 (l' := #[.val (.ref a), .val (.int o), .val (.int n), .val (.int a'), .val (.int (3 : Int32)), .unset, .unset, .unset, .unset]) rfl ?_
        refine OG.iloadN X d3_60 rfl ?_
        refine OG.bipush X d3_61 (z := (15 : Int32)) rfl ?_
        refine OG.iand X d3_63 ?_
        refine OG.istoreV X d3_64 (l' := fun z => #[.val (.ref a), .val (.int o), .val (.int n), .val (.int a'), .val (.int (3 : Int32)), .val (.int z), .unset, .unset, .unset]) (fun _ => rfl) ?_
        intro q0 hq0
        have hq0v : q0.toInt = bb f P % 16 := by rw [hq0]; exact own_m 4 16 (by decide) (by decide) (by decide) hav
        refine OG.sipush X d3_66 (z := (2048 : Int32)) rfl ?_
        refine OG.istore X d3_69 (l' := #[.val (.ref a), .val (.int o), .val (.int n), .val (.int a'), .val (.int (3 : Int32)), .val (.int q0), .val (.int (2048 : Int32)), .unset, .unset]) rfl ?_
        refine OG.goto X d3_71 (pc' := 103) (by decide) ?_
        refine OG.iloadN X d3_103 rfl ?_
        refine OG.iloadN X d3_104 rfl ?_
        refine OG.isub X d3_105 ?_
        refine OG.iload X d3_106 rfl ?_
        refine OG.icmp_ge X d3_108 (pc' := 113) (by decide) ?_ ?_
        · intro c108
          refine OG.aloadN X d3_113 rfl rfl ?_
          refine OG.iloadN X d3_114 rfl ?_
          refine OG.iconst X d3_115 (z := (1 : Int32)) rfl ?_
          refine OG.iadd X d3_116 ?_
          refine OG.baload X A_a (by have z := (not_congr (own_sub hn hp h4 (by omega) (K := 3) rfl)).mp c108; rw [own_add (K := 1) hp rfl (by omega) (by decide)]; omega) d3_117 ?_
          refine OG.sipush X d3_118 (z := (255 : Int32)) rfl ?_
          refine OG.iand X d3_121 ?_
          refine OG.istoreV X d3_122 (l' := fun z => #[.val (.ref a), .val (.int o), .val (.int n), .val (.int a'), .val (.int (3 : Int32)), .val (.int q0), .val (.int (2048 : Int32)), .val (.int z), .unset]) (fun _ => rfl) ?_
          intro b1 hb1
          have hb1v := own_by (own_add (K := 1) hp rfl (by omega) (by decide)) hb1; have hb1b : 0 ≤ b1.toInt ∧ b1.toInt < 256 := by rw [hb1v]; exact own_bR f _
          refine OG.iload X d3_124 rfl ?_
          refine OG.sipush X d3_126 (z := (192 : Int32)) rfl ?_
          refine OG.iand X d3_129 ?_
          refine OG.sipush X d3_130 (z := (128 : Int32)) rfl ?_
          refine OG.icmp_eq X d3_133 (pc' := 138) (by decide) ?_ ?_
          · intro c133
            refine OG.iload X d3_138 rfl ?_
            refine OG.bipush X d3_140 (z := (6 : Int32)) rfl ?_
            refine OG.ishl X d3_142 ?_
            refine OG.iload X d3_143 rfl ?_
            refine OG.bipush X d3_145 (z := (63 : Int32)) rfl ?_
            refine OG.iand X d3_147 ?_
            refine OG.ior X d3_148 ?_
            refine OG.istoreV X d3_149 (l' := fun z => #[.val (.ref a), .val (.int o), .val (.int n), .val (.int a'), .val (.int (3 : Int32)), .val (.int z), .val (.int (2048 : Int32)), .val (.int b1), .unset]) (fun _ => rfl) ?_
            intro q1 hq1
            have hq1v := own_cp hq1 hq0v (by have := own_bR f P; omega) hb1v (own_bR f _)
            refine OG.iload X d3_151 rfl ?_
            refine OG.iconst X d3_153 (z := (3 : Int32)) rfl ?_
            refine OG.icmp_lt_f X d3_154 (by decide) ?_
            refine OG.aloadN X d3_157 rfl rfl ?_
            refine OG.iloadN X d3_158 rfl ?_
            refine OG.iconst X d3_159 (z := (2 : Int32)) rfl ?_
            refine OG.iadd X d3_160 ?_
            refine OG.baload X A_a (by have z := (not_congr (own_sub hn hp h4 (by omega) (K := 3) rfl)).mp c108; rw [own_add (K := 2) hp rfl (by omega) (by decide)]; omega) d3_161 ?_
            refine OG.sipush X d3_162 (z := (255 : Int32)) rfl ?_
            refine OG.iand X d3_165 ?_
            refine OG.istoreV X d3_166 (l' := fun z => #[.val (.ref a), .val (.int o), .val (.int n), .val (.int a'), .val (.int (3 : Int32)), .val (.int q1), .val (.int (2048 : Int32)), .val (.int b1), .val (.int z)]) (fun _ => rfl) ?_
            intro b2 hb2
            have hb2v := own_by (own_add (K := 2) hp rfl (by omega) (by decide)) hb2; have hb2b : 0 ≤ b2.toInt ∧ b2.toInt < 256 := by rw [hb2v]; exact own_bR f _
            refine OG.iload X d3_168 rfl ?_
            refine OG.sipush X d3_170 (z := (192 : Int32)) rfl ?_
            refine OG.iand X d3_173 ?_
            refine OG.sipush X d3_174 (z := (128 : Int32)) rfl ?_
            refine OG.icmp_eq X d3_177 (pc' := 182) (by decide) ?_ ?_
            · intro c177
              refine OG.iload X d3_182 rfl ?_
              refine OG.bipush X d3_184 (z := (6 : Int32)) rfl ?_
              refine OG.ishl X d3_186 ?_
              refine OG.iload X d3_187 rfl ?_
              refine OG.bipush X d3_189 (z := (63 : Int32)) rfl ?_
              refine OG.iand X d3_191 ?_
              refine OG.ior X d3_192 ?_
              refine OG.istoreV X d3_193 (l' := fun z => #[.val (.ref a), .val (.int o), .val (.int n), .val (.int a'), .val (.int (3 : Int32)), .val (.int z), .val (.int (2048 : Int32)), .val (.int b1), .val (.int b2)]) (fun _ => rfl) ?_
              intro q2 hq2
              have hq2v := own_cp hq2 hq1v (by have := own_bR f P; have := own_bR f (P + 1); omega) hb2v (own_bR f _)
              refine OG.iload X d3_195 rfl ?_
              refine OG.iconst X d3_197 (z := (4 : Int32)) rfl ?_
              refine OG.icmp_ne_t X d3_198 (pc' := 239) (by decide) (by decide) ?_
              refine OG.iload X d3_239 rfl ?_
              refine OG.iload X d3_241 rfl ?_
              refine OG.icmp_ge X d3_243 (pc' := 248) (by decide) ?_ ?_
              · intro c243
                refine OG.iload X d3_248 rfl ?_
                refine OG.ldcInt X (v := (55296 : Int32)) (hw _ (List.mem_of_getElem? (i := 16) rfl)) d3_250 ?_
                refine OG.icmp_lt X d3_252 (pc' := 264) (by decide) ?_ ?_
                · intro c252
                  refine OG.iload X d3_264 rfl ?_
                  refine OG.ldcInt X (v := (1114111 : Int32)) (hw _ (List.mem_of_getElem? (i := 17) rfl)) d3_266 ?_
                  refine OG.icmp_le X d3_268 (pc' := 273) (by decide) ?_ ?_
                  · intro c268
                    refine OG.iload X d3_273 rfl ?_
                    exact OG.retI X d3_275 (by decide) (by decide) ⟨_, rfl, (by have z0 := (not_congr (own_128 hab)).mp c13; have z1 := (not_congr (own_224 hab)).mp c26; have z2 := (own_240 hab).mp c54; have z3 := (not_congr (own_sub hn hp h4 (by omega) (K := 3) rfl)).mp c108; have z4 := (own_192 hb1b).mp c133; have z5 := (own_192 hb2b).mp c177; have z6 := (not_congr (own_ltL (K := 2048) rfl)).mp c243; have z7 := (own_ltL (K := 55296) rfl).mp c252; have z8 := (not_congr (own_Llt (K := 1114111) rfl)).mp c268; have hr0 := own_bR f P; have hr1 := own_bR f (P + 1); have hr2 := own_bR f (P + 2); have hr3 := own_bR f (P + 3); have ev : (3 : Int32).toInt = 3 := rfl; unfold SPr; omega), rfl⟩
                  · intro c268
                    refine OG.iconst X d3_271 (z := (-1 : Int32)) rfl ?_
                    exact OG.retI X d3_272 (by decide) (by decide) ⟨_, rfl, (by have z0 := (not_congr (own_128 hab)).mp c13; have z1 := (not_congr (own_224 hab)).mp c26; have z2 := (own_240 hab).mp c54; have z3 := (not_congr (own_sub hn hp h4 (by omega) (K := 3) rfl)).mp c108; have z4 := (own_192 hb1b).mp c133; have z5 := (own_192 hb2b).mp c177; have z6 := (not_congr (own_ltL (K := 2048) rfl)).mp c243; have z7 := (own_ltL (K := 55296) rfl).mp c252; have z8 := (own_Llt (K := 1114111) rfl).mp c268; have hr0 := own_bR f P; have hr1 := own_bR f (P + 1); have hr2 := own_bR f (P + 2); have hr3 := own_bR f (P + 3); have ev : (-1 : Int32).toInt = -1 := rfl; unfold SPr; omega), rfl⟩
                · intro c252
                  refine OG.iload X d3_255 rfl ?_
                  refine OG.ldcInt X (v := (57343 : Int32)) (hw _ (List.mem_of_getElem? (i := 18) rfl)) d3_257 ?_
                  refine OG.icmp_gt X d3_259 (pc' := 264) (by decide) ?_ ?_
                  · intro c259
                    refine OG.iload X d3_264 rfl ?_
                    refine OG.ldcInt X (v := (1114111 : Int32)) (hw _ (List.mem_of_getElem? (i := 17) rfl)) d3_266 ?_
                    refine OG.icmp_le X d3_268 (pc' := 273) (by decide) ?_ ?_
                    · intro c268
                      refine OG.iload X d3_273 rfl ?_
                      exact OG.retI X d3_275 (by decide) (by decide) ⟨_, rfl, (by have z0 := (not_congr (own_128 hab)).mp c13; have z1 := (not_congr (own_224 hab)).mp c26; have z2 := (own_240 hab).mp c54; have z3 := (not_congr (own_sub hn hp h4 (by omega) (K := 3) rfl)).mp c108; have z4 := (own_192 hb1b).mp c133; have z5 := (own_192 hb2b).mp c177; have z6 := (not_congr (own_ltL (K := 2048) rfl)).mp c243; have z7 := (not_congr (own_ltL (K := 55296) rfl)).mp c252; have z8 := (own_Llt (K := 57343) rfl).mp c259; have z9 := (not_congr (own_Llt (K := 1114111) rfl)).mp c268; have hr0 := own_bR f P; have hr1 := own_bR f (P + 1); have hr2 := own_bR f (P + 2); have hr3 := own_bR f (P + 3); have ev : (3 : Int32).toInt = 3 := rfl; unfold SPr; omega), rfl⟩
                    · intro c268
                      refine OG.iconst X d3_271 (z := (-1 : Int32)) rfl ?_
                      exact OG.retI X d3_272 (by decide) (by decide) ⟨_, rfl, (by have z0 := (not_congr (own_128 hab)).mp c13; have z1 := (not_congr (own_224 hab)).mp c26; have z2 := (own_240 hab).mp c54; have z3 := (not_congr (own_sub hn hp h4 (by omega) (K := 3) rfl)).mp c108; have z4 := (own_192 hb1b).mp c133; have z5 := (own_192 hb2b).mp c177; have z6 := (not_congr (own_ltL (K := 2048) rfl)).mp c243; have z7 := (not_congr (own_ltL (K := 55296) rfl)).mp c252; have z8 := (own_Llt (K := 57343) rfl).mp c259; have z9 := (own_Llt (K := 1114111) rfl).mp c268; have hr0 := own_bR f P; have hr1 := own_bR f (P + 1); have hr2 := own_bR f (P + 2); have hr3 := own_bR f (P + 3); have ev : (-1 : Int32).toInt = -1 := rfl; unfold SPr; omega), rfl⟩
                  · intro c259
                    refine OG.iconst X d3_262 (z := (-1 : Int32)) rfl ?_
                    exact OG.retI X d3_263 (by decide) (by decide) ⟨_, rfl, (by have z0 := (not_congr (own_128 hab)).mp c13; have z1 := (not_congr (own_224 hab)).mp c26; have z2 := (own_240 hab).mp c54; have z3 := (not_congr (own_sub hn hp h4 (by omega) (K := 3) rfl)).mp c108; have z4 := (own_192 hb1b).mp c133; have z5 := (own_192 hb2b).mp c177; have z6 := (not_congr (own_ltL (K := 2048) rfl)).mp c243; have z7 := (not_congr (own_ltL (K := 55296) rfl)).mp c252; have z8 := (not_congr (own_Llt (K := 57343) rfl)).mp c259; have hr0 := own_bR f P; have hr1 := own_bR f (P + 1); have hr2 := own_bR f (P + 2); have hr3 := own_bR f (P + 3); have ev : (-1 : Int32).toInt = -1 := rfl; unfold SPr; omega), rfl⟩
              · intro c243
                refine OG.iconst X d3_246 (z := (-1 : Int32)) rfl ?_
                exact OG.retI X d3_247 (by decide) (by decide) ⟨_, rfl, (by have z0 := (not_congr (own_128 hab)).mp c13; have z1 := (not_congr (own_224 hab)).mp c26; have z2 := (own_240 hab).mp c54; have z3 := (not_congr (own_sub hn hp h4 (by omega) (K := 3) rfl)).mp c108; have z4 := (own_192 hb1b).mp c133; have z5 := (own_192 hb2b).mp c177; have z6 := (own_ltL (K := 2048) rfl).mp c243; have hr0 := own_bR f P; have hr1 := own_bR f (P + 1); have hr2 := own_bR f (P + 2); have hr3 := own_bR f (P + 3); have ev : (-1 : Int32).toInt = -1 := rfl; unfold SPr; omega), rfl⟩
            · intro c177
              refine OG.iconst X d3_180 (z := (-1 : Int32)) rfl ?_
              exact OG.retI X d3_181 (by decide) (by decide) ⟨_, rfl, (by have z0 := (not_congr (own_128 hab)).mp c13; have z1 := (not_congr (own_224 hab)).mp c26; have z2 := (own_240 hab).mp c54; have z3 := (not_congr (own_sub hn hp h4 (by omega) (K := 3) rfl)).mp c108; have z4 := (own_192 hb1b).mp c133; have z5 := (not_congr (own_192 hb2b)).mp c177; have hr0 := own_bR f P; have hr1 := own_bR f (P + 1); have hr2 := own_bR f (P + 2); have hr3 := own_bR f (P + 3); have ev : (-1 : Int32).toInt = -1 := rfl; unfold SPr; omega), rfl⟩
          · intro c133
            refine OG.iconst X d3_136 (z := (-1 : Int32)) rfl ?_
            exact OG.retI X d3_137 (by decide) (by decide) ⟨_, rfl, (by have z0 := (not_congr (own_128 hab)).mp c13; have z1 := (not_congr (own_224 hab)).mp c26; have z2 := (own_240 hab).mp c54; have z3 := (not_congr (own_sub hn hp h4 (by omega) (K := 3) rfl)).mp c108; have z4 := (not_congr (own_192 hb1b)).mp c133; have hr0 := own_bR f P; have hr1 := own_bR f (P + 1); have hr2 := own_bR f (P + 2); have hr3 := own_bR f (P + 3); have ev : (-1 : Int32).toInt = -1 := rfl; unfold SPr; omega), rfl⟩
        · intro c108
          refine OG.iconst X d3_111 (z := (-1 : Int32)) rfl ?_
          exact OG.retI X d3_112 (by decide) (by decide) ⟨_, rfl, (by have z0 := (not_congr (own_128 hab)).mp c13; have z1 := (not_congr (own_224 hab)).mp c26; have z2 := (own_240 hab).mp c54; have z3 := (own_sub hn hp h4 (by omega) (K := 3) rfl).mp c108; have hr0 := own_bR f P; have hr1 := own_bR f (P + 1); have hr2 := own_bR f (P + 2); have hr3 := own_bR f (P + 3); have ev : (-1 : Int32).toInt = -1 := rfl; unfold SPr; omega), rfl⟩
    · intro c26
      refine OG.iconst X d3_29 (z := (2 : Int32)) rfl ?_
      refine OG.istore X d3_30 (l' := #[.val (.ref a), .val (.int o), .val (.int n), .val (.int a'), .val (.int (2 : Int32)), .unset, .unset, .unset, .unset]) rfl ?_
      refine OG.iloadN X d3_32 rfl ?_
      refine OG.bipush X d3_33 (z := (31 : Int32)) rfl ?_
      refine OG.iand X d3_35 ?_
      refine OG.istoreV X d3_36 (l' := fun z => #[.val (.ref a), .val (.int o), .val (.int n), .val (.int a'), .val (.int (2 : Int32)), .val (.int z), .unset, .unset, .unset]) (fun _ => rfl) ?_
      intro q0 hq0
      have hq0v : q0.toInt = bb f P % 32 := by rw [hq0]; exact own_m 5 32 (by decide) (by decide) (by decide) hav
      refine OG.sipush X d3_38 (z := (128 : Int32)) rfl ?_
      refine OG.istore X d3_41 (l' := #[.val (.ref a), .val (.int o), .val (.int n), .val (.int a'), .val (.int (2 : Int32)), .val (.int q0), .val (.int (128 : Int32)), .unset, .unset]) rfl ?_
      refine OG.goto X d3_43 (pc' := 103) (by decide) ?_
      refine OG.iloadN X d3_103 rfl ?_
      refine OG.iloadN X d3_104 rfl ?_
      refine OG.isub X d3_105 ?_
      refine OG.iload X d3_106 rfl ?_
      refine OG.icmp_ge X d3_108 (pc' := 113) (by decide) ?_ ?_
      · intro c108
        refine OG.aloadN X d3_113 rfl rfl ?_
        refine OG.iloadN X d3_114 rfl ?_
        refine OG.iconst X d3_115 (z := (1 : Int32)) rfl ?_
        refine OG.iadd X d3_116 ?_
        refine OG.baload X A_a (by have z := (not_congr (own_sub hn hp h4 (by omega) (K := 2) rfl)).mp c108; rw [own_add (K := 1) hp rfl (by omega) (by decide)]; omega) d3_117 ?_
        refine OG.sipush X d3_118 (z := (255 : Int32)) rfl ?_
        refine OG.iand X d3_121 ?_
        refine OG.istoreV X d3_122 (l' := fun z => #[.val (.ref a), .val (.int o), .val (.int n), .val (.int a'), .val (.int (2 : Int32)), .val (.int q0), .val (.int (128 : Int32)), .val (.int z), .unset]) (fun _ => rfl) ?_
        intro b1 hb1
        have hb1v := own_by (own_add (K := 1) hp rfl (by omega) (by decide)) hb1; have hb1b : 0 ≤ b1.toInt ∧ b1.toInt < 256 := by rw [hb1v]; exact own_bR f _
        refine OG.iload X d3_124 rfl ?_
        refine OG.sipush X d3_126 (z := (192 : Int32)) rfl ?_
        refine OG.iand X d3_129 ?_
        refine OG.sipush X d3_130 (z := (128 : Int32)) rfl ?_
        refine OG.icmp_eq X d3_133 (pc' := 138) (by decide) ?_ ?_
        · intro c133
          refine OG.iload X d3_138 rfl ?_
          refine OG.bipush X d3_140 (z := (6 : Int32)) rfl ?_
          refine OG.ishl X d3_142 ?_
          refine OG.iload X d3_143 rfl ?_
          refine OG.bipush X d3_145 (z := (63 : Int32)) rfl ?_
          refine OG.iand X d3_147 ?_
          refine OG.ior X d3_148 ?_
          refine OG.istoreV X d3_149 (l' := fun z => #[.val (.ref a), .val (.int o), .val (.int n), .val (.int a'), .val (.int (2 : Int32)), .val (.int z), .val (.int (128 : Int32)), .val (.int b1), .unset]) (fun _ => rfl) ?_
          intro q1 hq1
          have hq1v := own_cp hq1 hq0v (by have := own_bR f P; omega) hb1v (own_bR f _)
          refine OG.iload X d3_151 rfl ?_
          refine OG.iconst X d3_153 (z := (3 : Int32)) rfl ?_
          refine OG.icmp_lt_t X d3_154 (pc' := 195) (by decide) (by decide) ?_
          refine OG.iload X d3_195 rfl ?_
          refine OG.iconst X d3_197 (z := (4 : Int32)) rfl ?_
          refine OG.icmp_ne_t X d3_198 (pc' := 239) (by decide) (by decide) ?_
          refine OG.iload X d3_239 rfl ?_
          refine OG.iload X d3_241 rfl ?_
          refine OG.icmp_ge X d3_243 (pc' := 248) (by decide) ?_ ?_
          · intro c243
            refine OG.iload X d3_248 rfl ?_
            refine OG.ldcInt X (v := (55296 : Int32)) (hw _ (List.mem_of_getElem? (i := 16) rfl)) d3_250 ?_
            refine OG.icmp_lt X d3_252 (pc' := 264) (by decide) ?_ ?_
            · intro c252
              refine OG.iload X d3_264 rfl ?_
              refine OG.ldcInt X (v := (1114111 : Int32)) (hw _ (List.mem_of_getElem? (i := 17) rfl)) d3_266 ?_
              refine OG.icmp_le X d3_268 (pc' := 273) (by decide) ?_ ?_
              · intro c268
                refine OG.iload X d3_273 rfl ?_
                exact OG.retI X d3_275 (by decide) (by decide) ⟨_, rfl, (by have z0 := (not_congr (own_128 hab)).mp c13; have z1 := (own_224 hab).mp c26; have z2 := (not_congr (own_sub hn hp h4 (by omega) (K := 2) rfl)).mp c108; have z3 := (own_192 hb1b).mp c133; have z4 := (not_congr (own_ltL (K := 128) rfl)).mp c243; have z5 := (own_ltL (K := 55296) rfl).mp c252; have z6 := (not_congr (own_Llt (K := 1114111) rfl)).mp c268; have hr0 := own_bR f P; have hr1 := own_bR f (P + 1); have hr2 := own_bR f (P + 2); have hr3 := own_bR f (P + 3); have ev : (2 : Int32).toInt = 2 := rfl; unfold SPr; omega), rfl⟩
              · intro c268
                refine OG.iconst X d3_271 (z := (-1 : Int32)) rfl ?_
                exact OG.retI X d3_272 (by decide) (by decide) ⟨_, rfl, (by have z0 := (not_congr (own_128 hab)).mp c13; have z1 := (own_224 hab).mp c26; have z2 := (not_congr (own_sub hn hp h4 (by omega) (K := 2) rfl)).mp c108; have z3 := (own_192 hb1b).mp c133; have z4 := (not_congr (own_ltL (K := 128) rfl)).mp c243; have z5 := (own_ltL (K := 55296) rfl).mp c252; have z6 := (own_Llt (K := 1114111) rfl).mp c268; have hr0 := own_bR f P; have hr1 := own_bR f (P + 1); have hr2 := own_bR f (P + 2); have hr3 := own_bR f (P + 3); have ev : (-1 : Int32).toInt = -1 := rfl; unfold SPr; omega), rfl⟩
            · intro c252
              refine OG.iload X d3_255 rfl ?_
              refine OG.ldcInt X (v := (57343 : Int32)) (hw _ (List.mem_of_getElem? (i := 18) rfl)) d3_257 ?_
              refine OG.icmp_gt X d3_259 (pc' := 264) (by decide) ?_ ?_
              · intro c259
                refine OG.iload X d3_264 rfl ?_
                refine OG.ldcInt X (v := (1114111 : Int32)) (hw _ (List.mem_of_getElem? (i := 17) rfl)) d3_266 ?_
                refine OG.icmp_le X d3_268 (pc' := 273) (by decide) ?_ ?_
                · intro c268
                  refine OG.iload X d3_273 rfl ?_
                  exact OG.retI X d3_275 (by decide) (by decide) ⟨_, rfl, (by have z0 := (not_congr (own_128 hab)).mp c13; have z1 := (own_224 hab).mp c26; have z2 := (not_congr (own_sub hn hp h4 (by omega) (K := 2) rfl)).mp c108; have z3 := (own_192 hb1b).mp c133; have z4 := (not_congr (own_ltL (K := 128) rfl)).mp c243; have z5 := (not_congr (own_ltL (K := 55296) rfl)).mp c252; have z6 := (own_Llt (K := 57343) rfl).mp c259; have z7 := (not_congr (own_Llt (K := 1114111) rfl)).mp c268; have hr0 := own_bR f P; have hr1 := own_bR f (P + 1); have hr2 := own_bR f (P + 2); have hr3 := own_bR f (P + 3); have ev : (2 : Int32).toInt = 2 := rfl; unfold SPr; omega), rfl⟩
                · intro c268
                  refine OG.iconst X d3_271 (z := (-1 : Int32)) rfl ?_
                  exact OG.retI X d3_272 (by decide) (by decide) ⟨_, rfl, (by have z0 := (not_congr (own_128 hab)).mp c13; have z1 := (own_224 hab).mp c26; have z2 := (not_congr (own_sub hn hp h4 (by omega) (K := 2) rfl)).mp c108; have z3 := (own_192 hb1b).mp c133; have z4 := (not_congr (own_ltL (K := 128) rfl)).mp c243; have z5 := (not_congr (own_ltL (K := 55296) rfl)).mp c252; have z6 := (own_Llt (K := 57343) rfl).mp c259; have z7 := (own_Llt (K := 1114111) rfl).mp c268; have hr0 := own_bR f P; have hr1 := own_bR f (P + 1); have hr2 := own_bR f (P + 2); have hr3 := own_bR f (P + 3); have ev : (-1 : Int32).toInt = -1 := rfl; unfold SPr; omega), rfl⟩
              · intro c259
                refine OG.iconst X d3_262 (z := (-1 : Int32)) rfl ?_
                exact OG.retI X d3_263 (by decide) (by decide) ⟨_, rfl, (by have z0 := (not_congr (own_128 hab)).mp c13; have z1 := (own_224 hab).mp c26; have z2 := (not_congr (own_sub hn hp h4 (by omega) (K := 2) rfl)).mp c108; have z3 := (own_192 hb1b).mp c133; have z4 := (not_congr (own_ltL (K := 128) rfl)).mp c243; have z5 := (not_congr (own_ltL (K := 55296) rfl)).mp c252; have z6 := (not_congr (own_Llt (K := 57343) rfl)).mp c259; have hr0 := own_bR f P; have hr1 := own_bR f (P + 1); have hr2 := own_bR f (P + 2); have hr3 := own_bR f (P + 3); have ev : (-1 : Int32).toInt = -1 := rfl; unfold SPr; omega), rfl⟩
          · intro c243
            refine OG.iconst X d3_246 (z := (-1 : Int32)) rfl ?_
            exact OG.retI X d3_247 (by decide) (by decide) ⟨_, rfl, (by have z0 := (not_congr (own_128 hab)).mp c13; have z1 := (own_224 hab).mp c26; have z2 := (not_congr (own_sub hn hp h4 (by omega) (K := 2) rfl)).mp c108; have z3 := (own_192 hb1b).mp c133; have z4 := (own_ltL (K := 128) rfl).mp c243; have hr0 := own_bR f P; have hr1 := own_bR f (P + 1); have hr2 := own_bR f (P + 2); have hr3 := own_bR f (P + 3); have ev : (-1 : Int32).toInt = -1 := rfl; unfold SPr; omega), rfl⟩
        · intro c133
          refine OG.iconst X d3_136 (z := (-1 : Int32)) rfl ?_
          exact OG.retI X d3_137 (by decide) (by decide) ⟨_, rfl, (by have z0 := (not_congr (own_128 hab)).mp c13; have z1 := (own_224 hab).mp c26; have z2 := (not_congr (own_sub hn hp h4 (by omega) (K := 2) rfl)).mp c108; have z3 := (not_congr (own_192 hb1b)).mp c133; have hr0 := own_bR f P; have hr1 := own_bR f (P + 1); have hr2 := own_bR f (P + 2); have hr3 := own_bR f (P + 3); have ev : (-1 : Int32).toInt = -1 := rfl; unfold SPr; omega), rfl⟩
      · intro c108
        refine OG.iconst X d3_111 (z := (-1 : Int32)) rfl ?_
        exact OG.retI X d3_112 (by decide) (by decide) ⟨_, rfl, (by have z0 := (not_congr (own_128 hab)).mp c13; have z1 := (own_224 hab).mp c26; have z2 := (own_sub hn hp h4 (by omega) (K := 2) rfl).mp c108; have hr0 := own_bR f P; have hr1 := own_bR f (P + 1); have hr2 := own_bR f (P + 2); have hr3 := own_bR f (P + 3); have ev : (-1 : Int32).toInt = -1 := rfl; unfold SPr; omega), rfl⟩
  · intro c13
    refine OG.iconst X d3_16 (z := (1 : Int32)) rfl ?_
    exact OG.retI X d3_17 (by decide) (by decide) ⟨_, rfl, (by have z0 := (own_128 hab).mp c13; have hr0 := own_bR f P; have hr1 := own_bR f (P + 1); have hr2 := own_bR f (P + 2); have hr3 := own_bR f (P + 3); have ev : (1 : Int32).toInt = 1 := rfl; unfold SPr; omega), rfl⟩
theorem own_plt {p n : Int32} {P M : Nat} (hp : p.toInt = P) (hn : n.toInt = M) (hle : P ≤ M) (h : ¬ p = n) : P < M := by
  rw [← Int32.toInt_inj] at h; omega
theorem own_pge {p n : Int32} {P M : Nat} (hp : p.toInt = P) (hn : n.toInt = M) (h : p = n) : ¬ P < M := by
  subst h; omega
theorem own_neg {k : Int32} (h : k < 0) : k.toInt < 0 := (own_ltL (K := 0) rfl).mp h
theorem own_nneg {k : Int32} (h : ¬ k < 0) : ¬ k.toInt < 0 := (not_congr (own_ltL (K := 0) rfl)).mp h
theorem own_nextP {f : Nat → Int32} {p k p' : Int32} {P M j : Nat} {R : Bool} (hp : p.toInt = P) (hlt : P < M) (h4 : M ≤ 4) (sp : SPr (bb f P) (bb f (P + 1)) (bb f (P + 2)) (bb f (P + 3)) ((M : Int) - P) k.toInt) (hz : ¬ k.toInt < 0) (ho : p' = p + k) (hres : R = good f M (j + 1) P) : ∃ P' : Nat, p'.toInt = P' ∧ P' ≤ M ∧ R = good f M j P' := by
  have r := own_rng sp (by omega) hz
  have e := own_add (p := p) (k := k) (P := P) (K := k.toInt.toNat) hp (by omega) (by omega) (by omega)
  rw [← ho] at e
  exact ⟨P + k.toInt.toNat, e, by omega, by rw [hres, own_gS hlt sp hz]⟩
theorem pn_2 : plainName "com/example/skipstone/skipstone/index/StringEncodingWellFormedPinLaw" = true := by first | (simp [plainName, overriddenIn]; done) | decide +kernel
theorem ef_2 (m : MethodId) (a : Addr) (n : Int32) : entryFrame m #[(.ref a), (.int n)] 4 = mkF m 0 #[.val (.ref a), .val (.int n), .unset, .unset] [] := by first | (simp [entryFrame, mkF, argsToLocals, Value.category]; done) | rfl
def Q2 (Z : State) (a : Addr) (n : Int32) (f : Nat → Int32) (M : Nat) (h0 : Heap) : Option Value → Heap → Prop := fun v h => v = some (.int (if good f M 4 0 = true then 1 else 0)) ∧ h = h0
theorem d2_0 : decode method_4_code 0 = .ok (.iconst 0, 1) := by decide +kernel
theorem d2_1 : decode method_4_code 1 = .ok (.istore_n 2, 1) := by decide +kernel
theorem d2_2 : decode method_4_code 2 = .ok (.iload_n 2, 1) := by decide +kernel
theorem d2_3 : decode method_4_code 3 = .ok (.iload_n 1, 1) := by decide +kernel
theorem d2_4 : decode method_4_code 4 = .ok (.if_icmp .ne 5, 3) := by decide +kernel
theorem d2_9 : decode method_4_code 9 = .ok (.aload_n 0, 1) := by decide +kernel
theorem d2_10 : decode method_4_code 10 = .ok (.iload_n 2, 1) := by decide +kernel
theorem d2_11 : decode method_4_code 11 = .ok (.iload_n 1, 1) := by decide +kernel
theorem d2_12 : decode method_4_code 12 = .ok (.invokestatic 22, 3) := by decide +kernel
theorem pd_0 : parseMethodDescriptor "([BII)I" = some ⟨[(.array .byte), .int, .int], some .int⟩ := by decide +kernel
theorem d2_15 : decode method_4_code 15 = .ok (.istore_n 3, 1) := by decide +kernel
theorem d2_16 : decode method_4_code 16 = .ok (.iload_n 3, 1) := by decide +kernel
theorem d2_17 : decode method_4_code 17 = .ok (.ifCond .ge 5, 3) := by decide +kernel
theorem d2_22 : decode method_4_code 22 = .ok (.iload_n 2, 1) := by decide +kernel
theorem d2_23 : decode method_4_code 23 = .ok (.iload_n 3, 1) := by decide +kernel
theorem d2_24 : decode method_4_code 24 = .ok (.iadd, 1) := by decide +kernel
theorem d2_25 : decode method_4_code 25 = .ok (.istore_n 2, 1) := by decide +kernel
theorem d2_26 : decode method_4_code 26 = .ok (.iload_n 2, 1) := by decide +kernel
theorem d2_27 : decode method_4_code 27 = .ok (.iload_n 1, 1) := by decide +kernel
theorem d2_28 : decode method_4_code 28 = .ok (.if_icmp .ne 5, 3) := by decide +kernel
theorem d2_33 : decode method_4_code 33 = .ok (.aload_n 0, 1) := by decide +kernel
theorem d2_34 : decode method_4_code 34 = .ok (.iload_n 2, 1) := by decide +kernel
theorem d2_35 : decode method_4_code 35 = .ok (.iload_n 1, 1) := by decide +kernel
theorem d2_36 : decode method_4_code 36 = .ok (.invokestatic 22, 3) := by decide +kernel
theorem d2_39 : decode method_4_code 39 = .ok (.istore_n 3, 1) := by decide +kernel
theorem d2_40 : decode method_4_code 40 = .ok (.iload_n 3, 1) := by decide +kernel
theorem d2_41 : decode method_4_code 41 = .ok (.ifCond .ge 5, 3) := by decide +kernel
theorem d2_46 : decode method_4_code 46 = .ok (.iload_n 2, 1) := by decide +kernel
theorem d2_47 : decode method_4_code 47 = .ok (.iload_n 3, 1) := by decide +kernel
theorem d2_48 : decode method_4_code 48 = .ok (.iadd, 1) := by decide +kernel
theorem d2_49 : decode method_4_code 49 = .ok (.istore_n 2, 1) := by decide +kernel
theorem d2_50 : decode method_4_code 50 = .ok (.iload_n 2, 1) := by decide +kernel
theorem d2_51 : decode method_4_code 51 = .ok (.iload_n 1, 1) := by decide +kernel
theorem d2_52 : decode method_4_code 52 = .ok (.if_icmp .ne 5, 3) := by decide +kernel
theorem d2_57 : decode method_4_code 57 = .ok (.aload_n 0, 1) := by decide +kernel
theorem d2_58 : decode method_4_code 58 = .ok (.iload_n 2, 1) := by decide +kernel
theorem d2_59 : decode method_4_code 59 = .ok (.iload_n 1, 1) := by decide +kernel
theorem d2_60 : decode method_4_code 60 = .ok (.invokestatic 22, 3) := by decide +kernel
theorem d2_63 : decode method_4_code 63 = .ok (.istore_n 3, 1) := by decide +kernel
theorem d2_64 : decode method_4_code 64 = .ok (.iload_n 3, 1) := by decide +kernel
theorem d2_65 : decode method_4_code 65 = .ok (.ifCond .ge 5, 3) := by decide +kernel
theorem d2_70 : decode method_4_code 70 = .ok (.iload_n 2, 1) := by decide +kernel
theorem d2_71 : decode method_4_code 71 = .ok (.iload_n 3, 1) := by decide +kernel
theorem d2_72 : decode method_4_code 72 = .ok (.iadd, 1) := by decide +kernel
theorem d2_73 : decode method_4_code 73 = .ok (.istore_n 2, 1) := by decide +kernel
theorem d2_74 : decode method_4_code 74 = .ok (.iload_n 2, 1) := by decide +kernel
theorem d2_75 : decode method_4_code 75 = .ok (.iload_n 1, 1) := by decide +kernel
theorem d2_76 : decode method_4_code 76 = .ok (.if_icmp .ne 5, 3) := by decide +kernel
theorem d2_81 : decode method_4_code 81 = .ok (.aload_n 0, 1) := by decide +kernel
theorem d2_82 : decode method_4_code 82 = .ok (.iload_n 2, 1) := by decide +kernel
theorem d2_83 : decode method_4_code 83 = .ok (.iload_n 1, 1) := by decide +kernel
theorem d2_84 : decode method_4_code 84 = .ok (.invokestatic 22, 3) := by decide +kernel
theorem d2_87 : decode method_4_code 87 = .ok (.istore_n 3, 1) := by decide +kernel
theorem d2_88 : decode method_4_code 88 = .ok (.iload_n 3, 1) := by decide +kernel
theorem d2_89 : decode method_4_code 89 = .ok (.ifCond .ge 5, 3) := by decide +kernel
theorem d2_94 : decode method_4_code 94 = .ok (.iconst 1, 1) := by decide +kernel
theorem d2_95 : decode method_4_code 95 = .ok (.ireturn, 1) := by decide +kernel
theorem d2_92 : decode method_4_code 92 = .ok (.iconst 0, 1) := by decide +kernel
theorem d2_93 : decode method_4_code 93 = .ok (.ireturn, 1) := by decide +kernel
theorem d2_79 : decode method_4_code 79 = .ok (.iconst 1, 1) := by decide +kernel
theorem d2_80 : decode method_4_code 80 = .ok (.ireturn, 1) := by decide +kernel
theorem d2_68 : decode method_4_code 68 = .ok (.iconst 0, 1) := by decide +kernel
theorem d2_69 : decode method_4_code 69 = .ok (.ireturn, 1) := by decide +kernel
theorem d2_55 : decode method_4_code 55 = .ok (.iconst 1, 1) := by decide +kernel
theorem d2_56 : decode method_4_code 56 = .ok (.ireturn, 1) := by decide +kernel
theorem d2_44 : decode method_4_code 44 = .ok (.iconst 0, 1) := by decide +kernel
theorem d2_45 : decode method_4_code 45 = .ok (.ireturn, 1) := by decide +kernel
theorem d2_31 : decode method_4_code 31 = .ok (.iconst 1, 1) := by decide +kernel
theorem d2_32 : decode method_4_code 32 = .ok (.ireturn, 1) := by decide +kernel
theorem d2_20 : decode method_4_code 20 = .ok (.iconst 0, 1) := by decide +kernel
theorem d2_21 : decode method_4_code 21 = .ok (.ireturn, 1) := by decide +kernel
theorem d2_7 : decode method_4_code 7 = .ok (.iconst 1, 1) := by decide +kernel
theorem d2_8 : decode method_4_code 8 = .ok (.ireturn, 1) := by decide +kernel
abbrev room2 : Room := { frames := 1, cells := 0, slots := 0, locals := 20 }
set_option maxRecDepth 65536 in
set_option maxHeartbeats 40000000 in
theorem rm2 (l : Launch) (Z : State) (a0 : Array Value) (hw : ∀ d ∈ tables_1, d.before a0 Z = true) (ws : List Jvm.Cond) (a : Addr) (n : Int32) (f : Nat → Int32) (M : Nat) (h0 : Heap) (n0 : Nat) (A_a : Ia Z h0 a .byte 4 f) (hn : n.toInt = M) (h4 : M ≤ 4) :
    OM l (⟨"com/example/skipstone/skipstone/index/StringEncodingWellFormedPinLaw", "reference", "([BI)Z"⟩ : MethodName) method_4_code 4 (some .boolean) room2 ws Z #[(.ref a), (.int n)] h0 n0 (Q2 Z a n f M h0) := by
  refine OM.of (plainFor_of_name pn_2) (fun m => ef_2 m a n) ?_
  intro p e s m below meth c T X
  have hp0 : (0 : Int32).toInt = ((0 : Nat) : Int) := rfl
  refine OG.iconst X d2_0 (z := (0 : Int32)) rfl ?_
  refine OG.istoreN X d2_1 (l' := #[.val (.ref a), .val (.int n), .val (.int (0 : Int32)), .unset]) rfl ?_
  refine OG.iloadN X d2_2 rfl ?_
  refine OG.iloadN X d2_3 rfl ?_
  refine OG.icmp_ne X d2_4 (pc' := 9) (by decide) ?_ ?_
  · intro c4
    have hlt0 := own_plt hp0 hn (Nat.zero_le _) c4
    refine OG.aloadN X d2_9 rfl rfl ?_
    refine OG.iloadN X d2_10 rfl ?_
    refine OG.iloadN X d2_11 rfl ?_
    refine OG.callS X (hw _ (List.mem_of_getElem? (i := 8) rfl)) (hw _ (List.mem_of_getElem? (i := 9) rfl)) (by decide) (rm3 l Z a0 hw [] a (0 : Int32) n f 0 M h0 n0 A_a hp0 hn hlt0 h4) (hw _ (List.mem_of_getElem? (i := 10) rfl)) (hw _ (List.mem_of_getElem? (i := 3) rfl)) (by decide) (W := 0) (by decide) rfl (argsL := [(.ref a), (.int (0 : Int32)), (.int n)]) pd_0 rfl d2_12 rfl (Nat.le_of_eq rfl) (by decide) (by decide) ?_
    rintro _ T1 h2 X1 ⟨k3, rfl, sp_k3, eh2⟩
    rw [eh2] at X1
    show OG p e below s n0 room2.cells room2.slots (Q2 Z a n f M h0) (T1.setTop (mkF m 15 #[.val (.ref a), .val (.int n), .val (.int (0 : Int32)), .unset] [(.int k3)]))
    refine OG.istoreN X1 d2_15 (l' := #[.val (.ref a), .val (.int n), .val (.int (0 : Int32)), .val (.int k3)]) rfl ?_
    refine OG.iloadN X1 d2_16 rfl ?_
    refine OG.if_ge X1 d2_17 (pc' := 22) (by decide) ?_ ?_
    · intro c17
      refine OG.iloadN X1 d2_22 rfl ?_
      refine OG.iloadN X1 d2_23 rfl ?_
      refine OG.iadd X1 d2_24 ?_
      refine OG.istoreNV X1 d2_25 (l' := fun z => #[.val (.ref a), .val (.int n), .val (.int z), .val (.int k3)]) (fun _ => rfl) ?_
      intro o1 ho1
      obtain ⟨P1, hp1, hle1, hres1⟩ := own_nextP hp0 hlt0 h4 sp_k3 (own_nneg c17) ho1 (rfl : good f M 4 0 = good f M 4 0)
      refine OG.iloadN X1 d2_26 rfl ?_
      refine OG.iloadN X1 d2_27 rfl ?_
      refine OG.icmp_ne X1 d2_28 (pc' := 33) (by decide) ?_ ?_
      · intro c28
        have hlt1 := own_plt hp1 hn hle1 c28
        refine OG.aloadN X1 d2_33 rfl rfl ?_
        refine OG.iloadN X1 d2_34 rfl ?_
        refine OG.iloadN X1 d2_35 rfl ?_
        refine OG.callS X1 (hw _ (List.mem_of_getElem? (i := 8) rfl)) (hw _ (List.mem_of_getElem? (i := 9) rfl)) (by decide) (rm3 l Z a0 hw [] a o1 n f P1 M h0 n0 A_a hp1 hn hlt1 h4) (hw _ (List.mem_of_getElem? (i := 10) rfl)) (hw _ (List.mem_of_getElem? (i := 3) rfl)) (by decide) (W := 0) (by decide) rfl (argsL := [(.ref a), (.int o1), (.int n)]) pd_0 rfl d2_36 rfl (Nat.le_of_eq rfl) (by decide) (by decide) ?_
        rintro _ T4 h5 X4 ⟨k6, rfl, sp_k6, eh5⟩
        rw [eh5] at X4
        show OG p e below s n0 room2.cells room2.slots (Q2 Z a n f M h0) (T4.setTop (mkF m 39 #[.val (.ref a), .val (.int n), .val (.int o1), .val (.int k3)] [(.int k6)]))
        refine OG.istoreN X4 d2_39 (l' := #[.val (.ref a), .val (.int n), .val (.int o1), .val (.int k6)]) rfl ?_
        refine OG.iloadN X4 d2_40 rfl ?_
        refine OG.if_ge X4 d2_41 (pc' := 46) (by decide) ?_ ?_
        · intro c41
          refine OG.iloadN X4 d2_46 rfl ?_
          refine OG.iloadN X4 d2_47 rfl ?_
          refine OG.iadd X4 d2_48 ?_
          refine OG.istoreNV X4 d2_49 (l' := fun z => #[.val (.ref a), .val (.int n), .val (.int z), .val (.int k6)]) (fun _ => rfl) ?_
          intro o2 ho2
          obtain ⟨P2, hp2, hle2, hres2⟩ := own_nextP hp1 hlt1 h4 sp_k6 (own_nneg c41) ho2 hres1
          refine OG.iloadN X4 d2_50 rfl ?_
          refine OG.iloadN X4 d2_51 rfl ?_
          refine OG.icmp_ne X4 d2_52 (pc' := 57) (by decide) ?_ ?_
          · intro c52
            have hlt2 := own_plt hp2 hn hle2 c52
            refine OG.aloadN X4 d2_57 rfl rfl ?_
            refine OG.iloadN X4 d2_58 rfl ?_
            refine OG.iloadN X4 d2_59 rfl ?_
            refine OG.callS X4 (hw _ (List.mem_of_getElem? (i := 8) rfl)) (hw _ (List.mem_of_getElem? (i := 9) rfl)) (by decide) (rm3 l Z a0 hw [] a o2 n f P2 M h0 n0 A_a hp2 hn hlt2 h4) (hw _ (List.mem_of_getElem? (i := 10) rfl)) (hw _ (List.mem_of_getElem? (i := 3) rfl)) (by decide) (W := 0) (by decide) rfl (argsL := [(.ref a), (.int o2), (.int n)]) pd_0 rfl d2_60 rfl (Nat.le_of_eq rfl) (by decide) (by decide) ?_
            rintro _ T7 h8 X7 ⟨k9, rfl, sp_k9, eh8⟩
            rw [eh8] at X7
            show OG p e below s n0 room2.cells room2.slots (Q2 Z a n f M h0) (T7.setTop (mkF m 63 #[.val (.ref a), .val (.int n), .val (.int o2), .val (.int k6)] [(.int k9)]))
            refine OG.istoreN X7 d2_63 (l' := #[.val (.ref a), .val (.int n), .val (.int o2), .val (.int k9)]) rfl ?_
            refine OG.iloadN X7 d2_64 rfl ?_
            refine OG.if_ge X7 d2_65 (pc' := 70) (by decide) ?_ ?_
            · intro c65
              refine OG.iloadN X7 d2_70 rfl ?_
              refine OG.iloadN X7 d2_71 rfl ?_
              refine OG.iadd X7 d2_72 ?_
              refine OG.istoreNV X7 d2_73 (l' := fun z => #[.val (.ref a), .val (.int n), .val (.int z), .val (.int k9)]) (fun _ => rfl) ?_
              intro o3 ho3
              obtain ⟨P3, hp3, hle3, hres3⟩ := own_nextP hp2 hlt2 h4 sp_k9 (own_nneg c65) ho3 hres2
              refine OG.iloadN X7 d2_74 rfl ?_
              refine OG.iloadN X7 d2_75 rfl ?_
              refine OG.icmp_ne X7 d2_76 (pc' := 81) (by decide) ?_ ?_
              · intro c76
                have hlt3 := own_plt hp3 hn hle3 c76
                refine OG.aloadN X7 d2_81 rfl rfl ?_
                refine OG.iloadN X7 d2_82 rfl ?_
                refine OG.iloadN X7 d2_83 rfl ?_
                refine OG.callS X7 (hw _ (List.mem_of_getElem? (i := 8) rfl)) (hw _ (List.mem_of_getElem? (i := 9) rfl)) (by decide) (rm3 l Z a0 hw [] a o3 n f P3 M h0 n0 A_a hp3 hn hlt3 h4) (hw _ (List.mem_of_getElem? (i := 10) rfl)) (hw _ (List.mem_of_getElem? (i := 3) rfl)) (by decide) (W := 0) (by decide) rfl (argsL := [(.ref a), (.int o3), (.int n)]) pd_0 rfl d2_84 rfl (Nat.le_of_eq rfl) (by decide) (by decide) ?_
                rintro _ T10 h11 X10 ⟨k12, rfl, sp_k12, eh11⟩
                rw [eh11] at X10
                show OG p e below s n0 room2.cells room2.slots (Q2 Z a n f M h0) (T10.setTop (mkF m 87 #[.val (.ref a), .val (.int n), .val (.int o3), .val (.int k9)] [(.int k12)]))
                refine OG.istoreN X10 d2_87 (l' := #[.val (.ref a), .val (.int n), .val (.int o3), .val (.int k12)]) rfl ?_
                refine OG.iloadN X10 d2_88 rfl ?_
                refine OG.if_ge X10 d2_89 (pc' := 94) (by decide) ?_ ?_
                · intro c89
                  refine OG.iconst X10 d2_94 (z := (1 : Int32)) rfl ?_
                  exact OG.retN X10 (t := .boolean) d2_95 (by simp) (by decide) (by decide) ⟨by rw [hres3, own_gS hlt3 sp_k12 (own_nneg c89)]; rfl, rfl⟩
                · intro c89
                  refine OG.iconst X10 d2_92 (z := (0 : Int32)) rfl ?_
                  exact OG.retN X10 (t := .boolean) d2_93 (by simp) (by decide) (by decide) ⟨by rw [hres3, own_gF hlt3 sp_k12 (own_neg c89)]; rfl, rfl⟩
              · intro c76
                refine OG.iconst X7 d2_79 (z := (1 : Int32)) rfl ?_
                exact OG.retN X7 (t := .boolean) d2_80 (by simp) (by decide) (by decide) ⟨by rw [hres3, own_gT (own_pge hp3 hn c76)]; rfl, rfl⟩
            · intro c65
              refine OG.iconst X7 d2_68 (z := (0 : Int32)) rfl ?_
              exact OG.retN X7 (t := .boolean) d2_69 (by simp) (by decide) (by decide) ⟨by rw [hres2, own_gF hlt2 sp_k9 (own_neg c65)]; rfl, rfl⟩
          · intro c52
            refine OG.iconst X4 d2_55 (z := (1 : Int32)) rfl ?_
            exact OG.retN X4 (t := .boolean) d2_56 (by simp) (by decide) (by decide) ⟨by rw [hres2, own_gT (own_pge hp2 hn c52)]; rfl, rfl⟩
        · intro c41
          refine OG.iconst X4 d2_44 (z := (0 : Int32)) rfl ?_
          exact OG.retN X4 (t := .boolean) d2_45 (by simp) (by decide) (by decide) ⟨by rw [hres1, own_gF hlt1 sp_k6 (own_neg c41)]; rfl, rfl⟩
      · intro c28
        refine OG.iconst X1 d2_31 (z := (1 : Int32)) rfl ?_
        exact OG.retN X1 (t := .boolean) d2_32 (by simp) (by decide) (by decide) ⟨by rw [hres1, own_gT (own_pge hp1 hn c28)]; rfl, rfl⟩
    · intro c17
      refine OG.iconst X1 d2_20 (z := (0 : Int32)) rfl ?_
      exact OG.retN X1 (t := .boolean) d2_21 (by simp) (by decide) (by decide) ⟨by rw [(rfl : good f M 4 0 = good f M 4 0), own_gF hlt0 sp_k3 (own_neg c17)]; rfl, rfl⟩
  · intro c4
    refine OG.iconst X d2_7 (z := (1 : Int32)) rfl ?_
    exact OG.retN X (t := .boolean) d2_8 (by simp) (by decide) (by decide) ⟨by rw [(rfl : good f M 4 0 = good f M 4 0), own_gT (own_pge hp0 hn c4)]; rfl, rfl⟩
theorem pn_4 : plainName "com/example/skipstone/skipstone/index/StringEncoding" = true := by first | (simp [plainName, overriddenIn]; done) | decide +kernel
theorem ef_4 (m : MethodId) (a : Addr) (n : Int32) : entryFrame m #[(.ref a), (.int n)] 9 = mkF m 0 #[.val (.ref a), .val (.int n), .unset, .unset, .unset, .unset, .unset, .unset, .unset] [] := by first | (simp [entryFrame, mkF, argsToLocals, Value.category]; done) | rfl
def Q4 (Z : State) (a : Addr) (n : Int32) (f : Nat → Int32) (M : Nat) (h0 : Heap) : Option Value → Heap → Prop := fun v h => v = some (.int (if good f M 5 0 = true then 1 else 0)) ∧ h = h0
theorem d4_0 : decode prog_144_method_2_code 0 = .ok (.iconst 0, 1) := by decide +kernel
theorem d4_1 : decode prog_144_method_2_code 1 = .ok (.istore_n 2, 1) := by decide +kernel
theorem d4_2 : decode prog_144_method_2_code 2 = .ok (.iload_n 2, 1) := by decide +kernel
theorem d4_3 : decode prog_144_method_2_code 3 = .ok (.iload_n 1, 1) := by decide +kernel
theorem d4_4 : decode prog_144_method_2_code 4 = .ok (.if_icmp .ge 229, 3) := by decide +kernel
theorem d4_233 : decode prog_144_method_2_code 233 = .ok (.iconst 1, 1) := by decide +kernel
theorem d4_234 : decode prog_144_method_2_code 234 = .ok (.ireturn, 1) := by decide +kernel
theorem d4_7 : decode prog_144_method_2_code 7 = .ok (.aload_n 0, 1) := by decide +kernel
theorem d4_8 : decode prog_144_method_2_code 8 = .ok (.iload_n 2, 1) := by decide +kernel
theorem d4_9 : decode prog_144_method_2_code 9 = .ok (.iinc 2 1, 3) := by decide +kernel
theorem d4_12 : decode prog_144_method_2_code 12 = .ok (.baload, 1) := by decide +kernel
theorem d4_13 : decode prog_144_method_2_code 13 = .ok (.sipush 255, 3) := by decide +kernel
theorem d4_16 : decode prog_144_method_2_code 16 = .ok (.iand, 1) := by decide +kernel
theorem d4_17 : decode prog_144_method_2_code 17 = .ok (.istore_n 3, 1) := by decide +kernel
theorem d4_18 : decode prog_144_method_2_code 18 = .ok (.iload_n 3, 1) := by decide +kernel
theorem d4_19 : decode prog_144_method_2_code 19 = .ok (.sipush 128, 3) := by decide +kernel
theorem d4_22 : decode prog_144_method_2_code 22 = .ok (.if_icmp .ge 6, 3) := by decide +kernel
theorem d4_28 : decode prog_144_method_2_code 28 = .ok (.sipush 128, 3) := by decide +kernel
theorem d4_31 : decode prog_144_method_2_code 31 = .ok (.istore 5, 2) := by decide +kernel
theorem d4_33 : decode prog_144_method_2_code 33 = .ok (.sipush 191, 3) := by decide +kernel
theorem d4_36 : decode prog_144_method_2_code 36 = .ok (.istore 6, 2) := by decide +kernel
theorem d4_38 : decode prog_144_method_2_code 38 = .ok (.iload_n 3, 1) := by decide +kernel
theorem d4_39 : decode prog_144_method_2_code 39 = .ok (.sipush 194, 3) := by decide +kernel
theorem d4_42 : decode prog_144_method_2_code 42 = .ok (.if_icmp .ge 5, 3) := by decide +kernel
theorem d4_47 : decode prog_144_method_2_code 47 = .ok (.iload_n 3, 1) := by decide +kernel
theorem d4_48 : decode prog_144_method_2_code 48 = .ok (.sipush 224, 3) := by decide +kernel
theorem d4_51 : decode prog_144_method_2_code 51 = .ok (.if_icmp .ge 9, 3) := by decide +kernel
theorem d4_60 : decode prog_144_method_2_code 60 = .ok (.iload_n 3, 1) := by decide +kernel
theorem d4_61 : decode prog_144_method_2_code 61 = .ok (.sipush 240, 3) := by decide +kernel
theorem d4_64 : decode prog_144_method_2_code 64 = .ok (.if_icmp .ge 43, 3) := by decide +kernel
theorem d4_107 : decode prog_144_method_2_code 107 = .ok (.iload_n 3, 1) := by decide +kernel
theorem d4_108 : decode prog_144_method_2_code 108 = .ok (.sipush 245, 3) := by decide +kernel
theorem d4_111 : decode prog_144_method_2_code 111 = .ok (.if_icmp .ge 43, 3) := by decide +kernel
theorem d4_154 : decode prog_144_method_2_code 154 = .ok (.iconst 0, 1) := by decide +kernel
theorem d4_155 : decode prog_144_method_2_code 155 = .ok (.ireturn, 1) := by decide +kernel
theorem d4_114 : decode prog_144_method_2_code 114 = .ok (.iconst 3, 1) := by decide +kernel
theorem d4_115 : decode prog_144_method_2_code 115 = .ok (.istore 4, 2) := by decide +kernel
theorem d4_117 : decode prog_144_method_2_code 117 = .ok (.iload_n 3, 1) := by decide +kernel
theorem d4_118 : decode prog_144_method_2_code 118 = .ok (.sipush 240, 3) := by decide +kernel
theorem d4_121 : decode prog_144_method_2_code 121 = .ok (.if_icmp .ne 9, 3) := by decide +kernel
theorem d4_130 : decode prog_144_method_2_code 130 = .ok (.iload 5, 2) := by decide +kernel
theorem d4_132 : decode prog_144_method_2_code 132 = .ok (.istore 5, 2) := by decide +kernel
theorem d4_134 : decode prog_144_method_2_code 134 = .ok (.iload_n 3, 1) := by decide +kernel
theorem d4_135 : decode prog_144_method_2_code 135 = .ok (.sipush 244, 3) := by decide +kernel
theorem d4_138 : decode prog_144_method_2_code 138 = .ok (.if_icmp .ne 9, 3) := by decide +kernel
theorem d4_147 : decode prog_144_method_2_code 147 = .ok (.iload 6, 2) := by decide +kernel
theorem d4_149 : decode prog_144_method_2_code 149 = .ok (.istore 6, 2) := by decide +kernel
theorem d4_151 : decode prog_144_method_2_code 151 = .ok (.goto 5, 3) := by decide +kernel
theorem d4_156 : decode prog_144_method_2_code 156 = .ok (.iload_n 1, 1) := by decide +kernel
theorem d4_157 : decode prog_144_method_2_code 157 = .ok (.iload_n 2, 1) := by decide +kernel
theorem d4_158 : decode prog_144_method_2_code 158 = .ok (.isub, 1) := by decide +kernel
theorem d4_159 : decode prog_144_method_2_code 159 = .ok (.iload 4, 2) := by decide +kernel
theorem d4_161 : decode prog_144_method_2_code 161 = .ok (.if_icmp .ge 5, 3) := by decide +kernel
theorem d4_166 : decode prog_144_method_2_code 166 = .ok (.aload_n 0, 1) := by decide +kernel
theorem d4_167 : decode prog_144_method_2_code 167 = .ok (.iload_n 2, 1) := by decide +kernel
theorem d4_168 : decode prog_144_method_2_code 168 = .ok (.baload, 1) := by decide +kernel
theorem d4_169 : decode prog_144_method_2_code 169 = .ok (.sipush 255, 3) := by decide +kernel
theorem d4_172 : decode prog_144_method_2_code 172 = .ok (.iand, 1) := by decide +kernel
theorem d4_173 : decode prog_144_method_2_code 173 = .ok (.istore 7, 2) := by decide +kernel
theorem d4_175 : decode prog_144_method_2_code 175 = .ok (.iload 7, 2) := by decide +kernel
theorem d4_177 : decode prog_144_method_2_code 177 = .ok (.iload 5, 2) := by decide +kernel
theorem d4_179 : decode prog_144_method_2_code 179 = .ok (.if_icmp .lt 10, 3) := by decide +kernel
theorem d4_189 : decode prog_144_method_2_code 189 = .ok (.iconst 0, 1) := by decide +kernel
theorem d4_190 : decode prog_144_method_2_code 190 = .ok (.ireturn, 1) := by decide +kernel
theorem d4_182 : decode prog_144_method_2_code 182 = .ok (.iload 7, 2) := by decide +kernel
theorem d4_184 : decode prog_144_method_2_code 184 = .ok (.iload 6, 2) := by decide +kernel
theorem d4_186 : decode prog_144_method_2_code 186 = .ok (.if_icmp .le 5, 3) := by decide +kernel
theorem d4_191 : decode prog_144_method_2_code 191 = .ok (.iconst 1, 1) := by decide +kernel
theorem d4_192 : decode prog_144_method_2_code 192 = .ok (.istore 8, 2) := by decide +kernel
theorem d4_194 : decode prog_144_method_2_code 194 = .ok (.iload 8, 2) := by decide +kernel
theorem d4_196 : decode prog_144_method_2_code 196 = .ok (.iload 4, 2) := by decide +kernel
theorem d4_198 : decode prog_144_method_2_code 198 = .ok (.if_icmp .ge 27, 3) := by decide +kernel
theorem d4_201 : decode prog_144_method_2_code 201 = .ok (.aload_n 0, 1) := by decide +kernel
theorem d4_202 : decode prog_144_method_2_code 202 = .ok (.iload_n 2, 1) := by decide +kernel
theorem d4_203 : decode prog_144_method_2_code 203 = .ok (.iload 8, 2) := by decide +kernel
theorem d4_205 : decode prog_144_method_2_code 205 = .ok (.iadd, 1) := by decide +kernel
theorem d4_206 : decode prog_144_method_2_code 206 = .ok (.baload, 1) := by decide +kernel
theorem d4_207 : decode prog_144_method_2_code 207 = .ok (.sipush 192, 3) := by decide +kernel
theorem d4_210 : decode prog_144_method_2_code 210 = .ok (.iand, 1) := by decide +kernel
theorem d4_211 : decode prog_144_method_2_code 211 = .ok (.sipush 128, 3) := by decide +kernel
theorem d4_214 : decode prog_144_method_2_code 214 = .ok (.if_icmp .eq 5, 3) := by decide +kernel
theorem d4_219 : decode prog_144_method_2_code 219 = .ok (.iinc 8 1, 3) := by decide +kernel
theorem d4_222 : decode prog_144_method_2_code 222 = .ok (.goto (-28), 3) := by decide +kernel
theorem d4_225 : decode prog_144_method_2_code 225 = .ok (.iload_n 2, 1) := by decide +kernel
theorem d4_226 : decode prog_144_method_2_code 226 = .ok (.iload 4, 2) := by decide +kernel
theorem d4_228 : decode prog_144_method_2_code 228 = .ok (.iadd, 1) := by decide +kernel
theorem d4_229 : decode prog_144_method_2_code 229 = .ok (.istore_n 2, 1) := by decide +kernel
theorem d4_230 : decode prog_144_method_2_code 230 = .ok (.goto (-228), 3) := by decide +kernel
theorem d4_217 : decode prog_144_method_2_code 217 = .ok (.iconst 0, 1) := by decide +kernel
theorem d4_218 : decode prog_144_method_2_code 218 = .ok (.ireturn, 1) := by decide +kernel
theorem d4_164 : decode prog_144_method_2_code 164 = .ok (.iconst 0, 1) := by decide +kernel
theorem d4_165 : decode prog_144_method_2_code 165 = .ok (.ireturn, 1) := by decide +kernel
theorem d4_141 : decode prog_144_method_2_code 141 = .ok (.sipush 143, 3) := by decide +kernel
theorem d4_144 : decode prog_144_method_2_code 144 = .ok (.goto 5, 3) := by decide +kernel
theorem d4_124 : decode prog_144_method_2_code 124 = .ok (.sipush 144, 3) := by decide +kernel
theorem d4_127 : decode prog_144_method_2_code 127 = .ok (.goto 5, 3) := by decide +kernel
theorem d4_67 : decode prog_144_method_2_code 67 = .ok (.iconst 2, 1) := by decide +kernel
theorem d4_68 : decode prog_144_method_2_code 68 = .ok (.istore 4, 2) := by decide +kernel
theorem d4_70 : decode prog_144_method_2_code 70 = .ok (.iload_n 3, 1) := by decide +kernel
theorem d4_71 : decode prog_144_method_2_code 71 = .ok (.sipush 224, 3) := by decide +kernel
theorem d4_74 : decode prog_144_method_2_code 74 = .ok (.if_icmp .ne 9, 3) := by decide +kernel
theorem d4_83 : decode prog_144_method_2_code 83 = .ok (.iload 5, 2) := by decide +kernel
theorem d4_85 : decode prog_144_method_2_code 85 = .ok (.istore 5, 2) := by decide +kernel
theorem d4_87 : decode prog_144_method_2_code 87 = .ok (.iload_n 3, 1) := by decide +kernel
theorem d4_88 : decode prog_144_method_2_code 88 = .ok (.sipush 237, 3) := by decide +kernel
theorem d4_91 : decode prog_144_method_2_code 91 = .ok (.if_icmp .ne 9, 3) := by decide +kernel
theorem d4_100 : decode prog_144_method_2_code 100 = .ok (.iload 6, 2) := by decide +kernel
theorem d4_102 : decode prog_144_method_2_code 102 = .ok (.istore 6, 2) := by decide +kernel
theorem d4_104 : decode prog_144_method_2_code 104 = .ok (.goto 52, 3) := by decide +kernel
theorem d4_94 : decode prog_144_method_2_code 94 = .ok (.sipush 159, 3) := by decide +kernel
theorem d4_97 : decode prog_144_method_2_code 97 = .ok (.goto 5, 3) := by decide +kernel
theorem d4_77 : decode prog_144_method_2_code 77 = .ok (.sipush 160, 3) := by decide +kernel
theorem d4_80 : decode prog_144_method_2_code 80 = .ok (.goto 5, 3) := by decide +kernel
theorem d4_54 : decode prog_144_method_2_code 54 = .ok (.iconst 1, 1) := by decide +kernel
theorem d4_55 : decode prog_144_method_2_code 55 = .ok (.istore 4, 2) := by decide +kernel
theorem d4_57 : decode prog_144_method_2_code 57 = .ok (.goto 99, 3) := by decide +kernel
theorem d4_45 : decode prog_144_method_2_code 45 = .ok (.iconst 0, 1) := by decide +kernel
theorem d4_46 : decode prog_144_method_2_code 46 = .ok (.ireturn, 1) := by decide +kernel
theorem d4_25 : decode prog_144_method_2_code 25 = .ok (.goto (-23), 3) := by decide +kernel
abbrev room4 : Room := { frames := 0, cells := 0, slots := 0, locals := 0 }
set_option maxRecDepth 65536 in
set_option maxHeartbeats 40000000 in
theorem rm4 (l : Launch) (Z : State) (a0 : Array Value) (hw : ∀ d ∈ tables_1, d.before a0 Z = true) (ws : List Jvm.Cond) (a : Addr) (n : Int32) (f : Nat → Int32) (M : Nat) (h0 : Heap) (n0 : Nat) (A_a : Ia Z h0 a .byte 4 f) (hn : n.toInt = M) (h4 : M ≤ 4) :
    OM l (⟨"com/example/skipstone/skipstone/index/StringEncoding", "wellFormed", "([BI)Z"⟩ : MethodName) prog_144_method_2_code 9 (some .boolean) room4 ws Z #[(.ref a), (.int n)] h0 n0 (Q4 Z a n f M h0) := by
  refine OM.of (plainFor_of_name pn_4) (fun m => ef_4 m a n) ?_
  intro p e s m below meth c T X
  refine OG.iconst X d4_0 (z := (0 : Int32)) rfl ?_
  refine OG.istoreN X d4_1 (l' := #[.val (.ref a), .val (.int n), .val (.int (0 : Int32)), .unset, .unset, .unset, .unset, .unset, .unset]) rfl ?_
  have loop1 : ∀ (k : Nat) (Tloop1 : State) (i : Int32) (sl3 : Slot) (sl4 : Slot) (sl5 : Slot) (sl6 : Slot) (sl7 : Slot) (sl8 : Slot), OS prog_144_method_2_code 9 "com/example/skipstone/skipstone/index/StringEncoding" "wellFormed" (some .boolean) Z n0 p l e room4 s m #[(.ref a), (.int n)] below meth c Tloop1 h0 0 0 → ((M : Int) - i.toInt).toNat < k → (sl3 = .unset ∨ ∃ w : Value, sl3 = .val w ∧ w.category = 1) → (sl4 = .unset ∨ ∃ w : Value, sl4 = .val w ∧ w.category = 1) → (sl5 = .unset ∨ ∃ w : Value, sl5 = .val w ∧ w.category = 1) → (sl6 = .unset ∨ ∃ w : Value, sl6 = .val w ∧ w.category = 1) → (sl7 = .unset ∨ ∃ w : Value, sl7 = .val w ∧ w.category = 1) → (sl8 = .unset ∨ ∃ w : Value, sl8 = .val w ∧ w.category = 1) → 0 ≤ i.toInt ∧ i.toInt ≤ M → good f M k i.toInt.toNat = good f M 5 0 → OG p e below s n0 room4.cells room4.slots (Q4 Z a n f M h0) (Tloop1.setTop (mkF m 2 #[.val (.ref a), .val (.int n), .val (.int i), sl3, sl4, sl5, sl6, sl7, sl8] [])) := by
    intro k
    induction k with
    | zero => intro Tloop1 i sl3 sl4 sl5 sl6 sl7 sl8 Xloop1 hk; exact absurd hk (Nat.not_lt_zero _)
    | succ k ih =>
      intro Tloop1 i sl3 sl4 sl5 sl6 sl7 sl8 Xloop1 hk hsl3 hsl4 hsl5 hsl6 hsl7 hsl8 hi hv
      refine OG.iloadN Xloop1 d4_2 rfl ?_
      obtain ⟨P, hp⟩ : ∃ P : Nat, i.toInt = P := ⟨i.toInt.toNat, by omega⟩; rw [own_nat hp] at hv
      refine OG.iloadN Xloop1 d4_3 rfl ?_
      refine OG.icmp_ge Xloop1 d4_4 (pc' := 233) (by decide) ?_ ?_
      · intro c4
        refine OG.iconst Xloop1 d4_233 (z := (1 : Int32)) rfl ?_
        exact OG.retN Xloop1 (t := .boolean) d4_234 (by simp) (by decide) (by decide) ⟨by rw [← hv, own_gT (by have z4 := (not_congr Int32.lt_iff_toInt_lt).mp c4; omega)]; rfl, rfl⟩
      · intro c4
        have hltM : P < M := by have z4 := Int32.lt_iff_toInt_lt.mp c4; omega
        refine OG.aloadN Xloop1 d4_7 rfl rfl ?_
        refine OG.iloadN Xloop1 d4_8 rfl ?_
        refine OG.iinc Xloop1 d4_9 rfl (z := (1 : Int32)) rfl (l' := #[.val (.ref a), .val (.int n), .val (.int (i + (1 : Int32))), sl3, sl4, sl5, sl6, sl7, sl8]) rfl ?_
        have hi1 : (i + 1).toInt = (P + 1 : Nat) := own_add (K := 1) hp rfl (by omega) (by decide); have hi2 : (i + 1 + 1).toInt = (P + 2 : Nat) := own_add (K := 1) hi1 rfl (by omega) (by decide); have hi3 : (i + 1 + (1 + 1)).toInt = (P + 3 : Nat) := own_add (K := 2) hi1 rfl (by omega) (by decide)
        refine OG.baload Xloop1 A_a (by have z4 := Int32.lt_iff_toInt_lt.mp c4; omega) d4_12 ?_
        refine OG.sipush Xloop1 d4_13 (z := (255 : Int32)) rfl ?_
        refine OG.iand Xloop1 d4_16 ?_
        refine OG.istoreNV Xloop1 d4_17 (l' := fun z => #[.val (.ref a), .val (.int n), .val (.int (i + (1 : Int32))), .val (.int z), sl4, sl5, sl6, sl7, sl8]) (fun _ => (XS.store1 (o := sl3) rfl hsl3 rfl)) ?_
        intro a' ha'
        have hav := own_by hp ha'
        refine OG.iloadN Xloop1 d4_18 rfl ?_
        refine OG.sipush Xloop1 d4_19 (z := (128 : Int32)) rfl ?_
        refine OG.icmp_ge Xloop1 d4_22 (pc' := 28) (by decide) ?_ ?_
        · intro c22
          refine OG.sipush Xloop1 d4_28 (z := (128 : Int32)) rfl ?_
          refine OG.istore Xloop1 d4_31 (l' := #[.val (.ref a), .val (.int n), .val (.int (i + (1 : Int32))), .val (.int a'), sl4, .val (.int (128 : Int32)), sl6, sl7, sl8]) (XS.store1 (o := sl5) rfl hsl5 rfl) ?_
          refine OG.sipush Xloop1 d4_33 (z := (191 : Int32)) rfl ?_
          refine OG.istore Xloop1 d4_36 (l' := #[.val (.ref a), .val (.int n), .val (.int (i + (1 : Int32))), .val (.int a'), sl4, .val (.int (128 : Int32)), .val (.int (191 : Int32)), sl7, sl8]) (XS.store1 (o := sl6) rfl hsl6 rfl) ?_
          refine OG.iloadN Xloop1 d4_38 rfl ?_
          refine OG.sipush Xloop1 d4_39 (z := (194 : Int32)) rfl ?_
          refine OG.icmp_ge Xloop1 d4_42 (pc' := 47) (by decide) ?_ ?_
          · intro c42
            refine OG.iloadN Xloop1 d4_47 rfl ?_
            refine OG.sipush Xloop1 d4_48 (z := (224 : Int32)) rfl ?_
            refine OG.icmp_ge Xloop1 d4_51 (pc' := 60) (by decide) ?_ ?_
            · intro c51
              refine OG.iloadN Xloop1 d4_60 rfl ?_
              refine OG.sipush Xloop1 d4_61 (z := (240 : Int32)) rfl ?_
              refine OG.icmp_ge Xloop1 d4_64 (pc' := 107) (by decide) ?_ ?_
              · intro c64
                refine OG.iloadN Xloop1 d4_107 rfl ?_
                refine OG.sipush Xloop1 d4_108 (z := (245 : Int32)) rfl ?_
                refine OG.icmp_ge Xloop1 d4_111 (pc' := 154) (by decide) ?_ ?_
                · intro c111
                  refine OG.iconst Xloop1 d4_154 (z := (0 : Int32)) rfl ?_
                  exact OG.retN Xloop1 (t := .boolean) d4_155 (by simp) (by decide) (by decide) ⟨by rw [← hv, own_gF hltM (show SPr (bb f P) (bb f (P + 1)) (bb f (P + 2)) (bb f (P + 3)) ((M : Int) - P) (-1) from by have z0 := (Int32.lt_iff_toInt_lt).mp c4; have z1 := (not_congr (own_ltL (K := 128) rfl)).mp c22; have z2 := (not_congr (own_ltL (K := 194) rfl)).mp c42; have z3 := (not_congr (own_ltL (K := 224) rfl)).mp c51; have z4 := (not_congr (own_ltL (K := 240) rfl)).mp c64; have z5 := (not_congr (own_ltL (K := 245) rfl)).mp c111; have hr0 := own_bR f P; have hr1 := own_bR f (P + 1); have hr2 := own_bR f (P + 2); have hr3 := own_bR f (P + 3); unfold SPr; omega) (by decide)]; rfl, rfl⟩
                · intro c111
                  refine OG.iconst Xloop1 d4_114 (z := (3 : Int32)) rfl ?_
                  refine OG.istore Xloop1 d4_115 (l' := #[.val (.ref a), .val (.int n), .val (.int (i + (1 : Int32))), .val (.int a'), .val (.int (3 : Int32)), .val (.int (128 : Int32)), .val (.int (191 : Int32)), sl7, sl8]) (XS.store1 (o := sl4) rfl hsl4 rfl) ?_
                  refine OG.iloadN Xloop1 d4_117 rfl ?_
                  refine OG.sipush Xloop1 d4_118 (z := (240 : Int32)) rfl ?_
                  refine OG.icmp_ne Xloop1 d4_121 (pc' := 130) (by decide) ?_ ?_
                  · intro c121
                    refine OG.iload Xloop1 d4_130 rfl ?_
                    refine OG.istore Xloop1 d4_132 (l' := #[.val (.ref a), .val (.int n), .val (.int (i + (1 : Int32))), .val (.int a'), .val (.int (3 : Int32)), .val (.int (128 : Int32)), .val (.int (191 : Int32)), sl7, sl8]) rfl ?_
                    refine OG.iloadN Xloop1 d4_134 rfl ?_
                    refine OG.sipush Xloop1 d4_135 (z := (244 : Int32)) rfl ?_
                    refine OG.icmp_ne Xloop1 d4_138 (pc' := 147) (by decide) ?_ ?_
                    · intro c138
                      refine OG.iload Xloop1 d4_147 rfl ?_
                      refine OG.istore Xloop1 d4_149 (l' := #[.val (.ref a), .val (.int n), .val (.int (i + (1 : Int32))), .val (.int a'), .val (.int (3 : Int32)), .val (.int (128 : Int32)), .val (.int (191 : Int32)), sl7, sl8]) rfl ?_
                      refine OG.goto Xloop1 d4_151 (pc' := 156) (by decide) ?_
                      refine OG.iloadN Xloop1 d4_156 rfl ?_
                      refine OG.iloadN Xloop1 d4_157 rfl ?_
                      refine OG.isub Xloop1 d4_158 ?_
                      refine OG.iload Xloop1 d4_159 rfl ?_
                      refine OG.icmp_ge Xloop1 d4_161 (pc' := 166) (by decide) ?_ ?_
                      · intro c161
                        refine OG.aloadN Xloop1 d4_166 rfl rfl ?_
                        refine OG.iloadN Xloop1 d4_167 rfl ?_
                        refine OG.baload Xloop1 A_a (by have z := (not_congr (own_sub hn hi1 h4 (by omega) (K := 3) rfl)).mp c161; rw [hi1]; omega) d4_168 ?_
                        refine OG.sipush Xloop1 d4_169 (z := (255 : Int32)) rfl ?_
                        refine OG.iand Xloop1 d4_172 ?_
                        refine OG.istoreV Xloop1 d4_173 (l' := fun z => #[.val (.ref a), .val (.int n), .val (.int (i + (1 : Int32))), .val (.int a'), .val (.int (3 : Int32)), .val (.int (128 : Int32)), .val (.int (191 : Int32)), .val (.int z), sl8]) (fun _ => (XS.store1 (o := sl7) rfl hsl7 rfl)) ?_
                        intro b1 hb1
                        have hb1v := own_by hi1 hb1
                        refine OG.iload Xloop1 d4_175 rfl ?_
                        refine OG.iload Xloop1 d4_177 rfl ?_
                        refine OG.icmp_lt Xloop1 d4_179 (pc' := 189) (by decide) ?_ ?_
                        · intro c179
                          refine OG.iconst Xloop1 d4_189 (z := (0 : Int32)) rfl ?_
                          exact OG.retN Xloop1 (t := .boolean) d4_190 (by simp) (by decide) (by decide) ⟨by rw [← hv, own_gF hltM (show SPr (bb f P) (bb f (P + 1)) (bb f (P + 2)) (bb f (P + 3)) ((M : Int) - P) (-1) from by have z0 := (Int32.lt_iff_toInt_lt).mp c4; have z1 := (not_congr (own_ltL (K := 128) rfl)).mp c22; have z2 := (not_congr (own_ltL (K := 194) rfl)).mp c42; have z3 := (not_congr (own_ltL (K := 224) rfl)).mp c51; have z4 := (not_congr (own_ltL (K := 240) rfl)).mp c64; have z5 := (own_ltL (K := 245) rfl).mp c111; have z6 := (not_congr (own_eqL (K := 240) rfl)).mp c121; have z7 := (not_congr (own_eqL (K := 244) rfl)).mp c138; have z8 := (not_congr (own_sub hn hi1 h4 (by omega) (K := 3) rfl)).mp c161; have z9 := (own_ltL (K := 128) rfl).mp c179; have hr0 := own_bR f P; have hr1 := own_bR f (P + 1); have hr2 := own_bR f (P + 2); have hr3 := own_bR f (P + 3); unfold SPr; omega) (by decide)]; rfl, rfl⟩
                        · intro c179
                          refine OG.iload Xloop1 d4_182 rfl ?_
                          refine OG.iload Xloop1 d4_184 rfl ?_
                          refine OG.icmp_le Xloop1 d4_186 (pc' := 191) (by decide) ?_ ?_
                          · intro c186
                            refine OG.iconst Xloop1 d4_191 (z := (1 : Int32)) rfl ?_
                            refine OG.istore Xloop1 d4_192 (l' := #[.val (.ref a), .val (.int n), .val (.int (i + (1 : Int32))), .val (.int a'), .val (.int (3 : Int32)), .val (.int (128 : Int32)), .val (.int (191 : Int32)), .val (.int b1), .val (.int (1 : Int32))]) (XS.store1 (o := sl8) rfl hsl8 rfl) ?_
                            refine OG.iload Xloop1 d4_194 rfl ?_
                            refine OG.iload Xloop1 d4_196 rfl ?_
                            refine OG.icmp_ge_f Xloop1 d4_198 (by decide) ?_
                            refine OG.aloadN Xloop1 d4_201 rfl rfl ?_
                            refine OG.iloadN Xloop1 d4_202 rfl ?_
                            refine OG.iload Xloop1 d4_203 rfl ?_
                            refine OG.iadd Xloop1 d4_205 ?_
                            refine OG.baload Xloop1 A_a (by have z := (not_congr (own_sub hn hi1 h4 (by omega) (K := 3) rfl)).mp c161; rw [hi2]; omega) d4_206 ?_
                            refine OG.sipush Xloop1 d4_207 (z := (192 : Int32)) rfl ?_
                            refine OG.iand Xloop1 d4_210 ?_
                            refine OG.sipush Xloop1 d4_211 (z := (128 : Int32)) rfl ?_
                            refine OG.icmp_eq Xloop1 d4_214 (pc' := 219) (by decide) ?_ ?_
                            · intro c214
                              refine OG.iinc Xloop1 d4_219 rfl (z := (1 : Int32)) rfl (l' := #[.val (.ref a), .val (.int n), .val (.int (i + (1 : Int32))), .val (.int a'), .val (.int (3 : Int32)), .val (.int (128 : Int32)), .val (.int (191 : Int32)), .val (.int b1), .val (.int ((1 : Int32) + (1 : Int32)))]) rfl ?_
                              refine OG.goto Xloop1 d4_222 (pc' := 194) (by decide) ?_
                              refine OG.iload Xloop1 d4_194 rfl ?_
                              refine OG.iload Xloop1 d4_196 rfl ?_
                              refine OG.icmp_ge_f Xloop1 d4_198 (by decide) ?_
                              refine OG.aloadN Xloop1 d4_201 rfl rfl ?_
                              refine OG.iloadN Xloop1 d4_202 rfl ?_
                              refine OG.iload Xloop1 d4_203 rfl ?_
                              refine OG.iadd Xloop1 d4_205 ?_
                              refine OG.baload Xloop1 A_a (by have z := (not_congr (own_sub hn hi1 h4 (by omega) (K := 3) rfl)).mp c161; rw [hi3]; omega) d4_206 ?_
                              refine OG.sipush Xloop1 d4_207 (z := (192 : Int32)) rfl ?_
                              refine OG.iand Xloop1 d4_210 ?_
                              refine OG.sipush Xloop1 d4_211 (z := (128 : Int32)) rfl ?_
                              refine OG.icmp_eq Xloop1 d4_214 (pc' := 219) (by decide) ?_ ?_
                              · intro c214_2
                                refine OG.iinc Xloop1 d4_219 rfl (z := (1 : Int32)) rfl (l' := #[.val (.ref a), .val (.int n), .val (.int (i + (1 : Int32))), .val (.int a'), .val (.int (3 : Int32)), .val (.int (128 : Int32)), .val (.int (191 : Int32)), .val (.int b1), .val (.int (((1 : Int32) + (1 : Int32)) + (1 : Int32)))]) rfl ?_
                                refine OG.goto Xloop1 d4_222 (pc' := 194) (by decide) ?_
                                refine OG.iload Xloop1 d4_194 rfl ?_
                                refine OG.iload Xloop1 d4_196 rfl ?_
                                refine OG.icmp_ge_t Xloop1 d4_198 (pc' := 225) (by decide) (by decide) ?_
                                refine OG.iloadN Xloop1 d4_225 rfl ?_
                                refine OG.iload Xloop1 d4_226 rfl ?_
                                refine OG.iadd Xloop1 d4_228 ?_
                                refine OG.istoreN Xloop1 d4_229 (l' := #[.val (.ref a), .val (.int n), .val (.int ((i + (1 : Int32)) + (3 : Int32))), .val (.int a'), .val (.int (3 : Int32)), .val (.int (128 : Int32)), .val (.int (191 : Int32)), .val (.int b1), .val (.int (((1 : Int32) + (1 : Int32)) + (1 : Int32)))]) rfl ?_
                                refine OG.goto Xloop1 d4_230 (pc' := 2) (by decide) ?_
                                exact ih Tloop1 ((i + (1 : Int32)) + (3 : Int32)) (.val (.int a')) (.val (.int (3 : Int32))) (.val (.int (128 : Int32))) (.val (.int (191 : Int32))) (.val (.int b1)) (.val (.int (((1 : Int32) + (1 : Int32)) + (1 : Int32)))) Xloop1 (by have e := (own_add (k := 3) (K := 3) hi1 rfl (by omega) (by decide)); have z4 := Int32.lt_iff_toInt_lt.mp c4; omega) (Or.inr ⟨_, rfl, rfl⟩) (Or.inr ⟨_, rfl, rfl⟩) (Or.inr ⟨_, rfl, rfl⟩) (Or.inr ⟨_, rfl, rfl⟩) (Or.inr ⟨_, rfl, rfl⟩) (Or.inr ⟨_, rfl, rfl⟩) (by have e := (own_add (k := 3) (K := 3) hi1 rfl (by omega) (by decide)); have z4 := Int32.lt_iff_toInt_lt.mp c4; have r := own_rng (show SPr (bb f P) (bb f (P + 1)) (bb f (P + 2)) (bb f (P + 3)) ((M : Int) - P) (4) from by have z0 := (Int32.lt_iff_toInt_lt).mp c4; have z1 := (not_congr (own_ltL (K := 128) rfl)).mp c22; have z2 := (not_congr (own_ltL (K := 194) rfl)).mp c42; have z3 := (not_congr (own_ltL (K := 224) rfl)).mp c51; have z4 := (not_congr (own_ltL (K := 240) rfl)).mp c64; have z5 := (own_ltL (K := 245) rfl).mp c111; have z6 := (not_congr (own_eqL (K := 240) rfl)).mp c121; have z7 := (not_congr (own_eqL (K := 244) rfl)).mp c138; have z8 := (not_congr (own_sub hn hi1 h4 (by omega) (K := 3) rfl)).mp c161; have z9 := (not_congr (own_ltL (K := 128) rfl)).mp c179; have z10 := (not_congr (own_Llt (K := 191) rfl)).mp c186; have z11 := (own_r192 hi2).mp c214; have z12 := (own_r192 hi3).mp c214_2; have hr0 := own_bR f P; have hr1 := own_bR f (P + 1); have hr2 := own_bR f (P + 2); have hr3 := own_bR f (P + 3); unfold SPr; omega) (by omega) (by decide); omega) (by rw [own_nat (own_add (k := 3) (K := 3) hi1 rfl (by omega) (by decide)), ← hv, own_gS hltM (show SPr (bb f P) (bb f (P + 1)) (bb f (P + 2)) (bb f (P + 3)) ((M : Int) - P) (4) from by have z0 := (Int32.lt_iff_toInt_lt).mp c4; have z1 := (not_congr (own_ltL (K := 128) rfl)).mp c22; have z2 := (not_congr (own_ltL (K := 194) rfl)).mp c42; have z3 := (not_congr (own_ltL (K := 224) rfl)).mp c51; have z4 := (not_congr (own_ltL (K := 240) rfl)).mp c64; have z5 := (own_ltL (K := 245) rfl).mp c111; have z6 := (not_congr (own_eqL (K := 240) rfl)).mp c121; have z7 := (not_congr (own_eqL (K := 244) rfl)).mp c138; have z8 := (not_congr (own_sub hn hi1 h4 (by omega) (K := 3) rfl)).mp c161; have z9 := (not_congr (own_ltL (K := 128) rfl)).mp c179; have z10 := (not_congr (own_Llt (K := 191) rfl)).mp c186; have z11 := (own_r192 hi2).mp c214; have z12 := (own_r192 hi3).mp c214_2; have hr0 := own_bR f P; have hr1 := own_bR f (P + 1); have hr2 := own_bR f (P + 2); have hr3 := own_bR f (P + 3); unfold SPr; omega) (by decide)]; rfl)
                              · intro c214_2
                                refine OG.iconst Xloop1 d4_217 (z := (0 : Int32)) rfl ?_
                                exact OG.retN Xloop1 (t := .boolean) d4_218 (by simp) (by decide) (by decide) ⟨by rw [← hv, own_gF hltM (show SPr (bb f P) (bb f (P + 1)) (bb f (P + 2)) (bb f (P + 3)) ((M : Int) - P) (-1) from by have z0 := (Int32.lt_iff_toInt_lt).mp c4; have z1 := (not_congr (own_ltL (K := 128) rfl)).mp c22; have z2 := (not_congr (own_ltL (K := 194) rfl)).mp c42; have z3 := (not_congr (own_ltL (K := 224) rfl)).mp c51; have z4 := (not_congr (own_ltL (K := 240) rfl)).mp c64; have z5 := (own_ltL (K := 245) rfl).mp c111; have z6 := (not_congr (own_eqL (K := 240) rfl)).mp c121; have z7 := (not_congr (own_eqL (K := 244) rfl)).mp c138; have z8 := (not_congr (own_sub hn hi1 h4 (by omega) (K := 3) rfl)).mp c161; have z9 := (not_congr (own_ltL (K := 128) rfl)).mp c179; have z10 := (not_congr (own_Llt (K := 191) rfl)).mp c186; have z11 := (own_r192 hi2).mp c214; have z12 := (not_congr (own_r192 hi3)).mp c214_2; have hr0 := own_bR f P; have hr1 := own_bR f (P + 1); have hr2 := own_bR f (P + 2); have hr3 := own_bR f (P + 3); unfold SPr; omega) (by decide)]; rfl, rfl⟩
                            · intro c214
                              refine OG.iconst Xloop1 d4_217 (z := (0 : Int32)) rfl ?_
                              exact OG.retN Xloop1 (t := .boolean) d4_218 (by simp) (by decide) (by decide) ⟨by rw [← hv, own_gF hltM (show SPr (bb f P) (bb f (P + 1)) (bb f (P + 2)) (bb f (P + 3)) ((M : Int) - P) (-1) from by have z0 := (Int32.lt_iff_toInt_lt).mp c4; have z1 := (not_congr (own_ltL (K := 128) rfl)).mp c22; have z2 := (not_congr (own_ltL (K := 194) rfl)).mp c42; have z3 := (not_congr (own_ltL (K := 224) rfl)).mp c51; have z4 := (not_congr (own_ltL (K := 240) rfl)).mp c64; have z5 := (own_ltL (K := 245) rfl).mp c111; have z6 := (not_congr (own_eqL (K := 240) rfl)).mp c121; have z7 := (not_congr (own_eqL (K := 244) rfl)).mp c138; have z8 := (not_congr (own_sub hn hi1 h4 (by omega) (K := 3) rfl)).mp c161; have z9 := (not_congr (own_ltL (K := 128) rfl)).mp c179; have z10 := (not_congr (own_Llt (K := 191) rfl)).mp c186; have z11 := (not_congr (own_r192 hi2)).mp c214; have hr0 := own_bR f P; have hr1 := own_bR f (P + 1); have hr2 := own_bR f (P + 2); have hr3 := own_bR f (P + 3); unfold SPr; omega) (by decide)]; rfl, rfl⟩
                          · intro c186
                            refine OG.iconst Xloop1 d4_189 (z := (0 : Int32)) rfl ?_
                            exact OG.retN Xloop1 (t := .boolean) d4_190 (by simp) (by decide) (by decide) ⟨by rw [← hv, own_gF hltM (show SPr (bb f P) (bb f (P + 1)) (bb f (P + 2)) (bb f (P + 3)) ((M : Int) - P) (-1) from by have z0 := (Int32.lt_iff_toInt_lt).mp c4; have z1 := (not_congr (own_ltL (K := 128) rfl)).mp c22; have z2 := (not_congr (own_ltL (K := 194) rfl)).mp c42; have z3 := (not_congr (own_ltL (K := 224) rfl)).mp c51; have z4 := (not_congr (own_ltL (K := 240) rfl)).mp c64; have z5 := (own_ltL (K := 245) rfl).mp c111; have z6 := (not_congr (own_eqL (K := 240) rfl)).mp c121; have z7 := (not_congr (own_eqL (K := 244) rfl)).mp c138; have z8 := (not_congr (own_sub hn hi1 h4 (by omega) (K := 3) rfl)).mp c161; have z9 := (not_congr (own_ltL (K := 128) rfl)).mp c179; have z10 := (own_Llt (K := 191) rfl).mp c186; have hr0 := own_bR f P; have hr1 := own_bR f (P + 1); have hr2 := own_bR f (P + 2); have hr3 := own_bR f (P + 3); unfold SPr; omega) (by decide)]; rfl, rfl⟩
                      · intro c161
                        refine OG.iconst Xloop1 d4_164 (z := (0 : Int32)) rfl ?_
                        exact OG.retN Xloop1 (t := .boolean) d4_165 (by simp) (by decide) (by decide) ⟨by rw [← hv, own_gF hltM (show SPr (bb f P) (bb f (P + 1)) (bb f (P + 2)) (bb f (P + 3)) ((M : Int) - P) (-1) from by have z0 := (Int32.lt_iff_toInt_lt).mp c4; have z1 := (not_congr (own_ltL (K := 128) rfl)).mp c22; have z2 := (not_congr (own_ltL (K := 194) rfl)).mp c42; have z3 := (not_congr (own_ltL (K := 224) rfl)).mp c51; have z4 := (not_congr (own_ltL (K := 240) rfl)).mp c64; have z5 := (own_ltL (K := 245) rfl).mp c111; have z6 := (not_congr (own_eqL (K := 240) rfl)).mp c121; have z7 := (not_congr (own_eqL (K := 244) rfl)).mp c138; have z8 := (own_sub hn hi1 h4 (by omega) (K := 3) rfl).mp c161; have hr0 := own_bR f P; have hr1 := own_bR f (P + 1); have hr2 := own_bR f (P + 2); have hr3 := own_bR f (P + 3); unfold SPr; omega) (by decide)]; rfl, rfl⟩
                    · intro c138
                      refine OG.sipush Xloop1 d4_141 (z := (143 : Int32)) rfl ?_
                      refine OG.goto Xloop1 d4_144 (pc' := 149) (by decide) ?_
                      refine OG.istore Xloop1 d4_149 (l' := #[.val (.ref a), .val (.int n), .val (.int (i + (1 : Int32))), .val (.int a'), .val (.int (3 : Int32)), .val (.int (128 : Int32)), .val (.int (143 : Int32)), sl7, sl8]) rfl ?_
                      refine OG.goto Xloop1 d4_151 (pc' := 156) (by decide) ?_
                      refine OG.iloadN Xloop1 d4_156 rfl ?_
                      refine OG.iloadN Xloop1 d4_157 rfl ?_
                      refine OG.isub Xloop1 d4_158 ?_
                      refine OG.iload Xloop1 d4_159 rfl ?_
                      refine OG.icmp_ge Xloop1 d4_161 (pc' := 166) (by decide) ?_ ?_
                      · intro c161
                        refine OG.aloadN Xloop1 d4_166 rfl rfl ?_
                        refine OG.iloadN Xloop1 d4_167 rfl ?_
                        refine OG.baload Xloop1 A_a (by have z := (not_congr (own_sub hn hi1 h4 (by omega) (K := 3) rfl)).mp c161; rw [hi1]; omega) d4_168 ?_
                        refine OG.sipush Xloop1 d4_169 (z := (255 : Int32)) rfl ?_
                        refine OG.iand Xloop1 d4_172 ?_
                        refine OG.istoreV Xloop1 d4_173 (l' := fun z => #[.val (.ref a), .val (.int n), .val (.int (i + (1 : Int32))), .val (.int a'), .val (.int (3 : Int32)), .val (.int (128 : Int32)), .val (.int (143 : Int32)), .val (.int z), sl8]) (fun _ => (XS.store1 (o := sl7) rfl hsl7 rfl)) ?_
                        intro b1 hb1
                        have hb1v := own_by hi1 hb1
                        refine OG.iload Xloop1 d4_175 rfl ?_
                        refine OG.iload Xloop1 d4_177 rfl ?_
                        refine OG.icmp_lt Xloop1 d4_179 (pc' := 189) (by decide) ?_ ?_
                        · intro c179
                          refine OG.iconst Xloop1 d4_189 (z := (0 : Int32)) rfl ?_
                          exact OG.retN Xloop1 (t := .boolean) d4_190 (by simp) (by decide) (by decide) ⟨by rw [← hv, own_gF hltM (show SPr (bb f P) (bb f (P + 1)) (bb f (P + 2)) (bb f (P + 3)) ((M : Int) - P) (-1) from by have z0 := (Int32.lt_iff_toInt_lt).mp c4; have z1 := (not_congr (own_ltL (K := 128) rfl)).mp c22; have z2 := (not_congr (own_ltL (K := 194) rfl)).mp c42; have z3 := (not_congr (own_ltL (K := 224) rfl)).mp c51; have z4 := (not_congr (own_ltL (K := 240) rfl)).mp c64; have z5 := (own_ltL (K := 245) rfl).mp c111; have z6 := (not_congr (own_eqL (K := 240) rfl)).mp c121; have z7 := (own_eqL (K := 244) rfl).mp c138; have z8 := (not_congr (own_sub hn hi1 h4 (by omega) (K := 3) rfl)).mp c161; have z9 := (own_ltL (K := 128) rfl).mp c179; have hr0 := own_bR f P; have hr1 := own_bR f (P + 1); have hr2 := own_bR f (P + 2); have hr3 := own_bR f (P + 3); unfold SPr; omega) (by decide)]; rfl, rfl⟩
                        · intro c179
                          refine OG.iload Xloop1 d4_182 rfl ?_
                          refine OG.iload Xloop1 d4_184 rfl ?_
                          refine OG.icmp_le Xloop1 d4_186 (pc' := 191) (by decide) ?_ ?_
                          · intro c186
                            refine OG.iconst Xloop1 d4_191 (z := (1 : Int32)) rfl ?_
                            refine OG.istore Xloop1 d4_192 (l' := #[.val (.ref a), .val (.int n), .val (.int (i + (1 : Int32))), .val (.int a'), .val (.int (3 : Int32)), .val (.int (128 : Int32)), .val (.int (143 : Int32)), .val (.int b1), .val (.int (1 : Int32))]) (XS.store1 (o := sl8) rfl hsl8 rfl) ?_
                            refine OG.iload Xloop1 d4_194 rfl ?_
                            refine OG.iload Xloop1 d4_196 rfl ?_
                            refine OG.icmp_ge_f Xloop1 d4_198 (by decide) ?_
                            refine OG.aloadN Xloop1 d4_201 rfl rfl ?_
                            refine OG.iloadN Xloop1 d4_202 rfl ?_
                            refine OG.iload Xloop1 d4_203 rfl ?_
                            refine OG.iadd Xloop1 d4_205 ?_
                            refine OG.baload Xloop1 A_a (by have z := (not_congr (own_sub hn hi1 h4 (by omega) (K := 3) rfl)).mp c161; rw [hi2]; omega) d4_206 ?_
                            refine OG.sipush Xloop1 d4_207 (z := (192 : Int32)) rfl ?_
                            refine OG.iand Xloop1 d4_210 ?_
                            refine OG.sipush Xloop1 d4_211 (z := (128 : Int32)) rfl ?_
                            refine OG.icmp_eq Xloop1 d4_214 (pc' := 219) (by decide) ?_ ?_
                            · intro c214
                              refine OG.iinc Xloop1 d4_219 rfl (z := (1 : Int32)) rfl (l' := #[.val (.ref a), .val (.int n), .val (.int (i + (1 : Int32))), .val (.int a'), .val (.int (3 : Int32)), .val (.int (128 : Int32)), .val (.int (143 : Int32)), .val (.int b1), .val (.int ((1 : Int32) + (1 : Int32)))]) rfl ?_
                              refine OG.goto Xloop1 d4_222 (pc' := 194) (by decide) ?_
                              refine OG.iload Xloop1 d4_194 rfl ?_
                              refine OG.iload Xloop1 d4_196 rfl ?_
                              refine OG.icmp_ge_f Xloop1 d4_198 (by decide) ?_
                              refine OG.aloadN Xloop1 d4_201 rfl rfl ?_
                              refine OG.iloadN Xloop1 d4_202 rfl ?_
                              refine OG.iload Xloop1 d4_203 rfl ?_
                              refine OG.iadd Xloop1 d4_205 ?_
                              refine OG.baload Xloop1 A_a (by have z := (not_congr (own_sub hn hi1 h4 (by omega) (K := 3) rfl)).mp c161; rw [hi3]; omega) d4_206 ?_
                              refine OG.sipush Xloop1 d4_207 (z := (192 : Int32)) rfl ?_
                              refine OG.iand Xloop1 d4_210 ?_
                              refine OG.sipush Xloop1 d4_211 (z := (128 : Int32)) rfl ?_
                              refine OG.icmp_eq Xloop1 d4_214 (pc' := 219) (by decide) ?_ ?_
                              · intro c214_3
                                refine OG.iinc Xloop1 d4_219 rfl (z := (1 : Int32)) rfl (l' := #[.val (.ref a), .val (.int n), .val (.int (i + (1 : Int32))), .val (.int a'), .val (.int (3 : Int32)), .val (.int (128 : Int32)), .val (.int (143 : Int32)), .val (.int b1), .val (.int (((1 : Int32) + (1 : Int32)) + (1 : Int32)))]) rfl ?_
                                refine OG.goto Xloop1 d4_222 (pc' := 194) (by decide) ?_
                                refine OG.iload Xloop1 d4_194 rfl ?_
                                refine OG.iload Xloop1 d4_196 rfl ?_
                                refine OG.icmp_ge_t Xloop1 d4_198 (pc' := 225) (by decide) (by decide) ?_
                                refine OG.iloadN Xloop1 d4_225 rfl ?_
                                refine OG.iload Xloop1 d4_226 rfl ?_
                                refine OG.iadd Xloop1 d4_228 ?_
                                refine OG.istoreN Xloop1 d4_229 (l' := #[.val (.ref a), .val (.int n), .val (.int ((i + (1 : Int32)) + (3 : Int32))), .val (.int a'), .val (.int (3 : Int32)), .val (.int (128 : Int32)), .val (.int (143 : Int32)), .val (.int b1), .val (.int (((1 : Int32) + (1 : Int32)) + (1 : Int32)))]) rfl ?_
                                refine OG.goto Xloop1 d4_230 (pc' := 2) (by decide) ?_
                                exact ih Tloop1 ((i + (1 : Int32)) + (3 : Int32)) (.val (.int a')) (.val (.int (3 : Int32))) (.val (.int (128 : Int32))) (.val (.int (143 : Int32))) (.val (.int b1)) (.val (.int (((1 : Int32) + (1 : Int32)) + (1 : Int32)))) Xloop1 (by have e := (own_add (k := 3) (K := 3) hi1 rfl (by omega) (by decide)); have z4 := Int32.lt_iff_toInt_lt.mp c4; omega) (Or.inr ⟨_, rfl, rfl⟩) (Or.inr ⟨_, rfl, rfl⟩) (Or.inr ⟨_, rfl, rfl⟩) (Or.inr ⟨_, rfl, rfl⟩) (Or.inr ⟨_, rfl, rfl⟩) (Or.inr ⟨_, rfl, rfl⟩) (by have e := (own_add (k := 3) (K := 3) hi1 rfl (by omega) (by decide)); have z4 := Int32.lt_iff_toInt_lt.mp c4; have r := own_rng (show SPr (bb f P) (bb f (P + 1)) (bb f (P + 2)) (bb f (P + 3)) ((M : Int) - P) (4) from by have z0 := (Int32.lt_iff_toInt_lt).mp c4; have z1 := (not_congr (own_ltL (K := 128) rfl)).mp c22; have z2 := (not_congr (own_ltL (K := 194) rfl)).mp c42; have z3 := (not_congr (own_ltL (K := 224) rfl)).mp c51; have z4 := (not_congr (own_ltL (K := 240) rfl)).mp c64; have z5 := (own_ltL (K := 245) rfl).mp c111; have z6 := (not_congr (own_eqL (K := 240) rfl)).mp c121; have z7 := (own_eqL (K := 244) rfl).mp c138; have z8 := (not_congr (own_sub hn hi1 h4 (by omega) (K := 3) rfl)).mp c161; have z9 := (not_congr (own_ltL (K := 128) rfl)).mp c179; have z10 := (not_congr (own_Llt (K := 143) rfl)).mp c186; have z11 := (own_r192 hi2).mp c214; have z12 := (own_r192 hi3).mp c214_3; have hr0 := own_bR f P; have hr1 := own_bR f (P + 1); have hr2 := own_bR f (P + 2); have hr3 := own_bR f (P + 3); unfold SPr; omega) (by omega) (by decide); omega) (by rw [own_nat (own_add (k := 3) (K := 3) hi1 rfl (by omega) (by decide)), ← hv, own_gS hltM (show SPr (bb f P) (bb f (P + 1)) (bb f (P + 2)) (bb f (P + 3)) ((M : Int) - P) (4) from by have z0 := (Int32.lt_iff_toInt_lt).mp c4; have z1 := (not_congr (own_ltL (K := 128) rfl)).mp c22; have z2 := (not_congr (own_ltL (K := 194) rfl)).mp c42; have z3 := (not_congr (own_ltL (K := 224) rfl)).mp c51; have z4 := (not_congr (own_ltL (K := 240) rfl)).mp c64; have z5 := (own_ltL (K := 245) rfl).mp c111; have z6 := (not_congr (own_eqL (K := 240) rfl)).mp c121; have z7 := (own_eqL (K := 244) rfl).mp c138; have z8 := (not_congr (own_sub hn hi1 h4 (by omega) (K := 3) rfl)).mp c161; have z9 := (not_congr (own_ltL (K := 128) rfl)).mp c179; have z10 := (not_congr (own_Llt (K := 143) rfl)).mp c186; have z11 := (own_r192 hi2).mp c214; have z12 := (own_r192 hi3).mp c214_3; have hr0 := own_bR f P; have hr1 := own_bR f (P + 1); have hr2 := own_bR f (P + 2); have hr3 := own_bR f (P + 3); unfold SPr; omega) (by decide)]; rfl)
                              · intro c214_3
                                refine OG.iconst Xloop1 d4_217 (z := (0 : Int32)) rfl ?_
                                exact OG.retN Xloop1 (t := .boolean) d4_218 (by simp) (by decide) (by decide) ⟨by rw [← hv, own_gF hltM (show SPr (bb f P) (bb f (P + 1)) (bb f (P + 2)) (bb f (P + 3)) ((M : Int) - P) (-1) from by have z0 := (Int32.lt_iff_toInt_lt).mp c4; have z1 := (not_congr (own_ltL (K := 128) rfl)).mp c22; have z2 := (not_congr (own_ltL (K := 194) rfl)).mp c42; have z3 := (not_congr (own_ltL (K := 224) rfl)).mp c51; have z4 := (not_congr (own_ltL (K := 240) rfl)).mp c64; have z5 := (own_ltL (K := 245) rfl).mp c111; have z6 := (not_congr (own_eqL (K := 240) rfl)).mp c121; have z7 := (own_eqL (K := 244) rfl).mp c138; have z8 := (not_congr (own_sub hn hi1 h4 (by omega) (K := 3) rfl)).mp c161; have z9 := (not_congr (own_ltL (K := 128) rfl)).mp c179; have z10 := (not_congr (own_Llt (K := 143) rfl)).mp c186; have z11 := (own_r192 hi2).mp c214; have z12 := (not_congr (own_r192 hi3)).mp c214_3; have hr0 := own_bR f P; have hr1 := own_bR f (P + 1); have hr2 := own_bR f (P + 2); have hr3 := own_bR f (P + 3); unfold SPr; omega) (by decide)]; rfl, rfl⟩
                            · intro c214
                              refine OG.iconst Xloop1 d4_217 (z := (0 : Int32)) rfl ?_
                              exact OG.retN Xloop1 (t := .boolean) d4_218 (by simp) (by decide) (by decide) ⟨by rw [← hv, own_gF hltM (show SPr (bb f P) (bb f (P + 1)) (bb f (P + 2)) (bb f (P + 3)) ((M : Int) - P) (-1) from by have z0 := (Int32.lt_iff_toInt_lt).mp c4; have z1 := (not_congr (own_ltL (K := 128) rfl)).mp c22; have z2 := (not_congr (own_ltL (K := 194) rfl)).mp c42; have z3 := (not_congr (own_ltL (K := 224) rfl)).mp c51; have z4 := (not_congr (own_ltL (K := 240) rfl)).mp c64; have z5 := (own_ltL (K := 245) rfl).mp c111; have z6 := (not_congr (own_eqL (K := 240) rfl)).mp c121; have z7 := (own_eqL (K := 244) rfl).mp c138; have z8 := (not_congr (own_sub hn hi1 h4 (by omega) (K := 3) rfl)).mp c161; have z9 := (not_congr (own_ltL (K := 128) rfl)).mp c179; have z10 := (not_congr (own_Llt (K := 143) rfl)).mp c186; have z11 := (not_congr (own_r192 hi2)).mp c214; have hr0 := own_bR f P; have hr1 := own_bR f (P + 1); have hr2 := own_bR f (P + 2); have hr3 := own_bR f (P + 3); unfold SPr; omega) (by decide)]; rfl, rfl⟩
                          · intro c186
                            refine OG.iconst Xloop1 d4_189 (z := (0 : Int32)) rfl ?_
                            exact OG.retN Xloop1 (t := .boolean) d4_190 (by simp) (by decide) (by decide) ⟨by rw [← hv, own_gF hltM (show SPr (bb f P) (bb f (P + 1)) (bb f (P + 2)) (bb f (P + 3)) ((M : Int) - P) (-1) from by have z0 := (Int32.lt_iff_toInt_lt).mp c4; have z1 := (not_congr (own_ltL (K := 128) rfl)).mp c22; have z2 := (not_congr (own_ltL (K := 194) rfl)).mp c42; have z3 := (not_congr (own_ltL (K := 224) rfl)).mp c51; have z4 := (not_congr (own_ltL (K := 240) rfl)).mp c64; have z5 := (own_ltL (K := 245) rfl).mp c111; have z6 := (not_congr (own_eqL (K := 240) rfl)).mp c121; have z7 := (own_eqL (K := 244) rfl).mp c138; have z8 := (not_congr (own_sub hn hi1 h4 (by omega) (K := 3) rfl)).mp c161; have z9 := (not_congr (own_ltL (K := 128) rfl)).mp c179; have z10 := (own_Llt (K := 143) rfl).mp c186; have hr0 := own_bR f P; have hr1 := own_bR f (P + 1); have hr2 := own_bR f (P + 2); have hr3 := own_bR f (P + 3); unfold SPr; omega) (by decide)]; rfl, rfl⟩
                      · intro c161
                        refine OG.iconst Xloop1 d4_164 (z := (0 : Int32)) rfl ?_
                        exact OG.retN Xloop1 (t := .boolean) d4_165 (by simp) (by decide) (by decide) ⟨by rw [← hv, own_gF hltM (show SPr (bb f P) (bb f (P + 1)) (bb f (P + 2)) (bb f (P + 3)) ((M : Int) - P) (-1) from by have z0 := (Int32.lt_iff_toInt_lt).mp c4; have z1 := (not_congr (own_ltL (K := 128) rfl)).mp c22; have z2 := (not_congr (own_ltL (K := 194) rfl)).mp c42; have z3 := (not_congr (own_ltL (K := 224) rfl)).mp c51; have z4 := (not_congr (own_ltL (K := 240) rfl)).mp c64; have z5 := (own_ltL (K := 245) rfl).mp c111; have z6 := (not_congr (own_eqL (K := 240) rfl)).mp c121; have z7 := (own_eqL (K := 244) rfl).mp c138; have z8 := (own_sub hn hi1 h4 (by omega) (K := 3) rfl).mp c161; have hr0 := own_bR f P; have hr1 := own_bR f (P + 1); have hr2 := own_bR f (P + 2); have hr3 := own_bR f (P + 3); unfold SPr; omega) (by decide)]; rfl, rfl⟩
                  · intro c121
                    refine OG.sipush Xloop1 d4_124 (z := (144 : Int32)) rfl ?_
                    refine OG.goto Xloop1 d4_127 (pc' := 132) (by decide) ?_
                    refine OG.istore Xloop1 d4_132 (l' := #[.val (.ref a), .val (.int n), .val (.int (i + (1 : Int32))), .val (.int a'), .val (.int (3 : Int32)), .val (.int (144 : Int32)), .val (.int (191 : Int32)), sl7, sl8]) rfl ?_
                    refine OG.iloadN Xloop1 d4_134 rfl ?_
                    refine OG.sipush Xloop1 d4_135 (z := (244 : Int32)) rfl ?_
                    refine OG.icmp_ne Xloop1 d4_138 (pc' := 147) (by decide) ?_ ?_
                    · intro c138
                      refine OG.iload Xloop1 d4_147 rfl ?_
                      refine OG.istore Xloop1 d4_149 (l' := #[.val (.ref a), .val (.int n), .val (.int (i + (1 : Int32))), .val (.int a'), .val (.int (3 : Int32)), .val (.int (144 : Int32)), .val (.int (191 : Int32)), sl7, sl8]) rfl ?_
                      refine OG.goto Xloop1 d4_151 (pc' := 156) (by decide) ?_
                      refine OG.iloadN Xloop1 d4_156 rfl ?_
                      refine OG.iloadN Xloop1 d4_157 rfl ?_
                      refine OG.isub Xloop1 d4_158 ?_
                      refine OG.iload Xloop1 d4_159 rfl ?_
                      refine OG.icmp_ge Xloop1 d4_161 (pc' := 166) (by decide) ?_ ?_
                      · intro c161
                        refine OG.aloadN Xloop1 d4_166 rfl rfl ?_
                        refine OG.iloadN Xloop1 d4_167 rfl ?_
                        refine OG.baload Xloop1 A_a (by have z := (not_congr (own_sub hn hi1 h4 (by omega) (K := 3) rfl)).mp c161; rw [hi1]; omega) d4_168 ?_
                        refine OG.sipush Xloop1 d4_169 (z := (255 : Int32)) rfl ?_
                        refine OG.iand Xloop1 d4_172 ?_
                        refine OG.istoreV Xloop1 d4_173 (l' := fun z => #[.val (.ref a), .val (.int n), .val (.int (i + (1 : Int32))), .val (.int a'), .val (.int (3 : Int32)), .val (.int (144 : Int32)), .val (.int (191 : Int32)), .val (.int z), sl8]) (fun _ => (XS.store1 (o := sl7) rfl hsl7 rfl)) ?_
                        intro b1 hb1
                        have hb1v := own_by hi1 hb1
                        refine OG.iload Xloop1 d4_175 rfl ?_
                        refine OG.iload Xloop1 d4_177 rfl ?_
                        refine OG.icmp_lt Xloop1 d4_179 (pc' := 189) (by decide) ?_ ?_
                        · intro c179
                          refine OG.iconst Xloop1 d4_189 (z := (0 : Int32)) rfl ?_
                          exact OG.retN Xloop1 (t := .boolean) d4_190 (by simp) (by decide) (by decide) ⟨by rw [← hv, own_gF hltM (show SPr (bb f P) (bb f (P + 1)) (bb f (P + 2)) (bb f (P + 3)) ((M : Int) - P) (-1) from by have z0 := (Int32.lt_iff_toInt_lt).mp c4; have z1 := (not_congr (own_ltL (K := 128) rfl)).mp c22; have z2 := (not_congr (own_ltL (K := 194) rfl)).mp c42; have z3 := (not_congr (own_ltL (K := 224) rfl)).mp c51; have z4 := (not_congr (own_ltL (K := 240) rfl)).mp c64; have z5 := (own_ltL (K := 245) rfl).mp c111; have z6 := (own_eqL (K := 240) rfl).mp c121; have z7 := (not_congr (own_eqL (K := 244) rfl)).mp c138; have z8 := (not_congr (own_sub hn hi1 h4 (by omega) (K := 3) rfl)).mp c161; have z9 := (own_ltL (K := 144) rfl).mp c179; have hr0 := own_bR f P; have hr1 := own_bR f (P + 1); have hr2 := own_bR f (P + 2); have hr3 := own_bR f (P + 3); unfold SPr; omega) (by decide)]; rfl, rfl⟩
                        · intro c179
                          refine OG.iload Xloop1 d4_182 rfl ?_
                          refine OG.iload Xloop1 d4_184 rfl ?_
                          refine OG.icmp_le Xloop1 d4_186 (pc' := 191) (by decide) ?_ ?_
                          · intro c186
                            refine OG.iconst Xloop1 d4_191 (z := (1 : Int32)) rfl ?_
                            refine OG.istore Xloop1 d4_192 (l' := #[.val (.ref a), .val (.int n), .val (.int (i + (1 : Int32))), .val (.int a'), .val (.int (3 : Int32)), .val (.int (144 : Int32)), .val (.int (191 : Int32)), .val (.int b1), .val (.int (1 : Int32))]) (XS.store1 (o := sl8) rfl hsl8 rfl) ?_
                            refine OG.iload Xloop1 d4_194 rfl ?_
                            refine OG.iload Xloop1 d4_196 rfl ?_
                            refine OG.icmp_ge_f Xloop1 d4_198 (by decide) ?_
                            refine OG.aloadN Xloop1 d4_201 rfl rfl ?_
                            refine OG.iloadN Xloop1 d4_202 rfl ?_
                            refine OG.iload Xloop1 d4_203 rfl ?_
                            refine OG.iadd Xloop1 d4_205 ?_
                            refine OG.baload Xloop1 A_a (by have z := (not_congr (own_sub hn hi1 h4 (by omega) (K := 3) rfl)).mp c161; rw [hi2]; omega) d4_206 ?_
                            refine OG.sipush Xloop1 d4_207 (z := (192 : Int32)) rfl ?_
                            refine OG.iand Xloop1 d4_210 ?_
                            refine OG.sipush Xloop1 d4_211 (z := (128 : Int32)) rfl ?_
                            refine OG.icmp_eq Xloop1 d4_214 (pc' := 219) (by decide) ?_ ?_
                            · intro c214
                              refine OG.iinc Xloop1 d4_219 rfl (z := (1 : Int32)) rfl (l' := #[.val (.ref a), .val (.int n), .val (.int (i + (1 : Int32))), .val (.int a'), .val (.int (3 : Int32)), .val (.int (144 : Int32)), .val (.int (191 : Int32)), .val (.int b1), .val (.int ((1 : Int32) + (1 : Int32)))]) rfl ?_
                              refine OG.goto Xloop1 d4_222 (pc' := 194) (by decide) ?_
                              refine OG.iload Xloop1 d4_194 rfl ?_
                              refine OG.iload Xloop1 d4_196 rfl ?_
                              refine OG.icmp_ge_f Xloop1 d4_198 (by decide) ?_
                              refine OG.aloadN Xloop1 d4_201 rfl rfl ?_
                              refine OG.iloadN Xloop1 d4_202 rfl ?_
                              refine OG.iload Xloop1 d4_203 rfl ?_
                              refine OG.iadd Xloop1 d4_205 ?_
                              refine OG.baload Xloop1 A_a (by have z := (not_congr (own_sub hn hi1 h4 (by omega) (K := 3) rfl)).mp c161; rw [hi3]; omega) d4_206 ?_
                              refine OG.sipush Xloop1 d4_207 (z := (192 : Int32)) rfl ?_
                              refine OG.iand Xloop1 d4_210 ?_
                              refine OG.sipush Xloop1 d4_211 (z := (128 : Int32)) rfl ?_
                              refine OG.icmp_eq Xloop1 d4_214 (pc' := 219) (by decide) ?_ ?_
                              · intro c214_4
                                refine OG.iinc Xloop1 d4_219 rfl (z := (1 : Int32)) rfl (l' := #[.val (.ref a), .val (.int n), .val (.int (i + (1 : Int32))), .val (.int a'), .val (.int (3 : Int32)), .val (.int (144 : Int32)), .val (.int (191 : Int32)), .val (.int b1), .val (.int (((1 : Int32) + (1 : Int32)) + (1 : Int32)))]) rfl ?_
                                refine OG.goto Xloop1 d4_222 (pc' := 194) (by decide) ?_
                                refine OG.iload Xloop1 d4_194 rfl ?_
                                refine OG.iload Xloop1 d4_196 rfl ?_
                                refine OG.icmp_ge_t Xloop1 d4_198 (pc' := 225) (by decide) (by decide) ?_
                                refine OG.iloadN Xloop1 d4_225 rfl ?_
                                refine OG.iload Xloop1 d4_226 rfl ?_
                                refine OG.iadd Xloop1 d4_228 ?_
                                refine OG.istoreN Xloop1 d4_229 (l' := #[.val (.ref a), .val (.int n), .val (.int ((i + (1 : Int32)) + (3 : Int32))), .val (.int a'), .val (.int (3 : Int32)), .val (.int (144 : Int32)), .val (.int (191 : Int32)), .val (.int b1), .val (.int (((1 : Int32) + (1 : Int32)) + (1 : Int32)))]) rfl ?_
                                refine OG.goto Xloop1 d4_230 (pc' := 2) (by decide) ?_
                                exact ih Tloop1 ((i + (1 : Int32)) + (3 : Int32)) (.val (.int a')) (.val (.int (3 : Int32))) (.val (.int (144 : Int32))) (.val (.int (191 : Int32))) (.val (.int b1)) (.val (.int (((1 : Int32) + (1 : Int32)) + (1 : Int32)))) Xloop1 (by have e := (own_add (k := 3) (K := 3) hi1 rfl (by omega) (by decide)); have z4 := Int32.lt_iff_toInt_lt.mp c4; omega) (Or.inr ⟨_, rfl, rfl⟩) (Or.inr ⟨_, rfl, rfl⟩) (Or.inr ⟨_, rfl, rfl⟩) (Or.inr ⟨_, rfl, rfl⟩) (Or.inr ⟨_, rfl, rfl⟩) (Or.inr ⟨_, rfl, rfl⟩) (by have e := (own_add (k := 3) (K := 3) hi1 rfl (by omega) (by decide)); have z4 := Int32.lt_iff_toInt_lt.mp c4; have r := own_rng (show SPr (bb f P) (bb f (P + 1)) (bb f (P + 2)) (bb f (P + 3)) ((M : Int) - P) (4) from by have z0 := (Int32.lt_iff_toInt_lt).mp c4; have z1 := (not_congr (own_ltL (K := 128) rfl)).mp c22; have z2 := (not_congr (own_ltL (K := 194) rfl)).mp c42; have z3 := (not_congr (own_ltL (K := 224) rfl)).mp c51; have z4 := (not_congr (own_ltL (K := 240) rfl)).mp c64; have z5 := (own_ltL (K := 245) rfl).mp c111; have z6 := (own_eqL (K := 240) rfl).mp c121; have z7 := (not_congr (own_eqL (K := 244) rfl)).mp c138; have z8 := (not_congr (own_sub hn hi1 h4 (by omega) (K := 3) rfl)).mp c161; have z9 := (not_congr (own_ltL (K := 144) rfl)).mp c179; have z10 := (not_congr (own_Llt (K := 191) rfl)).mp c186; have z11 := (own_r192 hi2).mp c214; have z12 := (own_r192 hi3).mp c214_4; have hr0 := own_bR f P; have hr1 := own_bR f (P + 1); have hr2 := own_bR f (P + 2); have hr3 := own_bR f (P + 3); unfold SPr; omega) (by omega) (by decide); omega) (by rw [own_nat (own_add (k := 3) (K := 3) hi1 rfl (by omega) (by decide)), ← hv, own_gS hltM (show SPr (bb f P) (bb f (P + 1)) (bb f (P + 2)) (bb f (P + 3)) ((M : Int) - P) (4) from by have z0 := (Int32.lt_iff_toInt_lt).mp c4; have z1 := (not_congr (own_ltL (K := 128) rfl)).mp c22; have z2 := (not_congr (own_ltL (K := 194) rfl)).mp c42; have z3 := (not_congr (own_ltL (K := 224) rfl)).mp c51; have z4 := (not_congr (own_ltL (K := 240) rfl)).mp c64; have z5 := (own_ltL (K := 245) rfl).mp c111; have z6 := (own_eqL (K := 240) rfl).mp c121; have z7 := (not_congr (own_eqL (K := 244) rfl)).mp c138; have z8 := (not_congr (own_sub hn hi1 h4 (by omega) (K := 3) rfl)).mp c161; have z9 := (not_congr (own_ltL (K := 144) rfl)).mp c179; have z10 := (not_congr (own_Llt (K := 191) rfl)).mp c186; have z11 := (own_r192 hi2).mp c214; have z12 := (own_r192 hi3).mp c214_4; have hr0 := own_bR f P; have hr1 := own_bR f (P + 1); have hr2 := own_bR f (P + 2); have hr3 := own_bR f (P + 3); unfold SPr; omega) (by decide)]; rfl)
                              · intro c214_4
                                refine OG.iconst Xloop1 d4_217 (z := (0 : Int32)) rfl ?_
                                exact OG.retN Xloop1 (t := .boolean) d4_218 (by simp) (by decide) (by decide) ⟨by rw [← hv, own_gF hltM (show SPr (bb f P) (bb f (P + 1)) (bb f (P + 2)) (bb f (P + 3)) ((M : Int) - P) (-1) from by have z0 := (Int32.lt_iff_toInt_lt).mp c4; have z1 := (not_congr (own_ltL (K := 128) rfl)).mp c22; have z2 := (not_congr (own_ltL (K := 194) rfl)).mp c42; have z3 := (not_congr (own_ltL (K := 224) rfl)).mp c51; have z4 := (not_congr (own_ltL (K := 240) rfl)).mp c64; have z5 := (own_ltL (K := 245) rfl).mp c111; have z6 := (own_eqL (K := 240) rfl).mp c121; have z7 := (not_congr (own_eqL (K := 244) rfl)).mp c138; have z8 := (not_congr (own_sub hn hi1 h4 (by omega) (K := 3) rfl)).mp c161; have z9 := (not_congr (own_ltL (K := 144) rfl)).mp c179; have z10 := (not_congr (own_Llt (K := 191) rfl)).mp c186; have z11 := (own_r192 hi2).mp c214; have z12 := (not_congr (own_r192 hi3)).mp c214_4; have hr0 := own_bR f P; have hr1 := own_bR f (P + 1); have hr2 := own_bR f (P + 2); have hr3 := own_bR f (P + 3); unfold SPr; omega) (by decide)]; rfl, rfl⟩
                            · intro c214
                              refine OG.iconst Xloop1 d4_217 (z := (0 : Int32)) rfl ?_
                              exact OG.retN Xloop1 (t := .boolean) d4_218 (by simp) (by decide) (by decide) ⟨by rw [← hv, own_gF hltM (show SPr (bb f P) (bb f (P + 1)) (bb f (P + 2)) (bb f (P + 3)) ((M : Int) - P) (-1) from by have z0 := (Int32.lt_iff_toInt_lt).mp c4; have z1 := (not_congr (own_ltL (K := 128) rfl)).mp c22; have z2 := (not_congr (own_ltL (K := 194) rfl)).mp c42; have z3 := (not_congr (own_ltL (K := 224) rfl)).mp c51; have z4 := (not_congr (own_ltL (K := 240) rfl)).mp c64; have z5 := (own_ltL (K := 245) rfl).mp c111; have z6 := (own_eqL (K := 240) rfl).mp c121; have z7 := (not_congr (own_eqL (K := 244) rfl)).mp c138; have z8 := (not_congr (own_sub hn hi1 h4 (by omega) (K := 3) rfl)).mp c161; have z9 := (not_congr (own_ltL (K := 144) rfl)).mp c179; have z10 := (not_congr (own_Llt (K := 191) rfl)).mp c186; have z11 := (not_congr (own_r192 hi2)).mp c214; have hr0 := own_bR f P; have hr1 := own_bR f (P + 1); have hr2 := own_bR f (P + 2); have hr3 := own_bR f (P + 3); unfold SPr; omega) (by decide)]; rfl, rfl⟩
                          · intro c186
                            refine OG.iconst Xloop1 d4_189 (z := (0 : Int32)) rfl ?_
                            exact OG.retN Xloop1 (t := .boolean) d4_190 (by simp) (by decide) (by decide) ⟨by rw [← hv, own_gF hltM (show SPr (bb f P) (bb f (P + 1)) (bb f (P + 2)) (bb f (P + 3)) ((M : Int) - P) (-1) from by have z0 := (Int32.lt_iff_toInt_lt).mp c4; have z1 := (not_congr (own_ltL (K := 128) rfl)).mp c22; have z2 := (not_congr (own_ltL (K := 194) rfl)).mp c42; have z3 := (not_congr (own_ltL (K := 224) rfl)).mp c51; have z4 := (not_congr (own_ltL (K := 240) rfl)).mp c64; have z5 := (own_ltL (K := 245) rfl).mp c111; have z6 := (own_eqL (K := 240) rfl).mp c121; have z7 := (not_congr (own_eqL (K := 244) rfl)).mp c138; have z8 := (not_congr (own_sub hn hi1 h4 (by omega) (K := 3) rfl)).mp c161; have z9 := (not_congr (own_ltL (K := 144) rfl)).mp c179; have z10 := (own_Llt (K := 191) rfl).mp c186; have hr0 := own_bR f P; have hr1 := own_bR f (P + 1); have hr2 := own_bR f (P + 2); have hr3 := own_bR f (P + 3); unfold SPr; omega) (by decide)]; rfl, rfl⟩
                      · intro c161
                        refine OG.iconst Xloop1 d4_164 (z := (0 : Int32)) rfl ?_
                        exact OG.retN Xloop1 (t := .boolean) d4_165 (by simp) (by decide) (by decide) ⟨by rw [← hv, own_gF hltM (show SPr (bb f P) (bb f (P + 1)) (bb f (P + 2)) (bb f (P + 3)) ((M : Int) - P) (-1) from by have z0 := (Int32.lt_iff_toInt_lt).mp c4; have z1 := (not_congr (own_ltL (K := 128) rfl)).mp c22; have z2 := (not_congr (own_ltL (K := 194) rfl)).mp c42; have z3 := (not_congr (own_ltL (K := 224) rfl)).mp c51; have z4 := (not_congr (own_ltL (K := 240) rfl)).mp c64; have z5 := (own_ltL (K := 245) rfl).mp c111; have z6 := (own_eqL (K := 240) rfl).mp c121; have z7 := (not_congr (own_eqL (K := 244) rfl)).mp c138; have z8 := (own_sub hn hi1 h4 (by omega) (K := 3) rfl).mp c161; have hr0 := own_bR f P; have hr1 := own_bR f (P + 1); have hr2 := own_bR f (P + 2); have hr3 := own_bR f (P + 3); unfold SPr; omega) (by decide)]; rfl, rfl⟩
                    · intro c138
                      refine OG.sipush Xloop1 d4_141 (z := (143 : Int32)) rfl ?_
                      refine OG.goto Xloop1 d4_144 (pc' := 149) (by decide) ?_
                      refine OG.istore Xloop1 d4_149 (l' := #[.val (.ref a), .val (.int n), .val (.int (i + (1 : Int32))), .val (.int a'), .val (.int (3 : Int32)), .val (.int (144 : Int32)), .val (.int (143 : Int32)), sl7, sl8]) rfl ?_
                      refine OG.goto Xloop1 d4_151 (pc' := 156) (by decide) ?_
                      refine OG.iloadN Xloop1 d4_156 rfl ?_
                      refine OG.iloadN Xloop1 d4_157 rfl ?_
                      refine OG.isub Xloop1 d4_158 ?_
                      refine OG.iload Xloop1 d4_159 rfl ?_
                      refine OG.icmp_ge Xloop1 d4_161 (pc' := 166) (by decide) ?_ ?_
                      · intro c161
                        refine OG.aloadN Xloop1 d4_166 rfl rfl ?_
                        refine OG.iloadN Xloop1 d4_167 rfl ?_
                        refine OG.baload Xloop1 A_a (by have z := (not_congr (own_sub hn hi1 h4 (by omega) (K := 3) rfl)).mp c161; rw [hi1]; omega) d4_168 ?_
                        refine OG.sipush Xloop1 d4_169 (z := (255 : Int32)) rfl ?_
                        refine OG.iand Xloop1 d4_172 ?_
                        refine OG.istoreV Xloop1 d4_173 (l' := fun z => #[.val (.ref a), .val (.int n), .val (.int (i + (1 : Int32))), .val (.int a'), .val (.int (3 : Int32)), .val (.int (144 : Int32)), .val (.int (143 : Int32)), .val (.int z), sl8]) (fun _ => (XS.store1 (o := sl7) rfl hsl7 rfl)) ?_
                        intro b1 hb1
                        have hb1v := own_by hi1 hb1
                        refine OG.iload Xloop1 d4_175 rfl ?_
                        refine OG.iload Xloop1 d4_177 rfl ?_
                        refine OG.icmp_lt Xloop1 d4_179 (pc' := 189) (by decide) ?_ ?_
                        · intro c179
                          refine OG.iconst Xloop1 d4_189 (z := (0 : Int32)) rfl ?_
                          exact OG.retN Xloop1 (t := .boolean) d4_190 (by simp) (by decide) (by decide) ⟨by rw [← hv, own_gF hltM (show SPr (bb f P) (bb f (P + 1)) (bb f (P + 2)) (bb f (P + 3)) ((M : Int) - P) (-1) from by have z0 := (Int32.lt_iff_toInt_lt).mp c4; have z1 := (not_congr (own_ltL (K := 128) rfl)).mp c22; have z2 := (not_congr (own_ltL (K := 194) rfl)).mp c42; have z3 := (not_congr (own_ltL (K := 224) rfl)).mp c51; have z4 := (not_congr (own_ltL (K := 240) rfl)).mp c64; have z5 := (own_ltL (K := 245) rfl).mp c111; have z6 := (own_eqL (K := 240) rfl).mp c121; have z7 := (own_eqL (K := 244) rfl).mp c138; have z8 := (not_congr (own_sub hn hi1 h4 (by omega) (K := 3) rfl)).mp c161; have z9 := (own_ltL (K := 144) rfl).mp c179; have hr0 := own_bR f P; have hr1 := own_bR f (P + 1); have hr2 := own_bR f (P + 2); have hr3 := own_bR f (P + 3); unfold SPr; omega) (by decide)]; rfl, rfl⟩
                        · intro c179
                          refine OG.iload Xloop1 d4_182 rfl ?_
                          refine OG.iload Xloop1 d4_184 rfl ?_
                          refine OG.icmp_le Xloop1 d4_186 (pc' := 191) (by decide) ?_ ?_
                          · intro c186
                            refine OG.iconst Xloop1 d4_191 (z := (1 : Int32)) rfl ?_
                            refine OG.istore Xloop1 d4_192 (l' := #[.val (.ref a), .val (.int n), .val (.int (i + (1 : Int32))), .val (.int a'), .val (.int (3 : Int32)), .val (.int (144 : Int32)), .val (.int (143 : Int32)), .val (.int b1), .val (.int (1 : Int32))]) (XS.store1 (o := sl8) rfl hsl8 rfl) ?_
                            refine OG.iload Xloop1 d4_194 rfl ?_
                            refine OG.iload Xloop1 d4_196 rfl ?_
                            refine OG.icmp_ge_f Xloop1 d4_198 (by decide) ?_
                            refine OG.aloadN Xloop1 d4_201 rfl rfl ?_
                            refine OG.iloadN Xloop1 d4_202 rfl ?_
                            refine OG.iload Xloop1 d4_203 rfl ?_
                            refine OG.iadd Xloop1 d4_205 ?_
                            refine OG.baload Xloop1 A_a (by have z := (not_congr (own_sub hn hi1 h4 (by omega) (K := 3) rfl)).mp c161; rw [hi2]; omega) d4_206 ?_
                            refine OG.sipush Xloop1 d4_207 (z := (192 : Int32)) rfl ?_
                            refine OG.iand Xloop1 d4_210 ?_
                            refine OG.sipush Xloop1 d4_211 (z := (128 : Int32)) rfl ?_
                            refine OG.icmp_eq Xloop1 d4_214 (pc' := 219) (by decide) ?_ ?_
                            · intro c214
                              refine OG.iinc Xloop1 d4_219 rfl (z := (1 : Int32)) rfl (l' := #[.val (.ref a), .val (.int n), .val (.int (i + (1 : Int32))), .val (.int a'), .val (.int (3 : Int32)), .val (.int (144 : Int32)), .val (.int (143 : Int32)), .val (.int b1), .val (.int ((1 : Int32) + (1 : Int32)))]) rfl ?_
                              refine OG.goto Xloop1 d4_222 (pc' := 194) (by decide) ?_
                              refine OG.iload Xloop1 d4_194 rfl ?_
                              refine OG.iload Xloop1 d4_196 rfl ?_
                              refine OG.icmp_ge_f Xloop1 d4_198 (by decide) ?_
                              refine OG.aloadN Xloop1 d4_201 rfl rfl ?_
                              refine OG.iloadN Xloop1 d4_202 rfl ?_
                              refine OG.iload Xloop1 d4_203 rfl ?_
                              refine OG.iadd Xloop1 d4_205 ?_
                              refine OG.baload Xloop1 A_a (by have z := (not_congr (own_sub hn hi1 h4 (by omega) (K := 3) rfl)).mp c161; rw [hi3]; omega) d4_206 ?_
                              refine OG.sipush Xloop1 d4_207 (z := (192 : Int32)) rfl ?_
                              refine OG.iand Xloop1 d4_210 ?_
                              refine OG.sipush Xloop1 d4_211 (z := (128 : Int32)) rfl ?_
                              refine OG.icmp_eq Xloop1 d4_214 (pc' := 219) (by decide) ?_ ?_
                              · intro c214_5
                                refine OG.iinc Xloop1 d4_219 rfl (z := (1 : Int32)) rfl (l' := #[.val (.ref a), .val (.int n), .val (.int (i + (1 : Int32))), .val (.int a'), .val (.int (3 : Int32)), .val (.int (144 : Int32)), .val (.int (143 : Int32)), .val (.int b1), .val (.int (((1 : Int32) + (1 : Int32)) + (1 : Int32)))]) rfl ?_
                                refine OG.goto Xloop1 d4_222 (pc' := 194) (by decide) ?_
                                refine OG.iload Xloop1 d4_194 rfl ?_
                                refine OG.iload Xloop1 d4_196 rfl ?_
                                refine OG.icmp_ge_t Xloop1 d4_198 (pc' := 225) (by decide) (by decide) ?_
                                refine OG.iloadN Xloop1 d4_225 rfl ?_
                                refine OG.iload Xloop1 d4_226 rfl ?_
                                refine OG.iadd Xloop1 d4_228 ?_
                                refine OG.istoreN Xloop1 d4_229 (l' := #[.val (.ref a), .val (.int n), .val (.int ((i + (1 : Int32)) + (3 : Int32))), .val (.int a'), .val (.int (3 : Int32)), .val (.int (144 : Int32)), .val (.int (143 : Int32)), .val (.int b1), .val (.int (((1 : Int32) + (1 : Int32)) + (1 : Int32)))]) rfl ?_
                                refine OG.goto Xloop1 d4_230 (pc' := 2) (by decide) ?_
                                exact ih Tloop1 ((i + (1 : Int32)) + (3 : Int32)) (.val (.int a')) (.val (.int (3 : Int32))) (.val (.int (144 : Int32))) (.val (.int (143 : Int32))) (.val (.int b1)) (.val (.int (((1 : Int32) + (1 : Int32)) + (1 : Int32)))) Xloop1 (by have e := (own_add (k := 3) (K := 3) hi1 rfl (by omega) (by decide)); have z4 := Int32.lt_iff_toInt_lt.mp c4; omega) (Or.inr ⟨_, rfl, rfl⟩) (Or.inr ⟨_, rfl, rfl⟩) (Or.inr ⟨_, rfl, rfl⟩) (Or.inr ⟨_, rfl, rfl⟩) (Or.inr ⟨_, rfl, rfl⟩) (Or.inr ⟨_, rfl, rfl⟩) (by have e := (own_add (k := 3) (K := 3) hi1 rfl (by omega) (by decide)); have z4 := Int32.lt_iff_toInt_lt.mp c4; have r := own_rng (show SPr (bb f P) (bb f (P + 1)) (bb f (P + 2)) (bb f (P + 3)) ((M : Int) - P) (4) from by have z0 := (Int32.lt_iff_toInt_lt).mp c4; have z1 := (not_congr (own_ltL (K := 128) rfl)).mp c22; have z2 := (not_congr (own_ltL (K := 194) rfl)).mp c42; have z3 := (not_congr (own_ltL (K := 224) rfl)).mp c51; have z4 := (not_congr (own_ltL (K := 240) rfl)).mp c64; have z5 := (own_ltL (K := 245) rfl).mp c111; have z6 := (own_eqL (K := 240) rfl).mp c121; have z7 := (own_eqL (K := 244) rfl).mp c138; have z8 := (not_congr (own_sub hn hi1 h4 (by omega) (K := 3) rfl)).mp c161; have z9 := (not_congr (own_ltL (K := 144) rfl)).mp c179; have z10 := (not_congr (own_Llt (K := 143) rfl)).mp c186; have z11 := (own_r192 hi2).mp c214; have z12 := (own_r192 hi3).mp c214_5; have hr0 := own_bR f P; have hr1 := own_bR f (P + 1); have hr2 := own_bR f (P + 2); have hr3 := own_bR f (P + 3); unfold SPr; omega) (by omega) (by decide); omega) (by rw [own_nat (own_add (k := 3) (K := 3) hi1 rfl (by omega) (by decide)), ← hv, own_gS hltM (show SPr (bb f P) (bb f (P + 1)) (bb f (P + 2)) (bb f (P + 3)) ((M : Int) - P) (4) from by have z0 := (Int32.lt_iff_toInt_lt).mp c4; have z1 := (not_congr (own_ltL (K := 128) rfl)).mp c22; have z2 := (not_congr (own_ltL (K := 194) rfl)).mp c42; have z3 := (not_congr (own_ltL (K := 224) rfl)).mp c51; have z4 := (not_congr (own_ltL (K := 240) rfl)).mp c64; have z5 := (own_ltL (K := 245) rfl).mp c111; have z6 := (own_eqL (K := 240) rfl).mp c121; have z7 := (own_eqL (K := 244) rfl).mp c138; have z8 := (not_congr (own_sub hn hi1 h4 (by omega) (K := 3) rfl)).mp c161; have z9 := (not_congr (own_ltL (K := 144) rfl)).mp c179; have z10 := (not_congr (own_Llt (K := 143) rfl)).mp c186; have z11 := (own_r192 hi2).mp c214; have z12 := (own_r192 hi3).mp c214_5; have hr0 := own_bR f P; have hr1 := own_bR f (P + 1); have hr2 := own_bR f (P + 2); have hr3 := own_bR f (P + 3); unfold SPr; omega) (by decide)]; rfl)
                              · intro c214_5
                                refine OG.iconst Xloop1 d4_217 (z := (0 : Int32)) rfl ?_
                                exact OG.retN Xloop1 (t := .boolean) d4_218 (by simp) (by decide) (by decide) ⟨by rw [← hv, own_gF hltM (show SPr (bb f P) (bb f (P + 1)) (bb f (P + 2)) (bb f (P + 3)) ((M : Int) - P) (-1) from by have z0 := (Int32.lt_iff_toInt_lt).mp c4; have z1 := (not_congr (own_ltL (K := 128) rfl)).mp c22; have z2 := (not_congr (own_ltL (K := 194) rfl)).mp c42; have z3 := (not_congr (own_ltL (K := 224) rfl)).mp c51; have z4 := (not_congr (own_ltL (K := 240) rfl)).mp c64; have z5 := (own_ltL (K := 245) rfl).mp c111; have z6 := (own_eqL (K := 240) rfl).mp c121; have z7 := (own_eqL (K := 244) rfl).mp c138; have z8 := (not_congr (own_sub hn hi1 h4 (by omega) (K := 3) rfl)).mp c161; have z9 := (not_congr (own_ltL (K := 144) rfl)).mp c179; have z10 := (not_congr (own_Llt (K := 143) rfl)).mp c186; have z11 := (own_r192 hi2).mp c214; have z12 := (not_congr (own_r192 hi3)).mp c214_5; have hr0 := own_bR f P; have hr1 := own_bR f (P + 1); have hr2 := own_bR f (P + 2); have hr3 := own_bR f (P + 3); unfold SPr; omega) (by decide)]; rfl, rfl⟩
                            · intro c214
                              refine OG.iconst Xloop1 d4_217 (z := (0 : Int32)) rfl ?_
                              exact OG.retN Xloop1 (t := .boolean) d4_218 (by simp) (by decide) (by decide) ⟨by rw [← hv, own_gF hltM (show SPr (bb f P) (bb f (P + 1)) (bb f (P + 2)) (bb f (P + 3)) ((M : Int) - P) (-1) from by have z0 := (Int32.lt_iff_toInt_lt).mp c4; have z1 := (not_congr (own_ltL (K := 128) rfl)).mp c22; have z2 := (not_congr (own_ltL (K := 194) rfl)).mp c42; have z3 := (not_congr (own_ltL (K := 224) rfl)).mp c51; have z4 := (not_congr (own_ltL (K := 240) rfl)).mp c64; have z5 := (own_ltL (K := 245) rfl).mp c111; have z6 := (own_eqL (K := 240) rfl).mp c121; have z7 := (own_eqL (K := 244) rfl).mp c138; have z8 := (not_congr (own_sub hn hi1 h4 (by omega) (K := 3) rfl)).mp c161; have z9 := (not_congr (own_ltL (K := 144) rfl)).mp c179; have z10 := (not_congr (own_Llt (K := 143) rfl)).mp c186; have z11 := (not_congr (own_r192 hi2)).mp c214; have hr0 := own_bR f P; have hr1 := own_bR f (P + 1); have hr2 := own_bR f (P + 2); have hr3 := own_bR f (P + 3); unfold SPr; omega) (by decide)]; rfl, rfl⟩
                          · intro c186
                            refine OG.iconst Xloop1 d4_189 (z := (0 : Int32)) rfl ?_
                            exact OG.retN Xloop1 (t := .boolean) d4_190 (by simp) (by decide) (by decide) ⟨by rw [← hv, own_gF hltM (show SPr (bb f P) (bb f (P + 1)) (bb f (P + 2)) (bb f (P + 3)) ((M : Int) - P) (-1) from by have z0 := (Int32.lt_iff_toInt_lt).mp c4; have z1 := (not_congr (own_ltL (K := 128) rfl)).mp c22; have z2 := (not_congr (own_ltL (K := 194) rfl)).mp c42; have z3 := (not_congr (own_ltL (K := 224) rfl)).mp c51; have z4 := (not_congr (own_ltL (K := 240) rfl)).mp c64; have z5 := (own_ltL (K := 245) rfl).mp c111; have z6 := (own_eqL (K := 240) rfl).mp c121; have z7 := (own_eqL (K := 244) rfl).mp c138; have z8 := (not_congr (own_sub hn hi1 h4 (by omega) (K := 3) rfl)).mp c161; have z9 := (not_congr (own_ltL (K := 144) rfl)).mp c179; have z10 := (own_Llt (K := 143) rfl).mp c186; have hr0 := own_bR f P; have hr1 := own_bR f (P + 1); have hr2 := own_bR f (P + 2); have hr3 := own_bR f (P + 3); unfold SPr; omega) (by decide)]; rfl, rfl⟩
                      · intro c161
                        refine OG.iconst Xloop1 d4_164 (z := (0 : Int32)) rfl ?_
                        exact OG.retN Xloop1 (t := .boolean) d4_165 (by simp) (by decide) (by decide) ⟨by rw [← hv, own_gF hltM (show SPr (bb f P) (bb f (P + 1)) (bb f (P + 2)) (bb f (P + 3)) ((M : Int) - P) (-1) from by have z0 := (Int32.lt_iff_toInt_lt).mp c4; have z1 := (not_congr (own_ltL (K := 128) rfl)).mp c22; have z2 := (not_congr (own_ltL (K := 194) rfl)).mp c42; have z3 := (not_congr (own_ltL (K := 224) rfl)).mp c51; have z4 := (not_congr (own_ltL (K := 240) rfl)).mp c64; have z5 := (own_ltL (K := 245) rfl).mp c111; have z6 := (own_eqL (K := 240) rfl).mp c121; have z7 := (own_eqL (K := 244) rfl).mp c138; have z8 := (own_sub hn hi1 h4 (by omega) (K := 3) rfl).mp c161; have hr0 := own_bR f P; have hr1 := own_bR f (P + 1); have hr2 := own_bR f (P + 2); have hr3 := own_bR f (P + 3); unfold SPr; omega) (by decide)]; rfl, rfl⟩
              · intro c64
                refine OG.iconst Xloop1 d4_67 (z := (2 : Int32)) rfl ?_
                refine OG.istore Xloop1 d4_68 (l' := #[.val (.ref a), .val (.int n), .val (.int (i + (1 : Int32))), .val (.int a'), .val (.int (2 : Int32)), .val (.int (128 : Int32)), .val (.int (191 : Int32)), sl7, sl8]) (XS.store1 (o := sl4) rfl hsl4 rfl) ?_
                refine OG.iloadN Xloop1 d4_70 rfl ?_
                refine OG.sipush Xloop1 d4_71 (z := (224 : Int32)) rfl ?_
                refine OG.icmp_ne Xloop1 d4_74 (pc' := 83) (by decide) ?_ ?_
                · intro c74
                  refine OG.iload Xloop1 d4_83 rfl ?_
                  refine OG.istore Xloop1 d4_85 (l' := #[.val (.ref a), .val (.int n), .val (.int (i + (1 : Int32))), .val (.int a'), .val (.int (2 : Int32)), .val (.int (128 : Int32)), .val (.int (191 : Int32)), sl7, sl8]) rfl ?_
                  refine OG.iloadN Xloop1 d4_87 rfl ?_
                  refine OG.sipush Xloop1 d4_88 (z := (237 : Int32)) rfl ?_
                  refine OG.icmp_ne Xloop1 d4_91 (pc' := 100) (by decide) ?_ ?_
                  · intro c91
                    refine OG.iload Xloop1 d4_100 rfl ?_
                    refine OG.istore Xloop1 d4_102 (l' := #[.val (.ref a), .val (.int n), .val (.int (i + (1 : Int32))), .val (.int a'), .val (.int (2 : Int32)), .val (.int (128 : Int32)), .val (.int (191 : Int32)), sl7, sl8]) rfl ?_
                    refine OG.goto Xloop1 d4_104 (pc' := 156) (by decide) ?_
                    refine OG.iloadN Xloop1 d4_156 rfl ?_
                    refine OG.iloadN Xloop1 d4_157 rfl ?_
                    refine OG.isub Xloop1 d4_158 ?_
                    refine OG.iload Xloop1 d4_159 rfl ?_
                    refine OG.icmp_ge Xloop1 d4_161 (pc' := 166) (by decide) ?_ ?_
                    · intro c161
                      refine OG.aloadN Xloop1 d4_166 rfl rfl ?_
                      refine OG.iloadN Xloop1 d4_167 rfl ?_
                      refine OG.baload Xloop1 A_a (by have z := (not_congr (own_sub hn hi1 h4 (by omega) (K := 2) rfl)).mp c161; rw [hi1]; omega) d4_168 ?_
                      refine OG.sipush Xloop1 d4_169 (z := (255 : Int32)) rfl ?_
                      refine OG.iand Xloop1 d4_172 ?_
                      refine OG.istoreV Xloop1 d4_173 (l' := fun z => #[.val (.ref a), .val (.int n), .val (.int (i + (1 : Int32))), .val (.int a'), .val (.int (2 : Int32)), .val (.int (128 : Int32)), .val (.int (191 : Int32)), .val (.int z), sl8]) (fun _ => (XS.store1 (o := sl7) rfl hsl7 rfl)) ?_
                      intro b1 hb1
                      have hb1v := own_by hi1 hb1
                      refine OG.iload Xloop1 d4_175 rfl ?_
                      refine OG.iload Xloop1 d4_177 rfl ?_
                      refine OG.icmp_lt Xloop1 d4_179 (pc' := 189) (by decide) ?_ ?_
                      · intro c179
                        refine OG.iconst Xloop1 d4_189 (z := (0 : Int32)) rfl ?_
                        exact OG.retN Xloop1 (t := .boolean) d4_190 (by simp) (by decide) (by decide) ⟨by rw [← hv, own_gF hltM (show SPr (bb f P) (bb f (P + 1)) (bb f (P + 2)) (bb f (P + 3)) ((M : Int) - P) (-1) from by have z0 := (Int32.lt_iff_toInt_lt).mp c4; have z1 := (not_congr (own_ltL (K := 128) rfl)).mp c22; have z2 := (not_congr (own_ltL (K := 194) rfl)).mp c42; have z3 := (not_congr (own_ltL (K := 224) rfl)).mp c51; have z4 := (own_ltL (K := 240) rfl).mp c64; have z5 := (not_congr (own_eqL (K := 224) rfl)).mp c74; have z6 := (not_congr (own_eqL (K := 237) rfl)).mp c91; have z7 := (not_congr (own_sub hn hi1 h4 (by omega) (K := 2) rfl)).mp c161; have z8 := (own_ltL (K := 128) rfl).mp c179; have hr0 := own_bR f P; have hr1 := own_bR f (P + 1); have hr2 := own_bR f (P + 2); have hr3 := own_bR f (P + 3); unfold SPr; omega) (by decide)]; rfl, rfl⟩
                      · intro c179
                        refine OG.iload Xloop1 d4_182 rfl ?_
                        refine OG.iload Xloop1 d4_184 rfl ?_
                        refine OG.icmp_le Xloop1 d4_186 (pc' := 191) (by decide) ?_ ?_
                        · intro c186
                          refine OG.iconst Xloop1 d4_191 (z := (1 : Int32)) rfl ?_
                          refine OG.istore Xloop1 d4_192 (l' := #[.val (.ref a), .val (.int n), .val (.int (i + (1 : Int32))), .val (.int a'), .val (.int (2 : Int32)), .val (.int (128 : Int32)), .val (.int (191 : Int32)), .val (.int b1), .val (.int (1 : Int32))]) (XS.store1 (o := sl8) rfl hsl8 rfl) ?_
                          refine OG.iload Xloop1 d4_194 rfl ?_
                          refine OG.iload Xloop1 d4_196 rfl ?_
                          refine OG.icmp_ge_f Xloop1 d4_198 (by decide) ?_
                          refine OG.aloadN Xloop1 d4_201 rfl rfl ?_
                          refine OG.iloadN Xloop1 d4_202 rfl ?_
                          refine OG.iload Xloop1 d4_203 rfl ?_
                          refine OG.iadd Xloop1 d4_205 ?_
                          refine OG.baload Xloop1 A_a (by have z := (not_congr (own_sub hn hi1 h4 (by omega) (K := 2) rfl)).mp c161; rw [hi2]; omega) d4_206 ?_
                          refine OG.sipush Xloop1 d4_207 (z := (192 : Int32)) rfl ?_
                          refine OG.iand Xloop1 d4_210 ?_
                          refine OG.sipush Xloop1 d4_211 (z := (128 : Int32)) rfl ?_
                          refine OG.icmp_eq Xloop1 d4_214 (pc' := 219) (by decide) ?_ ?_
                          · intro c214
                            refine OG.iinc Xloop1 d4_219 rfl (z := (1 : Int32)) rfl (l' := #[.val (.ref a), .val (.int n), .val (.int (i + (1 : Int32))), .val (.int a'), .val (.int (2 : Int32)), .val (.int (128 : Int32)), .val (.int (191 : Int32)), .val (.int b1), .val (.int ((1 : Int32) + (1 : Int32)))]) rfl ?_
                            refine OG.goto Xloop1 d4_222 (pc' := 194) (by decide) ?_
                            refine OG.iload Xloop1 d4_194 rfl ?_
                            refine OG.iload Xloop1 d4_196 rfl ?_
                            refine OG.icmp_ge_t Xloop1 d4_198 (pc' := 225) (by decide) (by decide) ?_
                            refine OG.iloadN Xloop1 d4_225 rfl ?_
                            refine OG.iload Xloop1 d4_226 rfl ?_
                            refine OG.iadd Xloop1 d4_228 ?_
                            refine OG.istoreN Xloop1 d4_229 (l' := #[.val (.ref a), .val (.int n), .val (.int ((i + (1 : Int32)) + (2 : Int32))), .val (.int a'), .val (.int (2 : Int32)), .val (.int (128 : Int32)), .val (.int (191 : Int32)), .val (.int b1), .val (.int ((1 : Int32) + (1 : Int32)))]) rfl ?_
                            refine OG.goto Xloop1 d4_230 (pc' := 2) (by decide) ?_
                            exact ih Tloop1 ((i + (1 : Int32)) + (2 : Int32)) (.val (.int a')) (.val (.int (2 : Int32))) (.val (.int (128 : Int32))) (.val (.int (191 : Int32))) (.val (.int b1)) (.val (.int ((1 : Int32) + (1 : Int32)))) Xloop1 (by have e := (own_add (k := 2) (K := 2) hi1 rfl (by omega) (by decide)); have z4 := Int32.lt_iff_toInt_lt.mp c4; omega) (Or.inr ⟨_, rfl, rfl⟩) (Or.inr ⟨_, rfl, rfl⟩) (Or.inr ⟨_, rfl, rfl⟩) (Or.inr ⟨_, rfl, rfl⟩) (Or.inr ⟨_, rfl, rfl⟩) (Or.inr ⟨_, rfl, rfl⟩) (by have e := (own_add (k := 2) (K := 2) hi1 rfl (by omega) (by decide)); have z4 := Int32.lt_iff_toInt_lt.mp c4; have r := own_rng (show SPr (bb f P) (bb f (P + 1)) (bb f (P + 2)) (bb f (P + 3)) ((M : Int) - P) (3) from by have z0 := (Int32.lt_iff_toInt_lt).mp c4; have z1 := (not_congr (own_ltL (K := 128) rfl)).mp c22; have z2 := (not_congr (own_ltL (K := 194) rfl)).mp c42; have z3 := (not_congr (own_ltL (K := 224) rfl)).mp c51; have z4 := (own_ltL (K := 240) rfl).mp c64; have z5 := (not_congr (own_eqL (K := 224) rfl)).mp c74; have z6 := (not_congr (own_eqL (K := 237) rfl)).mp c91; have z7 := (not_congr (own_sub hn hi1 h4 (by omega) (K := 2) rfl)).mp c161; have z8 := (not_congr (own_ltL (K := 128) rfl)).mp c179; have z9 := (not_congr (own_Llt (K := 191) rfl)).mp c186; have z10 := (own_r192 hi2).mp c214; have hr0 := own_bR f P; have hr1 := own_bR f (P + 1); have hr2 := own_bR f (P + 2); have hr3 := own_bR f (P + 3); unfold SPr; omega) (by omega) (by decide); omega) (by rw [own_nat (own_add (k := 2) (K := 2) hi1 rfl (by omega) (by decide)), ← hv, own_gS hltM (show SPr (bb f P) (bb f (P + 1)) (bb f (P + 2)) (bb f (P + 3)) ((M : Int) - P) (3) from by have z0 := (Int32.lt_iff_toInt_lt).mp c4; have z1 := (not_congr (own_ltL (K := 128) rfl)).mp c22; have z2 := (not_congr (own_ltL (K := 194) rfl)).mp c42; have z3 := (not_congr (own_ltL (K := 224) rfl)).mp c51; have z4 := (own_ltL (K := 240) rfl).mp c64; have z5 := (not_congr (own_eqL (K := 224) rfl)).mp c74; have z6 := (not_congr (own_eqL (K := 237) rfl)).mp c91; have z7 := (not_congr (own_sub hn hi1 h4 (by omega) (K := 2) rfl)).mp c161; have z8 := (not_congr (own_ltL (K := 128) rfl)).mp c179; have z9 := (not_congr (own_Llt (K := 191) rfl)).mp c186; have z10 := (own_r192 hi2).mp c214; have hr0 := own_bR f P; have hr1 := own_bR f (P + 1); have hr2 := own_bR f (P + 2); have hr3 := own_bR f (P + 3); unfold SPr; omega) (by decide)]; rfl)
                          · intro c214
                            refine OG.iconst Xloop1 d4_217 (z := (0 : Int32)) rfl ?_
                            exact OG.retN Xloop1 (t := .boolean) d4_218 (by simp) (by decide) (by decide) ⟨by rw [← hv, own_gF hltM (show SPr (bb f P) (bb f (P + 1)) (bb f (P + 2)) (bb f (P + 3)) ((M : Int) - P) (-1) from by have z0 := (Int32.lt_iff_toInt_lt).mp c4; have z1 := (not_congr (own_ltL (K := 128) rfl)).mp c22; have z2 := (not_congr (own_ltL (K := 194) rfl)).mp c42; have z3 := (not_congr (own_ltL (K := 224) rfl)).mp c51; have z4 := (own_ltL (K := 240) rfl).mp c64; have z5 := (not_congr (own_eqL (K := 224) rfl)).mp c74; have z6 := (not_congr (own_eqL (K := 237) rfl)).mp c91; have z7 := (not_congr (own_sub hn hi1 h4 (by omega) (K := 2) rfl)).mp c161; have z8 := (not_congr (own_ltL (K := 128) rfl)).mp c179; have z9 := (not_congr (own_Llt (K := 191) rfl)).mp c186; have z10 := (not_congr (own_r192 hi2)).mp c214; have hr0 := own_bR f P; have hr1 := own_bR f (P + 1); have hr2 := own_bR f (P + 2); have hr3 := own_bR f (P + 3); unfold SPr; omega) (by decide)]; rfl, rfl⟩
                        · intro c186
                          refine OG.iconst Xloop1 d4_189 (z := (0 : Int32)) rfl ?_
                          exact OG.retN Xloop1 (t := .boolean) d4_190 (by simp) (by decide) (by decide) ⟨by rw [← hv, own_gF hltM (show SPr (bb f P) (bb f (P + 1)) (bb f (P + 2)) (bb f (P + 3)) ((M : Int) - P) (-1) from by have z0 := (Int32.lt_iff_toInt_lt).mp c4; have z1 := (not_congr (own_ltL (K := 128) rfl)).mp c22; have z2 := (not_congr (own_ltL (K := 194) rfl)).mp c42; have z3 := (not_congr (own_ltL (K := 224) rfl)).mp c51; have z4 := (own_ltL (K := 240) rfl).mp c64; have z5 := (not_congr (own_eqL (K := 224) rfl)).mp c74; have z6 := (not_congr (own_eqL (K := 237) rfl)).mp c91; have z7 := (not_congr (own_sub hn hi1 h4 (by omega) (K := 2) rfl)).mp c161; have z8 := (not_congr (own_ltL (K := 128) rfl)).mp c179; have z9 := (own_Llt (K := 191) rfl).mp c186; have hr0 := own_bR f P; have hr1 := own_bR f (P + 1); have hr2 := own_bR f (P + 2); have hr3 := own_bR f (P + 3); unfold SPr; omega) (by decide)]; rfl, rfl⟩
                    · intro c161
                      refine OG.iconst Xloop1 d4_164 (z := (0 : Int32)) rfl ?_
                      exact OG.retN Xloop1 (t := .boolean) d4_165 (by simp) (by decide) (by decide) ⟨by rw [← hv, own_gF hltM (show SPr (bb f P) (bb f (P + 1)) (bb f (P + 2)) (bb f (P + 3)) ((M : Int) - P) (-1) from by have z0 := (Int32.lt_iff_toInt_lt).mp c4; have z1 := (not_congr (own_ltL (K := 128) rfl)).mp c22; have z2 := (not_congr (own_ltL (K := 194) rfl)).mp c42; have z3 := (not_congr (own_ltL (K := 224) rfl)).mp c51; have z4 := (own_ltL (K := 240) rfl).mp c64; have z5 := (not_congr (own_eqL (K := 224) rfl)).mp c74; have z6 := (not_congr (own_eqL (K := 237) rfl)).mp c91; have z7 := (own_sub hn hi1 h4 (by omega) (K := 2) rfl).mp c161; have hr0 := own_bR f P; have hr1 := own_bR f (P + 1); have hr2 := own_bR f (P + 2); have hr3 := own_bR f (P + 3); unfold SPr; omega) (by decide)]; rfl, rfl⟩
                  · intro c91
                    refine OG.sipush Xloop1 d4_94 (z := (159 : Int32)) rfl ?_
                    refine OG.goto Xloop1 d4_97 (pc' := 102) (by decide) ?_
                    refine OG.istore Xloop1 d4_102 (l' := #[.val (.ref a), .val (.int n), .val (.int (i + (1 : Int32))), .val (.int a'), .val (.int (2 : Int32)), .val (.int (128 : Int32)), .val (.int (159 : Int32)), sl7, sl8]) rfl ?_
                    refine OG.goto Xloop1 d4_104 (pc' := 156) (by decide) ?_
                    refine OG.iloadN Xloop1 d4_156 rfl ?_
                    refine OG.iloadN Xloop1 d4_157 rfl ?_
                    refine OG.isub Xloop1 d4_158 ?_
                    refine OG.iload Xloop1 d4_159 rfl ?_
                    refine OG.icmp_ge Xloop1 d4_161 (pc' := 166) (by decide) ?_ ?_
                    · intro c161
                      refine OG.aloadN Xloop1 d4_166 rfl rfl ?_
                      refine OG.iloadN Xloop1 d4_167 rfl ?_
                      refine OG.baload Xloop1 A_a (by have z := (not_congr (own_sub hn hi1 h4 (by omega) (K := 2) rfl)).mp c161; rw [hi1]; omega) d4_168 ?_
                      refine OG.sipush Xloop1 d4_169 (z := (255 : Int32)) rfl ?_
                      refine OG.iand Xloop1 d4_172 ?_
                      refine OG.istoreV Xloop1 d4_173 (l' := fun z => #[.val (.ref a), .val (.int n), .val (.int (i + (1 : Int32))), .val (.int a'), .val (.int (2 : Int32)), .val (.int (128 : Int32)), .val (.int (159 : Int32)), .val (.int z), sl8]) (fun _ => (XS.store1 (o := sl7) rfl hsl7 rfl)) ?_
                      intro b1 hb1
                      have hb1v := own_by hi1 hb1
                      refine OG.iload Xloop1 d4_175 rfl ?_
                      refine OG.iload Xloop1 d4_177 rfl ?_
                      refine OG.icmp_lt Xloop1 d4_179 (pc' := 189) (by decide) ?_ ?_
                      · intro c179
                        refine OG.iconst Xloop1 d4_189 (z := (0 : Int32)) rfl ?_
                        exact OG.retN Xloop1 (t := .boolean) d4_190 (by simp) (by decide) (by decide) ⟨by rw [← hv, own_gF hltM (show SPr (bb f P) (bb f (P + 1)) (bb f (P + 2)) (bb f (P + 3)) ((M : Int) - P) (-1) from by have z0 := (Int32.lt_iff_toInt_lt).mp c4; have z1 := (not_congr (own_ltL (K := 128) rfl)).mp c22; have z2 := (not_congr (own_ltL (K := 194) rfl)).mp c42; have z3 := (not_congr (own_ltL (K := 224) rfl)).mp c51; have z4 := (own_ltL (K := 240) rfl).mp c64; have z5 := (not_congr (own_eqL (K := 224) rfl)).mp c74; have z6 := (own_eqL (K := 237) rfl).mp c91; have z7 := (not_congr (own_sub hn hi1 h4 (by omega) (K := 2) rfl)).mp c161; have z8 := (own_ltL (K := 128) rfl).mp c179; have hr0 := own_bR f P; have hr1 := own_bR f (P + 1); have hr2 := own_bR f (P + 2); have hr3 := own_bR f (P + 3); unfold SPr; omega) (by decide)]; rfl, rfl⟩
                      · intro c179
                        refine OG.iload Xloop1 d4_182 rfl ?_
                        refine OG.iload Xloop1 d4_184 rfl ?_
                        refine OG.icmp_le Xloop1 d4_186 (pc' := 191) (by decide) ?_ ?_
                        · intro c186
                          refine OG.iconst Xloop1 d4_191 (z := (1 : Int32)) rfl ?_
                          refine OG.istore Xloop1 d4_192 (l' := #[.val (.ref a), .val (.int n), .val (.int (i + (1 : Int32))), .val (.int a'), .val (.int (2 : Int32)), .val (.int (128 : Int32)), .val (.int (159 : Int32)), .val (.int b1), .val (.int (1 : Int32))]) (XS.store1 (o := sl8) rfl hsl8 rfl) ?_
                          refine OG.iload Xloop1 d4_194 rfl ?_
                          refine OG.iload Xloop1 d4_196 rfl ?_
                          refine OG.icmp_ge_f Xloop1 d4_198 (by decide) ?_
                          refine OG.aloadN Xloop1 d4_201 rfl rfl ?_
                          refine OG.iloadN Xloop1 d4_202 rfl ?_
                          refine OG.iload Xloop1 d4_203 rfl ?_
                          refine OG.iadd Xloop1 d4_205 ?_
                          refine OG.baload Xloop1 A_a (by have z := (not_congr (own_sub hn hi1 h4 (by omega) (K := 2) rfl)).mp c161; rw [hi2]; omega) d4_206 ?_
                          refine OG.sipush Xloop1 d4_207 (z := (192 : Int32)) rfl ?_
                          refine OG.iand Xloop1 d4_210 ?_
                          refine OG.sipush Xloop1 d4_211 (z := (128 : Int32)) rfl ?_
                          refine OG.icmp_eq Xloop1 d4_214 (pc' := 219) (by decide) ?_ ?_
                          · intro c214
                            refine OG.iinc Xloop1 d4_219 rfl (z := (1 : Int32)) rfl (l' := #[.val (.ref a), .val (.int n), .val (.int (i + (1 : Int32))), .val (.int a'), .val (.int (2 : Int32)), .val (.int (128 : Int32)), .val (.int (159 : Int32)), .val (.int b1), .val (.int ((1 : Int32) + (1 : Int32)))]) rfl ?_
                            refine OG.goto Xloop1 d4_222 (pc' := 194) (by decide) ?_
                            refine OG.iload Xloop1 d4_194 rfl ?_
                            refine OG.iload Xloop1 d4_196 rfl ?_
                            refine OG.icmp_ge_t Xloop1 d4_198 (pc' := 225) (by decide) (by decide) ?_
                            refine OG.iloadN Xloop1 d4_225 rfl ?_
                            refine OG.iload Xloop1 d4_226 rfl ?_
                            refine OG.iadd Xloop1 d4_228 ?_
                            refine OG.istoreN Xloop1 d4_229 (l' := #[.val (.ref a), .val (.int n), .val (.int ((i + (1 : Int32)) + (2 : Int32))), .val (.int a'), .val (.int (2 : Int32)), .val (.int (128 : Int32)), .val (.int (159 : Int32)), .val (.int b1), .val (.int ((1 : Int32) + (1 : Int32)))]) rfl ?_
                            refine OG.goto Xloop1 d4_230 (pc' := 2) (by decide) ?_
                            exact ih Tloop1 ((i + (1 : Int32)) + (2 : Int32)) (.val (.int a')) (.val (.int (2 : Int32))) (.val (.int (128 : Int32))) (.val (.int (159 : Int32))) (.val (.int b1)) (.val (.int ((1 : Int32) + (1 : Int32)))) Xloop1 (by have e := (own_add (k := 2) (K := 2) hi1 rfl (by omega) (by decide)); have z4 := Int32.lt_iff_toInt_lt.mp c4; omega) (Or.inr ⟨_, rfl, rfl⟩) (Or.inr ⟨_, rfl, rfl⟩) (Or.inr ⟨_, rfl, rfl⟩) (Or.inr ⟨_, rfl, rfl⟩) (Or.inr ⟨_, rfl, rfl⟩) (Or.inr ⟨_, rfl, rfl⟩) (by have e := (own_add (k := 2) (K := 2) hi1 rfl (by omega) (by decide)); have z4 := Int32.lt_iff_toInt_lt.mp c4; have r := own_rng (show SPr (bb f P) (bb f (P + 1)) (bb f (P + 2)) (bb f (P + 3)) ((M : Int) - P) (3) from by have z0 := (Int32.lt_iff_toInt_lt).mp c4; have z1 := (not_congr (own_ltL (K := 128) rfl)).mp c22; have z2 := (not_congr (own_ltL (K := 194) rfl)).mp c42; have z3 := (not_congr (own_ltL (K := 224) rfl)).mp c51; have z4 := (own_ltL (K := 240) rfl).mp c64; have z5 := (not_congr (own_eqL (K := 224) rfl)).mp c74; have z6 := (own_eqL (K := 237) rfl).mp c91; have z7 := (not_congr (own_sub hn hi1 h4 (by omega) (K := 2) rfl)).mp c161; have z8 := (not_congr (own_ltL (K := 128) rfl)).mp c179; have z9 := (not_congr (own_Llt (K := 159) rfl)).mp c186; have z10 := (own_r192 hi2).mp c214; have hr0 := own_bR f P; have hr1 := own_bR f (P + 1); have hr2 := own_bR f (P + 2); have hr3 := own_bR f (P + 3); unfold SPr; omega) (by omega) (by decide); omega) (by rw [own_nat (own_add (k := 2) (K := 2) hi1 rfl (by omega) (by decide)), ← hv, own_gS hltM (show SPr (bb f P) (bb f (P + 1)) (bb f (P + 2)) (bb f (P + 3)) ((M : Int) - P) (3) from by have z0 := (Int32.lt_iff_toInt_lt).mp c4; have z1 := (not_congr (own_ltL (K := 128) rfl)).mp c22; have z2 := (not_congr (own_ltL (K := 194) rfl)).mp c42; have z3 := (not_congr (own_ltL (K := 224) rfl)).mp c51; have z4 := (own_ltL (K := 240) rfl).mp c64; have z5 := (not_congr (own_eqL (K := 224) rfl)).mp c74; have z6 := (own_eqL (K := 237) rfl).mp c91; have z7 := (not_congr (own_sub hn hi1 h4 (by omega) (K := 2) rfl)).mp c161; have z8 := (not_congr (own_ltL (K := 128) rfl)).mp c179; have z9 := (not_congr (own_Llt (K := 159) rfl)).mp c186; have z10 := (own_r192 hi2).mp c214; have hr0 := own_bR f P; have hr1 := own_bR f (P + 1); have hr2 := own_bR f (P + 2); have hr3 := own_bR f (P + 3); unfold SPr; omega) (by decide)]; rfl)
                          · intro c214
                            refine OG.iconst Xloop1 d4_217 (z := (0 : Int32)) rfl ?_
                            exact OG.retN Xloop1 (t := .boolean) d4_218 (by simp) (by decide) (by decide) ⟨by rw [← hv, own_gF hltM (show SPr (bb f P) (bb f (P + 1)) (bb f (P + 2)) (bb f (P + 3)) ((M : Int) - P) (-1) from by have z0 := (Int32.lt_iff_toInt_lt).mp c4; have z1 := (not_congr (own_ltL (K := 128) rfl)).mp c22; have z2 := (not_congr (own_ltL (K := 194) rfl)).mp c42; have z3 := (not_congr (own_ltL (K := 224) rfl)).mp c51; have z4 := (own_ltL (K := 240) rfl).mp c64; have z5 := (not_congr (own_eqL (K := 224) rfl)).mp c74; have z6 := (own_eqL (K := 237) rfl).mp c91; have z7 := (not_congr (own_sub hn hi1 h4 (by omega) (K := 2) rfl)).mp c161; have z8 := (not_congr (own_ltL (K := 128) rfl)).mp c179; have z9 := (not_congr (own_Llt (K := 159) rfl)).mp c186; have z10 := (not_congr (own_r192 hi2)).mp c214; have hr0 := own_bR f P; have hr1 := own_bR f (P + 1); have hr2 := own_bR f (P + 2); have hr3 := own_bR f (P + 3); unfold SPr; omega) (by decide)]; rfl, rfl⟩
                        · intro c186
                          refine OG.iconst Xloop1 d4_189 (z := (0 : Int32)) rfl ?_
                          exact OG.retN Xloop1 (t := .boolean) d4_190 (by simp) (by decide) (by decide) ⟨by rw [← hv, own_gF hltM (show SPr (bb f P) (bb f (P + 1)) (bb f (P + 2)) (bb f (P + 3)) ((M : Int) - P) (-1) from by have z0 := (Int32.lt_iff_toInt_lt).mp c4; have z1 := (not_congr (own_ltL (K := 128) rfl)).mp c22; have z2 := (not_congr (own_ltL (K := 194) rfl)).mp c42; have z3 := (not_congr (own_ltL (K := 224) rfl)).mp c51; have z4 := (own_ltL (K := 240) rfl).mp c64; have z5 := (not_congr (own_eqL (K := 224) rfl)).mp c74; have z6 := (own_eqL (K := 237) rfl).mp c91; have z7 := (not_congr (own_sub hn hi1 h4 (by omega) (K := 2) rfl)).mp c161; have z8 := (not_congr (own_ltL (K := 128) rfl)).mp c179; have z9 := (own_Llt (K := 159) rfl).mp c186; have hr0 := own_bR f P; have hr1 := own_bR f (P + 1); have hr2 := own_bR f (P + 2); have hr3 := own_bR f (P + 3); unfold SPr; omega) (by decide)]; rfl, rfl⟩
                    · intro c161
                      refine OG.iconst Xloop1 d4_164 (z := (0 : Int32)) rfl ?_
                      exact OG.retN Xloop1 (t := .boolean) d4_165 (by simp) (by decide) (by decide) ⟨by rw [← hv, own_gF hltM (show SPr (bb f P) (bb f (P + 1)) (bb f (P + 2)) (bb f (P + 3)) ((M : Int) - P) (-1) from by have z0 := (Int32.lt_iff_toInt_lt).mp c4; have z1 := (not_congr (own_ltL (K := 128) rfl)).mp c22; have z2 := (not_congr (own_ltL (K := 194) rfl)).mp c42; have z3 := (not_congr (own_ltL (K := 224) rfl)).mp c51; have z4 := (own_ltL (K := 240) rfl).mp c64; have z5 := (not_congr (own_eqL (K := 224) rfl)).mp c74; have z6 := (own_eqL (K := 237) rfl).mp c91; have z7 := (own_sub hn hi1 h4 (by omega) (K := 2) rfl).mp c161; have hr0 := own_bR f P; have hr1 := own_bR f (P + 1); have hr2 := own_bR f (P + 2); have hr3 := own_bR f (P + 3); unfold SPr; omega) (by decide)]; rfl, rfl⟩
                · intro c74
                  refine OG.sipush Xloop1 d4_77 (z := (160 : Int32)) rfl ?_
                  refine OG.goto Xloop1 d4_80 (pc' := 85) (by decide) ?_
                  refine OG.istore Xloop1 d4_85 (l' := #[.val (.ref a), .val (.int n), .val (.int (i + (1 : Int32))), .val (.int a'), .val (.int (2 : Int32)), .val (.int (160 : Int32)), .val (.int (191 : Int32)), sl7, sl8]) rfl ?_
                  refine OG.iloadN Xloop1 d4_87 rfl ?_
                  refine OG.sipush Xloop1 d4_88 (z := (237 : Int32)) rfl ?_
                  refine OG.icmp_ne Xloop1 d4_91 (pc' := 100) (by decide) ?_ ?_
                  · intro c91
                    refine OG.iload Xloop1 d4_100 rfl ?_
                    refine OG.istore Xloop1 d4_102 (l' := #[.val (.ref a), .val (.int n), .val (.int (i + (1 : Int32))), .val (.int a'), .val (.int (2 : Int32)), .val (.int (160 : Int32)), .val (.int (191 : Int32)), sl7, sl8]) rfl ?_
                    refine OG.goto Xloop1 d4_104 (pc' := 156) (by decide) ?_
                    refine OG.iloadN Xloop1 d4_156 rfl ?_
                    refine OG.iloadN Xloop1 d4_157 rfl ?_
                    refine OG.isub Xloop1 d4_158 ?_
                    refine OG.iload Xloop1 d4_159 rfl ?_
                    refine OG.icmp_ge Xloop1 d4_161 (pc' := 166) (by decide) ?_ ?_
                    · intro c161
                      refine OG.aloadN Xloop1 d4_166 rfl rfl ?_
                      refine OG.iloadN Xloop1 d4_167 rfl ?_
                      refine OG.baload Xloop1 A_a (by have z := (not_congr (own_sub hn hi1 h4 (by omega) (K := 2) rfl)).mp c161; rw [hi1]; omega) d4_168 ?_
                      refine OG.sipush Xloop1 d4_169 (z := (255 : Int32)) rfl ?_
                      refine OG.iand Xloop1 d4_172 ?_
                      refine OG.istoreV Xloop1 d4_173 (l' := fun z => #[.val (.ref a), .val (.int n), .val (.int (i + (1 : Int32))), .val (.int a'), .val (.int (2 : Int32)), .val (.int (160 : Int32)), .val (.int (191 : Int32)), .val (.int z), sl8]) (fun _ => (XS.store1 (o := sl7) rfl hsl7 rfl)) ?_
                      intro b1 hb1
                      have hb1v := own_by hi1 hb1
                      refine OG.iload Xloop1 d4_175 rfl ?_
                      refine OG.iload Xloop1 d4_177 rfl ?_
                      refine OG.icmp_lt Xloop1 d4_179 (pc' := 189) (by decide) ?_ ?_
                      · intro c179
                        refine OG.iconst Xloop1 d4_189 (z := (0 : Int32)) rfl ?_
                        exact OG.retN Xloop1 (t := .boolean) d4_190 (by simp) (by decide) (by decide) ⟨by rw [← hv, own_gF hltM (show SPr (bb f P) (bb f (P + 1)) (bb f (P + 2)) (bb f (P + 3)) ((M : Int) - P) (-1) from by have z0 := (Int32.lt_iff_toInt_lt).mp c4; have z1 := (not_congr (own_ltL (K := 128) rfl)).mp c22; have z2 := (not_congr (own_ltL (K := 194) rfl)).mp c42; have z3 := (not_congr (own_ltL (K := 224) rfl)).mp c51; have z4 := (own_ltL (K := 240) rfl).mp c64; have z5 := (own_eqL (K := 224) rfl).mp c74; have z6 := (not_congr (own_eqL (K := 237) rfl)).mp c91; have z7 := (not_congr (own_sub hn hi1 h4 (by omega) (K := 2) rfl)).mp c161; have z8 := (own_ltL (K := 160) rfl).mp c179; have hr0 := own_bR f P; have hr1 := own_bR f (P + 1); have hr2 := own_bR f (P + 2); have hr3 := own_bR f (P + 3); unfold SPr; omega) (by decide)]; rfl, rfl⟩
                      · intro c179
                        refine OG.iload Xloop1 d4_182 rfl ?_
                        refine OG.iload Xloop1 d4_184 rfl ?_
                        refine OG.icmp_le Xloop1 d4_186 (pc' := 191) (by decide) ?_ ?_
                        · intro c186
                          refine OG.iconst Xloop1 d4_191 (z := (1 : Int32)) rfl ?_
                          refine OG.istore Xloop1 d4_192 (l' := #[.val (.ref a), .val (.int n), .val (.int (i + (1 : Int32))), .val (.int a'), .val (.int (2 : Int32)), .val (.int (160 : Int32)), .val (.int (191 : Int32)), .val (.int b1), .val (.int (1 : Int32))]) (XS.store1 (o := sl8) rfl hsl8 rfl) ?_
                          refine OG.iload Xloop1 d4_194 rfl ?_
                          refine OG.iload Xloop1 d4_196 rfl ?_
                          refine OG.icmp_ge_f Xloop1 d4_198 (by decide) ?_
                          refine OG.aloadN Xloop1 d4_201 rfl rfl ?_
                          refine OG.iloadN Xloop1 d4_202 rfl ?_
                          refine OG.iload Xloop1 d4_203 rfl ?_
                          refine OG.iadd Xloop1 d4_205 ?_
                          refine OG.baload Xloop1 A_a (by have z := (not_congr (own_sub hn hi1 h4 (by omega) (K := 2) rfl)).mp c161; rw [hi2]; omega) d4_206 ?_
                          refine OG.sipush Xloop1 d4_207 (z := (192 : Int32)) rfl ?_
                          refine OG.iand Xloop1 d4_210 ?_
                          refine OG.sipush Xloop1 d4_211 (z := (128 : Int32)) rfl ?_
                          refine OG.icmp_eq Xloop1 d4_214 (pc' := 219) (by decide) ?_ ?_
                          · intro c214
                            refine OG.iinc Xloop1 d4_219 rfl (z := (1 : Int32)) rfl (l' := #[.val (.ref a), .val (.int n), .val (.int (i + (1 : Int32))), .val (.int a'), .val (.int (2 : Int32)), .val (.int (160 : Int32)), .val (.int (191 : Int32)), .val (.int b1), .val (.int ((1 : Int32) + (1 : Int32)))]) rfl ?_
                            refine OG.goto Xloop1 d4_222 (pc' := 194) (by decide) ?_
                            refine OG.iload Xloop1 d4_194 rfl ?_
                            refine OG.iload Xloop1 d4_196 rfl ?_
                            refine OG.icmp_ge_t Xloop1 d4_198 (pc' := 225) (by decide) (by decide) ?_
                            refine OG.iloadN Xloop1 d4_225 rfl ?_
                            refine OG.iload Xloop1 d4_226 rfl ?_
                            refine OG.iadd Xloop1 d4_228 ?_
                            refine OG.istoreN Xloop1 d4_229 (l' := #[.val (.ref a), .val (.int n), .val (.int ((i + (1 : Int32)) + (2 : Int32))), .val (.int a'), .val (.int (2 : Int32)), .val (.int (160 : Int32)), .val (.int (191 : Int32)), .val (.int b1), .val (.int ((1 : Int32) + (1 : Int32)))]) rfl ?_
                            refine OG.goto Xloop1 d4_230 (pc' := 2) (by decide) ?_
                            exact ih Tloop1 ((i + (1 : Int32)) + (2 : Int32)) (.val (.int a')) (.val (.int (2 : Int32))) (.val (.int (160 : Int32))) (.val (.int (191 : Int32))) (.val (.int b1)) (.val (.int ((1 : Int32) + (1 : Int32)))) Xloop1 (by have e := (own_add (k := 2) (K := 2) hi1 rfl (by omega) (by decide)); have z4 := Int32.lt_iff_toInt_lt.mp c4; omega) (Or.inr ⟨_, rfl, rfl⟩) (Or.inr ⟨_, rfl, rfl⟩) (Or.inr ⟨_, rfl, rfl⟩) (Or.inr ⟨_, rfl, rfl⟩) (Or.inr ⟨_, rfl, rfl⟩) (Or.inr ⟨_, rfl, rfl⟩) (by have e := (own_add (k := 2) (K := 2) hi1 rfl (by omega) (by decide)); have z4 := Int32.lt_iff_toInt_lt.mp c4; have r := own_rng (show SPr (bb f P) (bb f (P + 1)) (bb f (P + 2)) (bb f (P + 3)) ((M : Int) - P) (3) from by have z0 := (Int32.lt_iff_toInt_lt).mp c4; have z1 := (not_congr (own_ltL (K := 128) rfl)).mp c22; have z2 := (not_congr (own_ltL (K := 194) rfl)).mp c42; have z3 := (not_congr (own_ltL (K := 224) rfl)).mp c51; have z4 := (own_ltL (K := 240) rfl).mp c64; have z5 := (own_eqL (K := 224) rfl).mp c74; have z6 := (not_congr (own_eqL (K := 237) rfl)).mp c91; have z7 := (not_congr (own_sub hn hi1 h4 (by omega) (K := 2) rfl)).mp c161; have z8 := (not_congr (own_ltL (K := 160) rfl)).mp c179; have z9 := (not_congr (own_Llt (K := 191) rfl)).mp c186; have z10 := (own_r192 hi2).mp c214; have hr0 := own_bR f P; have hr1 := own_bR f (P + 1); have hr2 := own_bR f (P + 2); have hr3 := own_bR f (P + 3); unfold SPr; omega) (by omega) (by decide); omega) (by rw [own_nat (own_add (k := 2) (K := 2) hi1 rfl (by omega) (by decide)), ← hv, own_gS hltM (show SPr (bb f P) (bb f (P + 1)) (bb f (P + 2)) (bb f (P + 3)) ((M : Int) - P) (3) from by have z0 := (Int32.lt_iff_toInt_lt).mp c4; have z1 := (not_congr (own_ltL (K := 128) rfl)).mp c22; have z2 := (not_congr (own_ltL (K := 194) rfl)).mp c42; have z3 := (not_congr (own_ltL (K := 224) rfl)).mp c51; have z4 := (own_ltL (K := 240) rfl).mp c64; have z5 := (own_eqL (K := 224) rfl).mp c74; have z6 := (not_congr (own_eqL (K := 237) rfl)).mp c91; have z7 := (not_congr (own_sub hn hi1 h4 (by omega) (K := 2) rfl)).mp c161; have z8 := (not_congr (own_ltL (K := 160) rfl)).mp c179; have z9 := (not_congr (own_Llt (K := 191) rfl)).mp c186; have z10 := (own_r192 hi2).mp c214; have hr0 := own_bR f P; have hr1 := own_bR f (P + 1); have hr2 := own_bR f (P + 2); have hr3 := own_bR f (P + 3); unfold SPr; omega) (by decide)]; rfl)
                          · intro c214
                            refine OG.iconst Xloop1 d4_217 (z := (0 : Int32)) rfl ?_
                            exact OG.retN Xloop1 (t := .boolean) d4_218 (by simp) (by decide) (by decide) ⟨by rw [← hv, own_gF hltM (show SPr (bb f P) (bb f (P + 1)) (bb f (P + 2)) (bb f (P + 3)) ((M : Int) - P) (-1) from by have z0 := (Int32.lt_iff_toInt_lt).mp c4; have z1 := (not_congr (own_ltL (K := 128) rfl)).mp c22; have z2 := (not_congr (own_ltL (K := 194) rfl)).mp c42; have z3 := (not_congr (own_ltL (K := 224) rfl)).mp c51; have z4 := (own_ltL (K := 240) rfl).mp c64; have z5 := (own_eqL (K := 224) rfl).mp c74; have z6 := (not_congr (own_eqL (K := 237) rfl)).mp c91; have z7 := (not_congr (own_sub hn hi1 h4 (by omega) (K := 2) rfl)).mp c161; have z8 := (not_congr (own_ltL (K := 160) rfl)).mp c179; have z9 := (not_congr (own_Llt (K := 191) rfl)).mp c186; have z10 := (not_congr (own_r192 hi2)).mp c214; have hr0 := own_bR f P; have hr1 := own_bR f (P + 1); have hr2 := own_bR f (P + 2); have hr3 := own_bR f (P + 3); unfold SPr; omega) (by decide)]; rfl, rfl⟩
                        · intro c186
                          refine OG.iconst Xloop1 d4_189 (z := (0 : Int32)) rfl ?_
                          exact OG.retN Xloop1 (t := .boolean) d4_190 (by simp) (by decide) (by decide) ⟨by rw [← hv, own_gF hltM (show SPr (bb f P) (bb f (P + 1)) (bb f (P + 2)) (bb f (P + 3)) ((M : Int) - P) (-1) from by have z0 := (Int32.lt_iff_toInt_lt).mp c4; have z1 := (not_congr (own_ltL (K := 128) rfl)).mp c22; have z2 := (not_congr (own_ltL (K := 194) rfl)).mp c42; have z3 := (not_congr (own_ltL (K := 224) rfl)).mp c51; have z4 := (own_ltL (K := 240) rfl).mp c64; have z5 := (own_eqL (K := 224) rfl).mp c74; have z6 := (not_congr (own_eqL (K := 237) rfl)).mp c91; have z7 := (not_congr (own_sub hn hi1 h4 (by omega) (K := 2) rfl)).mp c161; have z8 := (not_congr (own_ltL (K := 160) rfl)).mp c179; have z9 := (own_Llt (K := 191) rfl).mp c186; have hr0 := own_bR f P; have hr1 := own_bR f (P + 1); have hr2 := own_bR f (P + 2); have hr3 := own_bR f (P + 3); unfold SPr; omega) (by decide)]; rfl, rfl⟩
                    · intro c161
                      refine OG.iconst Xloop1 d4_164 (z := (0 : Int32)) rfl ?_
                      exact OG.retN Xloop1 (t := .boolean) d4_165 (by simp) (by decide) (by decide) ⟨by rw [← hv, own_gF hltM (show SPr (bb f P) (bb f (P + 1)) (bb f (P + 2)) (bb f (P + 3)) ((M : Int) - P) (-1) from by have z0 := (Int32.lt_iff_toInt_lt).mp c4; have z1 := (not_congr (own_ltL (K := 128) rfl)).mp c22; have z2 := (not_congr (own_ltL (K := 194) rfl)).mp c42; have z3 := (not_congr (own_ltL (K := 224) rfl)).mp c51; have z4 := (own_ltL (K := 240) rfl).mp c64; have z5 := (own_eqL (K := 224) rfl).mp c74; have z6 := (not_congr (own_eqL (K := 237) rfl)).mp c91; have z7 := (own_sub hn hi1 h4 (by omega) (K := 2) rfl).mp c161; have hr0 := own_bR f P; have hr1 := own_bR f (P + 1); have hr2 := own_bR f (P + 2); have hr3 := own_bR f (P + 3); unfold SPr; omega) (by decide)]; rfl, rfl⟩
                  · intro c91
                    refine OG.sipush Xloop1 d4_94 (z := (159 : Int32)) rfl ?_
                    refine OG.goto Xloop1 d4_97 (pc' := 102) (by decide) ?_
                    refine OG.istore Xloop1 d4_102 (l' := #[.val (.ref a), .val (.int n), .val (.int (i + (1 : Int32))), .val (.int a'), .val (.int (2 : Int32)), .val (.int (160 : Int32)), .val (.int (159 : Int32)), sl7, sl8]) rfl ?_
                    refine OG.goto Xloop1 d4_104 (pc' := 156) (by decide) ?_
                    refine OG.iloadN Xloop1 d4_156 rfl ?_
                    refine OG.iloadN Xloop1 d4_157 rfl ?_
                    refine OG.isub Xloop1 d4_158 ?_
                    refine OG.iload Xloop1 d4_159 rfl ?_
                    refine OG.icmp_ge Xloop1 d4_161 (pc' := 166) (by decide) ?_ ?_
                    · intro c161
                      refine OG.aloadN Xloop1 d4_166 rfl rfl ?_
                      refine OG.iloadN Xloop1 d4_167 rfl ?_
                      refine OG.baload Xloop1 A_a (by have z := (not_congr (own_sub hn hi1 h4 (by omega) (K := 2) rfl)).mp c161; rw [hi1]; omega) d4_168 ?_
                      refine OG.sipush Xloop1 d4_169 (z := (255 : Int32)) rfl ?_
                      refine OG.iand Xloop1 d4_172 ?_
                      refine OG.istoreV Xloop1 d4_173 (l' := fun z => #[.val (.ref a), .val (.int n), .val (.int (i + (1 : Int32))), .val (.int a'), .val (.int (2 : Int32)), .val (.int (160 : Int32)), .val (.int (159 : Int32)), .val (.int z), sl8]) (fun _ => (XS.store1 (o := sl7) rfl hsl7 rfl)) ?_
                      intro b1 hb1
                      have hb1v := own_by hi1 hb1
                      refine OG.iload Xloop1 d4_175 rfl ?_
                      refine OG.iload Xloop1 d4_177 rfl ?_
                      refine OG.icmp_lt Xloop1 d4_179 (pc' := 189) (by decide) ?_ ?_
                      · intro c179
                        refine OG.iconst Xloop1 d4_189 (z := (0 : Int32)) rfl ?_
                        exact OG.retN Xloop1 (t := .boolean) d4_190 (by simp) (by decide) (by decide) ⟨by rw [← hv, own_gF hltM (show SPr (bb f P) (bb f (P + 1)) (bb f (P + 2)) (bb f (P + 3)) ((M : Int) - P) (-1) from by have z0 := (Int32.lt_iff_toInt_lt).mp c4; have z1 := (not_congr (own_ltL (K := 128) rfl)).mp c22; have z2 := (not_congr (own_ltL (K := 194) rfl)).mp c42; have z3 := (not_congr (own_ltL (K := 224) rfl)).mp c51; have z4 := (own_ltL (K := 240) rfl).mp c64; have z5 := (own_eqL (K := 224) rfl).mp c74; have z6 := (own_eqL (K := 237) rfl).mp c91; have z7 := (not_congr (own_sub hn hi1 h4 (by omega) (K := 2) rfl)).mp c161; have z8 := (own_ltL (K := 160) rfl).mp c179; have hr0 := own_bR f P; have hr1 := own_bR f (P + 1); have hr2 := own_bR f (P + 2); have hr3 := own_bR f (P + 3); unfold SPr; omega) (by decide)]; rfl, rfl⟩
                      · intro c179
                        refine OG.iload Xloop1 d4_182 rfl ?_
                        refine OG.iload Xloop1 d4_184 rfl ?_
                        refine OG.icmp_le Xloop1 d4_186 (pc' := 191) (by decide) ?_ ?_
                        · intro c186
                          refine OG.iconst Xloop1 d4_191 (z := (1 : Int32)) rfl ?_
                          refine OG.istore Xloop1 d4_192 (l' := #[.val (.ref a), .val (.int n), .val (.int (i + (1 : Int32))), .val (.int a'), .val (.int (2 : Int32)), .val (.int (160 : Int32)), .val (.int (159 : Int32)), .val (.int b1), .val (.int (1 : Int32))]) (XS.store1 (o := sl8) rfl hsl8 rfl) ?_
                          refine OG.iload Xloop1 d4_194 rfl ?_
                          refine OG.iload Xloop1 d4_196 rfl ?_
                          refine OG.icmp_ge_f Xloop1 d4_198 (by decide) ?_
                          refine OG.aloadN Xloop1 d4_201 rfl rfl ?_
                          refine OG.iloadN Xloop1 d4_202 rfl ?_
                          refine OG.iload Xloop1 d4_203 rfl ?_
                          refine OG.iadd Xloop1 d4_205 ?_
                          refine OG.baload Xloop1 A_a (by have z := (not_congr (own_sub hn hi1 h4 (by omega) (K := 2) rfl)).mp c161; rw [hi2]; omega) d4_206 ?_
                          refine OG.sipush Xloop1 d4_207 (z := (192 : Int32)) rfl ?_
                          refine OG.iand Xloop1 d4_210 ?_
                          refine OG.sipush Xloop1 d4_211 (z := (128 : Int32)) rfl ?_
                          refine OG.icmp_eq Xloop1 d4_214 (pc' := 219) (by decide) ?_ ?_
                          · intro c214
                            refine OG.iinc Xloop1 d4_219 rfl (z := (1 : Int32)) rfl (l' := #[.val (.ref a), .val (.int n), .val (.int (i + (1 : Int32))), .val (.int a'), .val (.int (2 : Int32)), .val (.int (160 : Int32)), .val (.int (159 : Int32)), .val (.int b1), .val (.int ((1 : Int32) + (1 : Int32)))]) rfl ?_
                            refine OG.goto Xloop1 d4_222 (pc' := 194) (by decide) ?_
                            refine OG.iload Xloop1 d4_194 rfl ?_
                            refine OG.iload Xloop1 d4_196 rfl ?_
                            refine OG.icmp_ge_t Xloop1 d4_198 (pc' := 225) (by decide) (by decide) ?_
                            refine OG.iloadN Xloop1 d4_225 rfl ?_
                            refine OG.iload Xloop1 d4_226 rfl ?_
                            refine OG.iadd Xloop1 d4_228 ?_
                            refine OG.istoreN Xloop1 d4_229 (l' := #[.val (.ref a), .val (.int n), .val (.int ((i + (1 : Int32)) + (2 : Int32))), .val (.int a'), .val (.int (2 : Int32)), .val (.int (160 : Int32)), .val (.int (159 : Int32)), .val (.int b1), .val (.int ((1 : Int32) + (1 : Int32)))]) rfl ?_
                            refine OG.goto Xloop1 d4_230 (pc' := 2) (by decide) ?_
                            exact ih Tloop1 ((i + (1 : Int32)) + (2 : Int32)) (.val (.int a')) (.val (.int (2 : Int32))) (.val (.int (160 : Int32))) (.val (.int (159 : Int32))) (.val (.int b1)) (.val (.int ((1 : Int32) + (1 : Int32)))) Xloop1 (by have e := (own_add (k := 2) (K := 2) hi1 rfl (by omega) (by decide)); have z4 := Int32.lt_iff_toInt_lt.mp c4; omega) (Or.inr ⟨_, rfl, rfl⟩) (Or.inr ⟨_, rfl, rfl⟩) (Or.inr ⟨_, rfl, rfl⟩) (Or.inr ⟨_, rfl, rfl⟩) (Or.inr ⟨_, rfl, rfl⟩) (Or.inr ⟨_, rfl, rfl⟩) (by have e := (own_add (k := 2) (K := 2) hi1 rfl (by omega) (by decide)); have z4 := Int32.lt_iff_toInt_lt.mp c4; have r := own_rng (show SPr (bb f P) (bb f (P + 1)) (bb f (P + 2)) (bb f (P + 3)) ((M : Int) - P) (3) from by have z0 := (Int32.lt_iff_toInt_lt).mp c4; have z1 := (not_congr (own_ltL (K := 128) rfl)).mp c22; have z2 := (not_congr (own_ltL (K := 194) rfl)).mp c42; have z3 := (not_congr (own_ltL (K := 224) rfl)).mp c51; have z4 := (own_ltL (K := 240) rfl).mp c64; have z5 := (own_eqL (K := 224) rfl).mp c74; have z6 := (own_eqL (K := 237) rfl).mp c91; have z7 := (not_congr (own_sub hn hi1 h4 (by omega) (K := 2) rfl)).mp c161; have z8 := (not_congr (own_ltL (K := 160) rfl)).mp c179; have z9 := (not_congr (own_Llt (K := 159) rfl)).mp c186; have z10 := (own_r192 hi2).mp c214; have hr0 := own_bR f P; have hr1 := own_bR f (P + 1); have hr2 := own_bR f (P + 2); have hr3 := own_bR f (P + 3); unfold SPr; omega) (by omega) (by decide); omega) (by rw [own_nat (own_add (k := 2) (K := 2) hi1 rfl (by omega) (by decide)), ← hv, own_gS hltM (show SPr (bb f P) (bb f (P + 1)) (bb f (P + 2)) (bb f (P + 3)) ((M : Int) - P) (3) from by have z0 := (Int32.lt_iff_toInt_lt).mp c4; have z1 := (not_congr (own_ltL (K := 128) rfl)).mp c22; have z2 := (not_congr (own_ltL (K := 194) rfl)).mp c42; have z3 := (not_congr (own_ltL (K := 224) rfl)).mp c51; have z4 := (own_ltL (K := 240) rfl).mp c64; have z5 := (own_eqL (K := 224) rfl).mp c74; have z6 := (own_eqL (K := 237) rfl).mp c91; have z7 := (not_congr (own_sub hn hi1 h4 (by omega) (K := 2) rfl)).mp c161; have z8 := (not_congr (own_ltL (K := 160) rfl)).mp c179; have z9 := (not_congr (own_Llt (K := 159) rfl)).mp c186; have z10 := (own_r192 hi2).mp c214; have hr0 := own_bR f P; have hr1 := own_bR f (P + 1); have hr2 := own_bR f (P + 2); have hr3 := own_bR f (P + 3); unfold SPr; omega) (by decide)]; rfl)
                          · intro c214
                            refine OG.iconst Xloop1 d4_217 (z := (0 : Int32)) rfl ?_
                            exact OG.retN Xloop1 (t := .boolean) d4_218 (by simp) (by decide) (by decide) ⟨by rw [← hv, own_gF hltM (show SPr (bb f P) (bb f (P + 1)) (bb f (P + 2)) (bb f (P + 3)) ((M : Int) - P) (-1) from by have z0 := (Int32.lt_iff_toInt_lt).mp c4; have z1 := (not_congr (own_ltL (K := 128) rfl)).mp c22; have z2 := (not_congr (own_ltL (K := 194) rfl)).mp c42; have z3 := (not_congr (own_ltL (K := 224) rfl)).mp c51; have z4 := (own_ltL (K := 240) rfl).mp c64; have z5 := (own_eqL (K := 224) rfl).mp c74; have z6 := (own_eqL (K := 237) rfl).mp c91; have z7 := (not_congr (own_sub hn hi1 h4 (by omega) (K := 2) rfl)).mp c161; have z8 := (not_congr (own_ltL (K := 160) rfl)).mp c179; have z9 := (not_congr (own_Llt (K := 159) rfl)).mp c186; have z10 := (not_congr (own_r192 hi2)).mp c214; have hr0 := own_bR f P; have hr1 := own_bR f (P + 1); have hr2 := own_bR f (P + 2); have hr3 := own_bR f (P + 3); unfold SPr; omega) (by decide)]; rfl, rfl⟩
                        · intro c186
                          refine OG.iconst Xloop1 d4_189 (z := (0 : Int32)) rfl ?_
                          exact OG.retN Xloop1 (t := .boolean) d4_190 (by simp) (by decide) (by decide) ⟨by rw [← hv, own_gF hltM (show SPr (bb f P) (bb f (P + 1)) (bb f (P + 2)) (bb f (P + 3)) ((M : Int) - P) (-1) from by have z0 := (Int32.lt_iff_toInt_lt).mp c4; have z1 := (not_congr (own_ltL (K := 128) rfl)).mp c22; have z2 := (not_congr (own_ltL (K := 194) rfl)).mp c42; have z3 := (not_congr (own_ltL (K := 224) rfl)).mp c51; have z4 := (own_ltL (K := 240) rfl).mp c64; have z5 := (own_eqL (K := 224) rfl).mp c74; have z6 := (own_eqL (K := 237) rfl).mp c91; have z7 := (not_congr (own_sub hn hi1 h4 (by omega) (K := 2) rfl)).mp c161; have z8 := (not_congr (own_ltL (K := 160) rfl)).mp c179; have z9 := (own_Llt (K := 159) rfl).mp c186; have hr0 := own_bR f P; have hr1 := own_bR f (P + 1); have hr2 := own_bR f (P + 2); have hr3 := own_bR f (P + 3); unfold SPr; omega) (by decide)]; rfl, rfl⟩
                    · intro c161
                      refine OG.iconst Xloop1 d4_164 (z := (0 : Int32)) rfl ?_
                      exact OG.retN Xloop1 (t := .boolean) d4_165 (by simp) (by decide) (by decide) ⟨by rw [← hv, own_gF hltM (show SPr (bb f P) (bb f (P + 1)) (bb f (P + 2)) (bb f (P + 3)) ((M : Int) - P) (-1) from by have z0 := (Int32.lt_iff_toInt_lt).mp c4; have z1 := (not_congr (own_ltL (K := 128) rfl)).mp c22; have z2 := (not_congr (own_ltL (K := 194) rfl)).mp c42; have z3 := (not_congr (own_ltL (K := 224) rfl)).mp c51; have z4 := (own_ltL (K := 240) rfl).mp c64; have z5 := (own_eqL (K := 224) rfl).mp c74; have z6 := (own_eqL (K := 237) rfl).mp c91; have z7 := (own_sub hn hi1 h4 (by omega) (K := 2) rfl).mp c161; have hr0 := own_bR f P; have hr1 := own_bR f (P + 1); have hr2 := own_bR f (P + 2); have hr3 := own_bR f (P + 3); unfold SPr; omega) (by decide)]; rfl, rfl⟩
            · intro c51
              refine OG.iconst Xloop1 d4_54 (z := (1 : Int32)) rfl ?_
              refine OG.istore Xloop1 d4_55 (l' := #[.val (.ref a), .val (.int n), .val (.int (i + (1 : Int32))), .val (.int a'), .val (.int (1 : Int32)), .val (.int (128 : Int32)), .val (.int (191 : Int32)), sl7, sl8]) (XS.store1 (o := sl4) rfl hsl4 rfl) ?_
              refine OG.goto Xloop1 d4_57 (pc' := 156) (by decide) ?_
              refine OG.iloadN Xloop1 d4_156 rfl ?_
              refine OG.iloadN Xloop1 d4_157 rfl ?_
              refine OG.isub Xloop1 d4_158 ?_
              refine OG.iload Xloop1 d4_159 rfl ?_
              refine OG.icmp_ge Xloop1 d4_161 (pc' := 166) (by decide) ?_ ?_
              · intro c161
                refine OG.aloadN Xloop1 d4_166 rfl rfl ?_
                refine OG.iloadN Xloop1 d4_167 rfl ?_
                refine OG.baload Xloop1 A_a (by have z := (not_congr (own_sub hn hi1 h4 (by omega) (K := 1) rfl)).mp c161; rw [hi1]; omega) d4_168 ?_
                refine OG.sipush Xloop1 d4_169 (z := (255 : Int32)) rfl ?_
                refine OG.iand Xloop1 d4_172 ?_
                refine OG.istoreV Xloop1 d4_173 (l' := fun z => #[.val (.ref a), .val (.int n), .val (.int (i + (1 : Int32))), .val (.int a'), .val (.int (1 : Int32)), .val (.int (128 : Int32)), .val (.int (191 : Int32)), .val (.int z), sl8]) (fun _ => (XS.store1 (o := sl7) rfl hsl7 rfl)) ?_
                intro b1 hb1
                have hb1v := own_by hi1 hb1
                refine OG.iload Xloop1 d4_175 rfl ?_
                refine OG.iload Xloop1 d4_177 rfl ?_
                refine OG.icmp_lt Xloop1 d4_179 (pc' := 189) (by decide) ?_ ?_
                · intro c179
                  refine OG.iconst Xloop1 d4_189 (z := (0 : Int32)) rfl ?_
                  exact OG.retN Xloop1 (t := .boolean) d4_190 (by simp) (by decide) (by decide) ⟨by rw [← hv, own_gF hltM (show SPr (bb f P) (bb f (P + 1)) (bb f (P + 2)) (bb f (P + 3)) ((M : Int) - P) (-1) from by have z0 := (Int32.lt_iff_toInt_lt).mp c4; have z1 := (not_congr (own_ltL (K := 128) rfl)).mp c22; have z2 := (not_congr (own_ltL (K := 194) rfl)).mp c42; have z3 := (own_ltL (K := 224) rfl).mp c51; have z4 := (not_congr (own_sub hn hi1 h4 (by omega) (K := 1) rfl)).mp c161; have z5 := (own_ltL (K := 128) rfl).mp c179; have hr0 := own_bR f P; have hr1 := own_bR f (P + 1); have hr2 := own_bR f (P + 2); have hr3 := own_bR f (P + 3); unfold SPr; omega) (by decide)]; rfl, rfl⟩
                · intro c179
                  refine OG.iload Xloop1 d4_182 rfl ?_
                  refine OG.iload Xloop1 d4_184 rfl ?_
                  refine OG.icmp_le Xloop1 d4_186 (pc' := 191) (by decide) ?_ ?_
                  · intro c186
                    refine OG.iconst Xloop1 d4_191 (z := (1 : Int32)) rfl ?_
                    refine OG.istore Xloop1 d4_192 (l' := #[.val (.ref a), .val (.int n), .val (.int (i + (1 : Int32))), .val (.int a'), .val (.int (1 : Int32)), .val (.int (128 : Int32)), .val (.int (191 : Int32)), .val (.int b1), .val (.int (1 : Int32))]) (XS.store1 (o := sl8) rfl hsl8 rfl) ?_
                    refine OG.iload Xloop1 d4_194 rfl ?_
                    refine OG.iload Xloop1 d4_196 rfl ?_
                    refine OG.icmp_ge_t Xloop1 d4_198 (pc' := 225) (by decide) (by decide) ?_
                    refine OG.iloadN Xloop1 d4_225 rfl ?_
                    refine OG.iload Xloop1 d4_226 rfl ?_
                    refine OG.iadd Xloop1 d4_228 ?_
                    refine OG.istoreN Xloop1 d4_229 (l' := #[.val (.ref a), .val (.int n), .val (.int ((i + (1 : Int32)) + (1 : Int32))), .val (.int a'), .val (.int (1 : Int32)), .val (.int (128 : Int32)), .val (.int (191 : Int32)), .val (.int b1), .val (.int (1 : Int32))]) rfl ?_
                    refine OG.goto Xloop1 d4_230 (pc' := 2) (by decide) ?_
                    exact ih Tloop1 ((i + (1 : Int32)) + (1 : Int32)) (.val (.int a')) (.val (.int (1 : Int32))) (.val (.int (128 : Int32))) (.val (.int (191 : Int32))) (.val (.int b1)) (.val (.int (1 : Int32))) Xloop1 (by have e := (own_add (k := 1) (K := 1) hi1 rfl (by omega) (by decide)); have z4 := Int32.lt_iff_toInt_lt.mp c4; omega) (Or.inr ⟨_, rfl, rfl⟩) (Or.inr ⟨_, rfl, rfl⟩) (Or.inr ⟨_, rfl, rfl⟩) (Or.inr ⟨_, rfl, rfl⟩) (Or.inr ⟨_, rfl, rfl⟩) (Or.inr ⟨_, rfl, rfl⟩) (by have e := (own_add (k := 1) (K := 1) hi1 rfl (by omega) (by decide)); have z4 := Int32.lt_iff_toInt_lt.mp c4; have r := own_rng (show SPr (bb f P) (bb f (P + 1)) (bb f (P + 2)) (bb f (P + 3)) ((M : Int) - P) (2) from by have z0 := (Int32.lt_iff_toInt_lt).mp c4; have z1 := (not_congr (own_ltL (K := 128) rfl)).mp c22; have z2 := (not_congr (own_ltL (K := 194) rfl)).mp c42; have z3 := (own_ltL (K := 224) rfl).mp c51; have z4 := (not_congr (own_sub hn hi1 h4 (by omega) (K := 1) rfl)).mp c161; have z5 := (not_congr (own_ltL (K := 128) rfl)).mp c179; have z6 := (not_congr (own_Llt (K := 191) rfl)).mp c186; have hr0 := own_bR f P; have hr1 := own_bR f (P + 1); have hr2 := own_bR f (P + 2); have hr3 := own_bR f (P + 3); unfold SPr; omega) (by omega) (by decide); omega) (by rw [own_nat (own_add (k := 1) (K := 1) hi1 rfl (by omega) (by decide)), ← hv, own_gS hltM (show SPr (bb f P) (bb f (P + 1)) (bb f (P + 2)) (bb f (P + 3)) ((M : Int) - P) (2) from by have z0 := (Int32.lt_iff_toInt_lt).mp c4; have z1 := (not_congr (own_ltL (K := 128) rfl)).mp c22; have z2 := (not_congr (own_ltL (K := 194) rfl)).mp c42; have z3 := (own_ltL (K := 224) rfl).mp c51; have z4 := (not_congr (own_sub hn hi1 h4 (by omega) (K := 1) rfl)).mp c161; have z5 := (not_congr (own_ltL (K := 128) rfl)).mp c179; have z6 := (not_congr (own_Llt (K := 191) rfl)).mp c186; have hr0 := own_bR f P; have hr1 := own_bR f (P + 1); have hr2 := own_bR f (P + 2); have hr3 := own_bR f (P + 3); unfold SPr; omega) (by decide)]; rfl)
                  · intro c186
                    refine OG.iconst Xloop1 d4_189 (z := (0 : Int32)) rfl ?_
                    exact OG.retN Xloop1 (t := .boolean) d4_190 (by simp) (by decide) (by decide) ⟨by rw [← hv, own_gF hltM (show SPr (bb f P) (bb f (P + 1)) (bb f (P + 2)) (bb f (P + 3)) ((M : Int) - P) (-1) from by have z0 := (Int32.lt_iff_toInt_lt).mp c4; have z1 := (not_congr (own_ltL (K := 128) rfl)).mp c22; have z2 := (not_congr (own_ltL (K := 194) rfl)).mp c42; have z3 := (own_ltL (K := 224) rfl).mp c51; have z4 := (not_congr (own_sub hn hi1 h4 (by omega) (K := 1) rfl)).mp c161; have z5 := (not_congr (own_ltL (K := 128) rfl)).mp c179; have z6 := (own_Llt (K := 191) rfl).mp c186; have hr0 := own_bR f P; have hr1 := own_bR f (P + 1); have hr2 := own_bR f (P + 2); have hr3 := own_bR f (P + 3); unfold SPr; omega) (by decide)]; rfl, rfl⟩
              · intro c161
                refine OG.iconst Xloop1 d4_164 (z := (0 : Int32)) rfl ?_
                exact OG.retN Xloop1 (t := .boolean) d4_165 (by simp) (by decide) (by decide) ⟨by rw [← hv, own_gF hltM (show SPr (bb f P) (bb f (P + 1)) (bb f (P + 2)) (bb f (P + 3)) ((M : Int) - P) (-1) from by have z0 := (Int32.lt_iff_toInt_lt).mp c4; have z1 := (not_congr (own_ltL (K := 128) rfl)).mp c22; have z2 := (not_congr (own_ltL (K := 194) rfl)).mp c42; have z3 := (own_ltL (K := 224) rfl).mp c51; have z4 := (own_sub hn hi1 h4 (by omega) (K := 1) rfl).mp c161; have hr0 := own_bR f P; have hr1 := own_bR f (P + 1); have hr2 := own_bR f (P + 2); have hr3 := own_bR f (P + 3); unfold SPr; omega) (by decide)]; rfl, rfl⟩
          · intro c42
            refine OG.iconst Xloop1 d4_45 (z := (0 : Int32)) rfl ?_
            exact OG.retN Xloop1 (t := .boolean) d4_46 (by simp) (by decide) (by decide) ⟨by rw [← hv, own_gF hltM (show SPr (bb f P) (bb f (P + 1)) (bb f (P + 2)) (bb f (P + 3)) ((M : Int) - P) (-1) from by have z0 := (Int32.lt_iff_toInt_lt).mp c4; have z1 := (not_congr (own_ltL (K := 128) rfl)).mp c22; have z2 := (own_ltL (K := 194) rfl).mp c42; have hr0 := own_bR f P; have hr1 := own_bR f (P + 1); have hr2 := own_bR f (P + 2); have hr3 := own_bR f (P + 3); unfold SPr; omega) (by decide)]; rfl, rfl⟩
        · intro c22
          refine OG.goto Xloop1 d4_25 (pc' := 2) (by decide) ?_
          exact ih Tloop1 (i + (1 : Int32)) (.val (.int a')) (sl4) (sl5) (sl6) (sl7) (sl8) Xloop1 (by have e := hi1; have z4 := Int32.lt_iff_toInt_lt.mp c4; omega) (Or.inr ⟨_, rfl, rfl⟩) hsl4 hsl5 hsl6 hsl7 hsl8 (by have e := hi1; have z4 := Int32.lt_iff_toInt_lt.mp c4; have r := own_rng (show SPr (bb f P) (bb f (P + 1)) (bb f (P + 2)) (bb f (P + 3)) ((M : Int) - P) (1) from by have z0 := (Int32.lt_iff_toInt_lt).mp c4; have z1 := (own_ltL (K := 128) rfl).mp c22; have hr0 := own_bR f P; have hr1 := own_bR f (P + 1); have hr2 := own_bR f (P + 2); have hr3 := own_bR f (P + 3); unfold SPr; omega) (by omega) (by decide); omega) (by rw [own_nat hi1, ← hv, own_gS hltM (show SPr (bb f P) (bb f (P + 1)) (bb f (P + 2)) (bb f (P + 3)) ((M : Int) - P) (1) from by have z0 := (Int32.lt_iff_toInt_lt).mp c4; have z1 := (own_ltL (K := 128) rfl).mp c22; have hr0 := own_bR f P; have hr1 := own_bR f (P + 1); have hr2 := own_bR f (P + 2); have hr3 := own_bR f (P + 3); unfold SPr; omega) (by decide)]; rfl)
  exact loop1 5 T (0 : Int32) (.unset) (.unset) (.unset) (.unset) (.unset) (.unset) X (by have e : (0 : Int32).toInt = 0 := rfl; omega) (Or.inl rfl) (Or.inl rfl) (Or.inl rfl) (Or.inl rfl) (Or.inl rfl) (Or.inl rfl) (by have e : (0 : Int32).toInt = 0 := rfl; omega) rfl
theorem own_n {n q : Int32} (h : n = (q &&& 7) % 5) : ∃ M : Nat, n.toInt = M ∧ M ≤ 4 := by
  have h1 := c_and q 7 (by decide)
  have h2 := c_irem (q &&& 7) 5 5 rfl
  rw [← h] at h2
  exact ⟨n.toInt.toNat, by omega, by omega⟩
theorem pn_0 : plainName "com/example/skipstone/skipstone/index/StringEncodingWellFormedPinLaw" = true := by first | (simp [plainName, overriddenIn]; done) | decide +kernel
theorem ef_0 (m : MethodId) (i0 : Int32) (i1 : Int32) (i2 : Int32) : entryFrame m #[(.int i0), (.int i1), (.int i2)] maxLocals = mkF m 0 #[.val (.int i0), .val (.int i1), .val (.int i2), .unset, .unset, .unset] [] := by first | (simp [entryFrame, mkF, argsToLocals, Value.category, maxLocals]; done) | rfl
def Q0 (Z : State) (i0 : Int32) (i1 : Int32) (i2 : Int32)  (h0 : Heap) : Option Value → Heap → Prop := fun v h => v = some (.int 1)
theorem pd_1 : parseMethodDescriptor "(III)B" = some ⟨[.int, .int, .int], some .byte⟩ := by decide +kernel
theorem pd_2 : parseMethodDescriptor "([BI)Z" = some ⟨[(.array .byte), .int], some .boolean⟩ := by decide +kernel
set_option maxRecDepth 65536 in
set_option maxHeartbeats 40000000 in
theorem rm0 (l : Launch) (Z : State) (a0 : Array Value) (hw : ∀ d ∈ tables_1, d.before a0 Z = true) (ws : List Jvm.Cond) (i0 : Int32) (i1 : Int32) (i2 : Int32)  (h0 : Heap) (n0 : Nat) (Z0 : n0 ≤ h0.size)  :
    OM l x code maxLocals ret room_1 ws Z #[(.int i0), (.int i1), (.int i2)] h0 n0 (Q0 Z i0 i1 i2  h0) := by
  refine OM.of (plainFor_of_name pn_0) (fun m => ef_0 m i0 i1 i2) ?_
  intro p e s m below meth c T X
  refine OG.iconst X at_0 (z := (4 : Int32)) rfl ?_
  refine OG.newP X (hw _ (List.mem_of_getElem? (i := 0) rfl)) at_1 (by decide) (cap := 4) (by decide) (by decide) (by decide) (by decide) ?_
  rintro T1 h2 b4 gb4 X1 E3 ⟨cAb4, Nb4⟩
  have g_b4 : n0 ≤ b4 := Nat.le_trans Z0 (Nat.le_of_eq gb4.symm)
  replace Z0 := Nat.le_trans Z0 E3.1
  have A_b4 : Ia Z h2 b4 .byte 4 (fun _ => 0) := Ia.new Nb4 (by decide) rfl rfl
  refine OG.astoreN X1 at_3 (l' := #[.val (.int i0), .val (.int i1), .val (.int i2), .val (.ref b4), .unset, .unset]) rfl rfl ?_
  refine OG.aloadN X1 at_4 rfl rfl ?_
  refine OG.iconst X1 at_5 (z := (0 : Int32)) rfl ?_
  refine OG.iloadN X1 at_6 rfl ?_
  refine OG.iloadN X1 at_7 rfl ?_
  refine OG.iconst X1 at_8 (z := (0 : Int32)) rfl ?_
  refine OG.callS X1 (hw _ (List.mem_of_getElem? (i := 1) rfl)) (hw _ (List.mem_of_getElem? (i := 2) rfl)) (by decide) (rm1 l Z a0 hw [] i0 i2 (0 : Int32) h2 n0) (hw _ (List.mem_of_getElem? (i := 4) rfl)) (hw _ (List.mem_of_getElem? (i := 3) rfl)) (by decide) (W := 2) (by decide) rfl (argsL := [(.int i0), (.int i2), (.int (0 : Int32))]) pd_1 rfl at_9 rfl (Nat.le_of_eq rfl) (by decide) (by decide) ?_
  rintro _ T5 h6 X5 ⟨rfl, eh6⟩
  rw [eh6] at X5
  show OG p e below s n0 room_1.cells room_1.slots (Q0 Z i0 i1 i2  h0) (T5.setTop (mkF m 12 #[.val (.int i0), .val (.int i1), .val (.int i2), .val (.ref b4), .unset, .unset] [(.int (F1 i0 i2 (0 : Int32))), (.int (0 : Int32)), (.ref b4)]))
  refine OG.bastore X5 A_b4 (by decide) at_12 g_b4 ?_
  intro T7 h8 X7 W9 A7
  replace Z0 := Nat.le_trans Z0 (Keep.of_wr W9).1
  replace A_b4 := A7
  refine OG.aloadN X7 at_13 rfl rfl ?_
  refine OG.iconst X7 at_14 (z := (1 : Int32)) rfl ?_
  refine OG.iloadN X7 at_15 rfl ?_
  refine OG.iloadN X7 at_16 rfl ?_
  refine OG.iconst X7 at_17 (z := (1 : Int32)) rfl ?_
  refine OG.callS X7 (hw _ (List.mem_of_getElem? (i := 1) rfl)) (hw _ (List.mem_of_getElem? (i := 2) rfl)) (by decide) (rm1 l Z a0 hw [] i0 i2 (1 : Int32) h8 n0) (hw _ (List.mem_of_getElem? (i := 4) rfl)) (hw _ (List.mem_of_getElem? (i := 3) rfl)) (by decide) (W := 2) (by decide) rfl (argsL := [(.int i0), (.int i2), (.int (1 : Int32))]) pd_1 rfl at_18 rfl (Nat.le_of_eq rfl) (by decide) (by decide) ?_
  rintro _ T10 h11 X10 ⟨rfl, eh11⟩
  rw [eh11] at X10
  show OG p e below s n0 room_1.cells room_1.slots (Q0 Z i0 i1 i2  h0) (T10.setTop (mkF m 21 #[.val (.int i0), .val (.int i1), .val (.int i2), .val (.ref b4), .unset, .unset] [(.int (F1 i0 i2 (1 : Int32))), (.int (1 : Int32)), (.ref b4)]))
  refine OG.bastore X10 A_b4 (by decide) at_21 g_b4 ?_
  intro T12 h13 X12 W14 A12
  replace Z0 := Nat.le_trans Z0 (Keep.of_wr W14).1
  replace A_b4 := A12
  refine OG.aloadN X12 at_22 rfl rfl ?_
  refine OG.iconst X12 at_23 (z := (2 : Int32)) rfl ?_
  refine OG.iloadN X12 at_24 rfl ?_
  refine OG.iloadN X12 at_25 rfl ?_
  refine OG.iconst X12 at_26 (z := (2 : Int32)) rfl ?_
  refine OG.callS X12 (hw _ (List.mem_of_getElem? (i := 1) rfl)) (hw _ (List.mem_of_getElem? (i := 2) rfl)) (by decide) (rm1 l Z a0 hw [] i0 i2 (2 : Int32) h13 n0) (hw _ (List.mem_of_getElem? (i := 4) rfl)) (hw _ (List.mem_of_getElem? (i := 3) rfl)) (by decide) (W := 2) (by decide) rfl (argsL := [(.int i0), (.int i2), (.int (2 : Int32))]) pd_1 rfl at_27 rfl (Nat.le_of_eq rfl) (by decide) (by decide) ?_
  rintro _ T15 h16 X15 ⟨rfl, eh16⟩
  rw [eh16] at X15
  show OG p e below s n0 room_1.cells room_1.slots (Q0 Z i0 i1 i2  h0) (T15.setTop (mkF m 30 #[.val (.int i0), .val (.int i1), .val (.int i2), .val (.ref b4), .unset, .unset] [(.int (F1 i0 i2 (2 : Int32))), (.int (2 : Int32)), (.ref b4)]))
  refine OG.bastore X15 A_b4 (by decide) at_30 g_b4 ?_
  intro T17 h18 X17 W19 A17
  replace Z0 := Nat.le_trans Z0 (Keep.of_wr W19).1
  replace A_b4 := A17
  refine OG.aloadN X17 at_31 rfl rfl ?_
  refine OG.iconst X17 at_32 (z := (3 : Int32)) rfl ?_
  refine OG.iloadN X17 at_33 rfl ?_
  refine OG.iloadN X17 at_34 rfl ?_
  refine OG.iconst X17 at_35 (z := (3 : Int32)) rfl ?_
  refine OG.callS X17 (hw _ (List.mem_of_getElem? (i := 1) rfl)) (hw _ (List.mem_of_getElem? (i := 2) rfl)) (by decide) (rm1 l Z a0 hw [] i0 i2 (3 : Int32) h18 n0) (hw _ (List.mem_of_getElem? (i := 4) rfl)) (hw _ (List.mem_of_getElem? (i := 3) rfl)) (by decide) (W := 2) (by decide) rfl (argsL := [(.int i0), (.int i2), (.int (3 : Int32))]) pd_1 rfl at_36 rfl (Nat.le_of_eq rfl) (by decide) (by decide) ?_
  rintro _ T20 h21 X20 ⟨rfl, eh21⟩
  rw [eh21] at X20
  show OG p e below s n0 room_1.cells room_1.slots (Q0 Z i0 i1 i2  h0) (T20.setTop (mkF m 39 #[.val (.int i0), .val (.int i1), .val (.int i2), .val (.ref b4), .unset, .unset] [(.int (F1 i0 i2 (3 : Int32))), (.int (3 : Int32)), (.ref b4)]))
  refine OG.bastore X20 A_b4 (by decide) at_39 g_b4 ?_
  intro T22 h23 X22 W24 A22
  replace Z0 := Nat.le_trans Z0 (Keep.of_wr W24).1
  replace A_b4 := A22
  obtain ⟨ff, A_ff⟩ : ∃ ff, Ia Z h23 b4 .byte 4 ff := ⟨_, A_b4⟩
  refine OG.iloadN X22 at_40 rfl ?_
  refine OG.bipush X22 at_41 (z := (7 : Int32)) rfl ?_
  refine OG.iand X22 at_43 ?_
  refine OG.iconst X22 at_44 (z := (5 : Int32)) rfl ?_
  refine OG.irem X22 at_45 (by decide) ?_
  refine OG.istoreV X22 at_46 (l' := fun z => #[.val (.int i0), .val (.int i1), .val (.int i2), .val (.ref b4), .val (.int z), .unset]) (fun _ => rfl) ?_
  intro n hn
  obtain ⟨M, hn2, h4⟩ := own_n hn
  refine OG.aloadN X22 at_48 rfl rfl ?_
  refine OG.iload X22 at_49 rfl ?_
  refine OG.callS X22 (hw _ (List.mem_of_getElem? (i := 5) rfl)) (hw _ (List.mem_of_getElem? (i := 6) rfl)) (by decide) (rm2 l Z a0 hw [] b4 n ff M h23 n0 A_ff hn2 h4) (hw _ (List.mem_of_getElem? (i := 7) rfl)) (hw _ (List.mem_of_getElem? (i := 3) rfl)) (by decide) (W := 0) (by decide) rfl (argsL := [(.ref b4), (.int n)]) pd_2 rfl at_51 rfl (Nat.le_of_eq rfl) (by decide) (by decide) ?_
  rintro _ T25 h26 X25 ⟨rfl, eh26⟩
  rw [eh26] at X25
  show OG p e below s n0 room_1.cells room_1.slots (Q0 Z i0 i1 i2  h0) (T25.setTop (mkF m 54 #[.val (.int i0), .val (.int i1), .val (.int i2), .val (.ref b4), .val (.int n), .unset] [(.int (if good ff M 4 0 = true then 1 else 0))]))
  refine OG.istoreV X25 at_54 (l' := fun z => #[.val (.int i0), .val (.int i1), .val (.int i2), .val (.ref b4), .val (.int n), .val (.int z)]) (fun _ => rfl) ?_
  intro ex hex
  refine OG.aloadN X25 at_56 rfl rfl ?_
  refine OG.iload X25 at_57 rfl ?_
  refine OG.callS X25 (hw _ (List.mem_of_getElem? (i := 11) rfl)) (hw _ (List.mem_of_getElem? (i := 12) rfl)) (by decide) (rm4 l Z a0 hw [] b4 n ff M h23 n0 A_ff hn2 h4) (hw _ (List.mem_of_getElem? (i := 14) rfl)) (hw _ (List.mem_of_getElem? (i := 13) rfl)) (by decide) (W := 0) (by decide) rfl (argsL := [(.ref b4), (.int n)]) pd_2 rfl at_59 rfl (Nat.le_of_eq rfl) (by decide) (by decide) ?_
  rintro _ T27 h28 X27 ⟨rfl, eh28⟩
  rw [eh28] at X27
  show OG p e below s n0 room_1.cells room_1.slots (Q0 Z i0 i1 i2  h0) (T27.setTop (mkF m 62 #[.val (.int i0), .val (.int i1), .val (.int i2), .val (.ref b4), .val (.int n), .val (.int ex)] [(.int (if good ff M 5 0 = true then 1 else 0))]))
  refine OG.iload X27 at_62 rfl ?_
  refine OG.icmp_ne_f X27 at_64 (by rw [hex, own_more 4 0 (by omega) (fun Q _ => own_tot _ _ _ _ _)]) ?_
  refine OG.iconst X27 at_67 (z := (1 : Int32)) rfl ?_
  refine OG.goto X27 at_68 (pc' := 72) (by decide) ?_
  exact OG.retN X27 (t := .boolean) at_72 (by simp) (by decide) (by decide) rfl
set_option maxRecDepth 65536 in
set_option maxHeartbeats 40000000 in
theorem comes_1 {Post : Tables → Env → Array Value → State → Outcome → State → Prop} (hpost : ∀ tb e args s v u, (limb_1_1.after args s (.returned v) u = true ∧ limb_1_2.after args s (.returned v) u = true ∧ True) → FrameEnd s (.returned v) u (Jvm.fieldLocs frame_1_writes args s ++ Jvm.arrayLocs frame_1_arrays args s ++ Jvm.staticLocs frame_1_statics s) 16 128 → Post tb e args s (.returned v) u) :
    ArmFor flags0 classFile x code maxLocals ret World_1 tables_1 room_1 Calls_1 rest_1 Pre_1 Post := by
  intro l hfl _ _ p e ha hc hk s m args below hf hA hF happ hP
  obtain ⟨hcalls, hrest, hpre⟩ := hP
  obtain ⟨-, -, -, hnamed, -, -, -, hat⟩ := (Spec.applies_iff hf).mp happ
  obtain ⟨hg, hn⟩ := and_e (Cond.before_iff.mp (show (Jvm.Cond.and given_1 narrow_1).before args s = true from hpre))
  obtain ⟨g1, g2⟩ := and_e hg
  obtain ⟨g3, g4⟩ := and_e g2
  obtain ⟨g5, g6⟩ := and_e g4
  obtain ⟨w0, w1, w2, rfl⟩ : ∃ w0 w1 w2 : Value, args = #[w0, w1, w2] := by
    have hs : args.size = 3 := by simpa [Cond.value, given_1] using g1
    obtain ⟨L⟩ := args
    match L, hs with
    | [w0, w1, w2], _ => exact ⟨w0, w1, w2, rfl⟩
  have hw := fun d (hd : d ∈ tables_1) => atoms_spec (ws := Jvm.Cond.code x code maxLocals ret :: tables_1) hat d (List.mem_cons_of_mem _ hd)
  have hfit : Fit s := fun {y c} hc i hi => by
    obtain ⟨ha, rfl⟩ := Array.getElem?_eq_some_iff.mp hc
    have q := List.all_eq_true.mp ((Array.all_eq_true_iff_forall_mem.mp hF) _ (Array.getElem_mem ha)) i (List.mem_range.mpr hi)
    simpa [Array.getElem?_eq_getElem hi] using q
  obtain ⟨i0, ei0⟩ := is_v g3
  obtain rfl : w0 = (.int i0) := Option.some.inj ei0
  obtain ⟨i1, ei1⟩ := is_v g5
  obtain rfl : w1 = (.int i1) := Option.some.inj ei1
  obtain ⟨i2, ei2⟩ := is_v g6
  obtain rfl : w2 = (.int i2) := Option.some.inj ei2
  obtain ⟨n, o, h1, h2, h3, _, L, rfl, ⟨rfl, N⟩, hq⟩ := rm0 l s _ hw tables_1 i0 i1 i2 s.heap s.heap.size (Nat.le_refl _)  p e ha hc hk s m _ below hf ((Spec.applies_iff_loose hf).mp happ).1 ⟨rfl, State.Warmed39.refl s, rfl⟩ trivial
  refine ⟨n, _, h1, h2, h3, hpost _ _ _ _ _ _ ⟨Cond.after_iff.mpr rfl, Cond.after_iff.mpr (eq_i res_at (Term.int_eval (1)) rfl), trivial⟩ ⟨hq.1, hq.2.1, (hq.2.2.sift fun y hy => Or.inr (N y hy)).mono (by decide) (by decide)⟩⟩
theorem main_1_1 : Claimed_1_1 := comes_1 fun _ _ _ _ _ _ h hF => ⟨h.1, hF⟩
theorem main_1_2 : Claimed_1_2 := comes_1 fun _ _ _ _ _ _ h hF => ⟨h.2.1, hF⟩
end Jvm.Pilot.@@N@@
namespace Jvm.Pilot.@@N@@
open Jvm Jvm.ClassFile Sem Op Lib Jvm.Free Jvm.Stand Jvm.Pilot.@@N@@.Jvm.D
/-! MADE BY PROGRAM (witnessworld.py) out of the Statement's table words and the real class files: 9 classes; the members and pool entries that the words name. The judged class is class 1, her method 1. -/
namespace start1
open Jvm.ClassFile
def u (s : String) : CpInfo := .utf8 (stringToUtf16 s)
/-- a pool by its gaps: so many unusable entries, then the entry; so many at the end -/
def gap : Nat → List CpInfo → List CpInfo
  | 0, r => r
  | n + 1, r => .unusable :: gap n r
def poolList (es : List (Nat × CpInfo)) (last : Nat) : List CpInfo := es.foldr (fun e r => gap e.1 (e.2 :: r)) (gap last [])
def pool (es : List (Nat × CpInfo)) (last : Nat) : Array CpInfo := ⟨poolList es last⟩
def fileOf (pool : Array CpInfo) (this : Nat) (attrs : Array Attribute := #[]) (ms : Array MethodInfo := #[]) (fl : Nat := 33) (sup : Nat := 0) (ifs : Array Nat := #[]) (fds : Array FieldInfo := #[]) : ClassFile where
  minorVersion := 0
  majorVersion := 65
  constantPool := pool
  accessFlags := fl
  thisClass := this
  superClass := sup
  interfaces := ifs
  fields := fds
  methods := ms
  attributes := attrs
def plain (name : String) (sup : Option ClassId) : Class where
  name := name
  kind := .ordinary
  loader := none
  accessFlags := 33
  super := sup
  interfaces := #[]
  cf := none
  fields := #[]
  methods := #[]
  instanceTypes := #[]
  staticTypes := #[]
  resolved := #[]
  callSites := []
  init := .initialized
  statics := none
  mirror := none

def pool0 : Array CpInfo := pool [(5, u "<init>"), (0, u "()V"), (1, .class_ 10), (1, u "java/lang/Object")] 113

def k0m0 : Method := { name := "<init>", desc := "()V", sig := { parameters := [], returnType := none }, accessFlags := 1, code := none }
/-- java/lang/Object -/
def k0 : Class := { plain "java/lang/Object" none with
  accessFlags := 33
  interfaces := #[]
  cf := some (fileOf pool0 8 #[] #[{ accessFlags := 1, nameIndex := 5, descriptorIndex := 6, attributes := #[] }] 33 0 #[] #[])
  fields := #[]
  methods := #[k0m0]
  instanceTypes := #[]
  staticTypes := #[]
  resolved := Array.replicate 124 none
  statics := none }

def pool1 : Array CpInfo := pool [(2, .class_ 4), (1, u "java/lang/Object"), (0, u "<init>"), (0, u "()V"), (0, .methodref 8 9), (0, .class_ 10), (0, .nameAndType 11 12), (0, u "com/example/skipstone/skipstone/index/StringEncodingWellFormedPinLaw"), (0, u "pick"), (0, u "(III)B"), (0, .methodref 8 14), (0, .nameAndType 15 16), (0, u "reference"), (0, u "([BI)Z"), (0, .methodref 18 19), (0, .class_ 20), (0, .nameAndType 21 16), (0, u "com/example/skipstone/skipstone/index/StringEncoding"), (0, u "wellFormed"), (0, .methodref 8 23), (0, .nameAndType 24 25), (0, u "step"), (0, u "([BII)I"), (0, .integer 65536), (0, .integer 55296), (0, .integer 57343), (0, .integer 1114111), (2, u "law"), (0, u "(III)Z")] 5

def k1m0 : Method := { name := "<init>", desc := "()V", sig := { parameters := [], returnType := none }, accessFlags := 1, code := none }
def k1c1 : Code := { maxStack := 5, maxLocals := 6, code := code, exceptionTable := #[], attributes := #[] }
def k1m1 : Method := { name := "law", desc := "(III)Z", sig := { parameters := [.int, .int, .int], returnType := some .boolean }, accessFlags := 9, code := some k1c1 }
def k1c2 : Code := { maxStack := 3, maxLocals := 4, code := method_3_code, exceptionTable := #[], attributes := #[] }
def k1m2 : Method := { name := "pick", desc := "(III)B", sig := { parameters := [.int, .int, .int], returnType := some .byte }, accessFlags := 10, code := some k1c2 }
def k1c3 : Code := { maxStack := 3, maxLocals := 4, code := method_4_code, exceptionTable := #[], attributes := #[] }
def k1m3 : Method := { name := "reference", desc := "([BI)Z", sig := { parameters := [(.array .byte), .int], returnType := some .boolean }, accessFlags := 10, code := some k1c3 }
def k1c4 : Code := { maxStack := 3, maxLocals := 9, code := method_5_code, exceptionTable := #[], attributes := #[] }
def k1m4 : Method := { name := "step", desc := "([BII)I", sig := { parameters := [(.array .byte), .int, .int], returnType := some .int }, accessFlags := 10, code := some k1c4 }
/-- com/example/skipstone/skipstone/index/StringEncodingWellFormedPinLaw -/
def k1 : Class := { plain "com/example/skipstone/skipstone/index/StringEncodingWellFormedPinLaw" (some 0) with
  accessFlags := 49
  interfaces := #[]
  cf := some (fileOf pool1 8 #[] #[{ accessFlags := 1, nameIndex := 5, descriptorIndex := 6, attributes := #[] }, { accessFlags := 9, nameIndex := 32, descriptorIndex := 33, attributes := #[] }, { accessFlags := 10, nameIndex := 11, descriptorIndex := 12, attributes := #[] }, { accessFlags := 10, nameIndex := 15, descriptorIndex := 16, attributes := #[] }, { accessFlags := 10, nameIndex := 24, descriptorIndex := 25, attributes := #[] }] 49 2 #[] #[])
  fields := #[]
  methods := #[k1m0, k1m1, k1m2, k1m3, k1m4]
  instanceTypes := #[]
  staticTypes := #[]
  resolved := Array.replicate 39 none
  statics := none }

def pool2 : Array CpInfo := pool [(2, .class_ 4), (1, u "java/lang/Object"), (0, u "<init>"), (0, u "()V"), (0, .class_ 8), (0, u "com/example/skipstone/skipstone/index/StringEncoding"), (2, u "wellFormed"), (0, u "([BI)Z"), (6, .class_ 20), (0, u "com/example/skipstone/skipstone/index/StringEncoding$Search"), (0, .class_ 22), (0, u "com/example/skipstone/skipstone/index/StringEncoding$Reader"), (0, .class_ 24), (0, u "com/example/skipstone/skipstone/index/StringEncoding$Writer")] 4

def k2m0 : Method := { name := "<init>", desc := "()V", sig := { parameters := [], returnType := none }, accessFlags := 2, code := none }
def k2c1 : Code := { maxStack := 3, maxLocals := 9, code := prog_144_method_2_code, exceptionTable := #[], attributes := #[] }
def k2m1 : Method := { name := "wellFormed", desc := "([BI)Z", sig := { parameters := [(.array .byte), .int], returnType := some .boolean }, accessFlags := 8, code := some k2c1 }
/-- com/example/skipstone/skipstone/index/StringEncoding -/
def k2 : Class := { plain "com/example/skipstone/skipstone/index/StringEncoding" (some 0) with
  accessFlags := 48
  interfaces := #[]
  cf := some (fileOf pool2 7 #[.nestMembers #[19, 21, 23]] #[{ accessFlags := 2, nameIndex := 5, descriptorIndex := 6, attributes := #[] }, { accessFlags := 8, nameIndex := 11, descriptorIndex := 12, attributes := #[] }] 48 2 #[] #[])
  fields := #[]
  methods := #[k2m0, k2m1]
  instanceTypes := #[]
  staticTypes := #[]
  resolved := Array.replicate 29 none
  statics := none }

def pool3 : Array CpInfo := pool [(1, u "java/lang/Cloneable"), (0, .class_ 1), (0, u "java/lang/Object"), (0, .class_ 3)] 3

/-- java/lang/Cloneable -/
def k3 : Class := { plain "java/lang/Cloneable" (some 0) with
  accessFlags := 1537
  interfaces := #[]
  cf := some (fileOf pool3 2 #[] #[] 1537 4 #[] #[])
  fields := #[]
  methods := #[]
  instanceTypes := #[]
  staticTypes := #[]
  resolved := Array.replicate 8 none
  statics := none }

def pool4 : Array CpInfo := pool [(1, u "java/io/Serializable"), (0, .class_ 1), (0, u "java/lang/Object"), (0, .class_ 3)] 3

/-- java/io/Serializable -/
def k4 : Class := { plain "java/io/Serializable" (some 0) with
  accessFlags := 1537
  interfaces := #[]
  cf := some (fileOf pool4 2 #[] #[] 1537 4 #[] #[])
  fields := #[]
  methods := #[]
  instanceTypes := #[]
  staticTypes := #[]
  resolved := Array.replicate 8 none
  statics := none }

/-- the primitive byte -/
def k5 : Class := { plain "byte" none with kind := .primitive 'B', accessFlags := 0x411 }
/-- [B -/
def k6 : Class := { plain "[B" (some 0) with kind := .array 5 .byte, interfaces := #[3, 4], accessFlags := 1041 }

/-- the primitive int -/
def k7 : Class := { plain "int" none with kind := .primitive 'I', accessFlags := 0x411 }
/-- [I -/
def k8 : Class := { plain "[I" (some 0) with kind := .array 7 .int, interfaces := #[3, 4], accessFlags := 1041 }

def heap : Heap := #[]
def classes : Array Class := #[k0, k1, k2, k3, k4, k5, k6, k7, k8]
def interned : List (Array UInt16 × Addr) := []
def slotsUsed : Nat := 0
def theMethod : MethodId := ⟨1, 1⟩
def args0 : Array Value := #[.int 5, .int 300, .int 7]
def aboutOver (below : List Frame) : State where
  vm := { classes := classes, interned := interned.toArray }
  heap := heap
  slotsUsed := slotsUsed
  threads := #[{ frames := .invoking theMethod args0 :: below }]
def below0 : List Frame := [.native { method := ⟨0, 0⟩, args := #[] }]
def about1 : State := aboutOver below0
def p0 : Program := .bare "" "" ""
def e0 : Env := launch0.env 0 0 0
theorem w_frames : about1.frames = Frame.invoking theMethod args0 :: below0 := rfl
set_option maxRecDepth 65536 in
theorem w_args : argsFit about1.vm theMethod args0 = true := by decide +kernel
set_option maxRecDepth 65536 in
theorem w_heap : heapFits about1 = true := by decide +kernel
set_option maxRecDepth 65536 in
theorem w_runnable : about1.curStatus? = some .runnable := by decide +kernel
set_option maxRecDepth 65536 in
theorem w_alone : about1.alone = true := by decide +kernel
set_option maxRecDepth 65536 in
theorem w_named : about1.methodNamed? x = some theMethod := by decide +kernel
set_option maxRecDepth 65536 in
theorem w_hears : about1.hears theMethod below0 = true := by decide +kernel
set_option maxRecDepth 65536 in
theorem w_ripe : about1.ripe theMethod args0 below0 = true := by decide +kernel
theorem w_running : about1.status = .running := rfl
set_option maxRecDepth 65536 in
theorem w_room : about1.hasRoom e0.platform room_1 = true :=
  launch0.hasRoom_least _ room_1 (by decide +kernel) (by decide +kernel) (by decide +kernel) (by decide +kernel) (by decide +kernel) (by decide +kernel)
theorem allAtoms_all (ts : List Jvm.Cond) (a : Array Jvm.Value) (st : Jvm.State) : (allAtoms ts).before a st = ts.all (fun c => c.before a st) := by
  induction ts with
  | nil => rfl
  | cons c t ih =>
    show (Jvm.Cond.and c (allAtoms t)).before a st = _
    rw [Jvm.Cond.before_and, ih, List.all_cons]
def words1 : List Jvm.Cond := Jvm.Cond.code x code maxLocals ret :: tables_1
/-- a 'code' word, met by the world's own term for the bytes: nothing is compared byte by byte -/
theorem code_word {y : MethodName} {bytes : ByteArray} {mx : Nat} {rt : Option FieldType} {a : Array Value} {s : State} {m : MethodId} {meth : Method} {c : Code} (h1 : s.methodNamed? y = some m) (h2 : s.vm.method? m = some meth) (h3 : meth.code = some c) (h4 : c.code = bytes)
    (h5 : (c.maxLocals == mx && c.exceptionTable.isEmpty && decide (c.maxStack ≤ mostOperands) && decide (meth.sig.returnType = rt) && !meth.locks && decide (parseMethodDescriptor y.desc = some meth.sig)) = true) : (Jvm.Cond.code y bytes mx rt).before a s = true := by
  simp only [Bool.and_eq_true, beq_iff_eq, Bool.not_eq_true', decide_eq_true_eq] at h5
  obtain ⟨⟨⟨⟨⟨g1, g2⟩, g3⟩, g4⟩, g5⟩, g6⟩ := h5
  simp [Cond.before, Cond.holds, Cond.value, h1, h2, h3, h4, g1, g2, g3, g4, g5, g6]
def isCode : Jvm.Cond → Bool
  | .code _ _ _ _ => true
  | _ => false
theorem all_split {L : List Jvm.Cond} {P : Jvm.Cond → Bool} (h1 : L.all (fun c => isCode c || P c) = true) (h2 : ∀ c ∈ L.filter isCode, P c = true) : L.all P = true := by
  refine List.all_eq_true.mpr fun c hc => ?_
  have h := List.all_eq_true.mp h1 c hc
  rcases Bool.eq_false_or_eq_true (isCode c) with hi | hi
  · exact h2 c (List.mem_filter.mpr ⟨hc, hi⟩)
  · simpa [hi] using h
set_option maxRecDepth 65536 in
theorem w_c0 : (Jvm.Cond.code x code maxLocals ret).before args0 about1 = true := code_word (m := ⟨1, 1⟩) (meth := k1m1) (c := k1c1) (by decide +kernel) rfl rfl rfl (by decide +kernel)
set_option maxRecDepth 65536 in
theorem w_c1 : (Jvm.Cond.code ({ cls := "com/example/skipstone/skipstone/index/StringEncodingWellFormedPinLaw", name := "pick", desc := "(III)B" } : Jvm.MethodName) method_3_code (4 : Nat) (Option.some Jvm.ClassFile.FieldType.byte)).before args0 about1 = true := code_word (m := ⟨1, 2⟩) (meth := k1m2) (c := k1c2) (by decide +kernel) rfl rfl rfl (by decide +kernel)
set_option maxRecDepth 65536 in
theorem w_c2 : (Jvm.Cond.code ({ cls := "com/example/skipstone/skipstone/index/StringEncodingWellFormedPinLaw", name := "reference", desc := "([BI)Z" } : Jvm.MethodName) method_4_code (4 : Nat) (Option.some Jvm.ClassFile.FieldType.boolean)).before args0 about1 = true := code_word (m := ⟨1, 3⟩) (meth := k1m3) (c := k1c3) (by decide +kernel) rfl rfl rfl (by decide +kernel)
set_option maxRecDepth 65536 in
theorem w_c3 : (Jvm.Cond.code ({ cls := "com/example/skipstone/skipstone/index/StringEncodingWellFormedPinLaw", name := "step", desc := "([BII)I" } : Jvm.MethodName) method_5_code (9 : Nat) (Option.some Jvm.ClassFile.FieldType.int)).before args0 about1 = true := code_word (m := ⟨1, 4⟩) (meth := k1m4) (c := k1c4) (by decide +kernel) rfl rfl rfl (by decide +kernel)
set_option maxRecDepth 65536 in
theorem w_c4 : (Jvm.Cond.code ({ cls := "com/example/skipstone/skipstone/index/StringEncoding", name := "wellFormed", desc := "([BI)Z" } : Jvm.MethodName) prog_144_method_2_code (9 : Nat) (Option.some Jvm.ClassFile.FieldType.boolean)).before args0 about1 = true := code_word (m := ⟨2, 1⟩) (meth := k2m1) (c := k2c1) (by decide +kernel) rfl rfl rfl (by decide +kernel)
def codes1 : List Jvm.Cond := [Jvm.Cond.code x code maxLocals ret, Jvm.Cond.code ({ cls := "com/example/skipstone/skipstone/index/StringEncodingWellFormedPinLaw", name := "pick", desc := "(III)B" } : Jvm.MethodName) method_3_code (4 : Nat) (Option.some Jvm.ClassFile.FieldType.byte), Jvm.Cond.code ({ cls := "com/example/skipstone/skipstone/index/StringEncodingWellFormedPinLaw", name := "reference", desc := "([BI)Z" } : Jvm.MethodName) method_4_code (4 : Nat) (Option.some Jvm.ClassFile.FieldType.boolean), Jvm.Cond.code ({ cls := "com/example/skipstone/skipstone/index/StringEncodingWellFormedPinLaw", name := "step", desc := "([BII)I" } : Jvm.MethodName) method_5_code (9 : Nat) (Option.some Jvm.ClassFile.FieldType.int), Jvm.Cond.code ({ cls := "com/example/skipstone/skipstone/index/StringEncoding", name := "wellFormed", desc := "([BI)Z" } : Jvm.MethodName) prog_144_method_2_code (9 : Nat) (Option.some Jvm.ClassFile.FieldType.boolean)]
set_option maxRecDepth 65536 in
theorem codes_eq : words1.filter isCode = codes1 := rfl
theorem w_codes : ∀ c ∈ words1.filter isCode, c.before args0 about1 = true := by
  rw [codes_eq]
  intro c hc
  simp only [codes1, List.mem_cons, List.not_mem_nil, or_false] at hc
  rcases hc with rfl | rfl | rfl | rfl | rfl
  · exact w_c0
  · exact w_c1
  · exact w_c2
  · exact w_c3
  · exact w_c4
set_option maxRecDepth 65536 in
theorem w_t1 : words1.all (fun c => isCode c || c.before args0 about1) = true := by decide +kernel
theorem w_tables : (allAtoms (Jvm.Cond.code x code maxLocals ret :: tables_1)).before args0 about1 = true := by
  rw [allAtoms_all]
  show words1.all (fun c => c.before args0 about1) = true
  refine all_split ?_ w_codes
  rw [w_t1]
set_option maxRecDepth 65536 in
theorem w_case : (Jvm.Cond.and given_1 narrow_1).before args0 about1 = true := by decide +kernel
theorem w_applies : (headSpec (Jvm.Cond.code x code maxLocals ret :: tables_1) room_1).applies x e0.platform about1 = true :=
  (Spec.applies_iff w_frames).mpr ⟨w_running, w_runnable, w_alone, w_named, w_hears, w_ripe, w_room, w_tables⟩
theorem atStart : AtStart classFile x code maxLocals ret World_1 tables_1 room_1 Calls_1 rest_1 Pre_1 launch0 p0 e0 about1 theMethod args0 below0 :=
  ⟨lists_1, trivial, launch0.admits_env _ _ _, launch0.least_env, fairChoices_fair.cas, fairChoices_fair.clock, w_frames, w_args, w_heap, w_applies, trivial, trivial, w_case⟩
end start1
theorem witness_1 : WitnessClaimed_1 := ⟨start1.p0, start1.e0, start1.about1, start1.theMethod, start1.args0, start1.below0, start1.atStart⟩
end Jvm.Pilot.@@N@@
