import JvmDerived
import JvmDerived.Pilot.@@N@@Statement
import JvmDerived.Pilot.@@N@@Code
set_option linter.unusedVariables false
set_option linter.unusedSimpArgs false
namespace Jvm.RoadKit
open Sem ClassFile Op Lib Jvm.Stand Jvm.Free Jvm.LawKit
section New
variable {p : Program} {l : Launch} {e : Env} {R : Room} {s : State} {m : MethodId} {args : Array Value} {below : List Frame} {meth : Method} {c : Code} {T : State} {locs : List Loc} {cells slots : Nat}
theorem retI (X : Stand p l e R s m args below meth c T locs cells slots) (hx : p.tables.exec = Jvm.exec) {pc : Nat} {Ls : Array Slot} {z : Int32} {rest : List Value} (hret : meth.sig.returnType = some .int) (hd : decode c.code pc = .ok (.ireturn, 1)) {fs : List Frame}
    (hl : ∀ (f : JFrame) (acts : List Action), f.method = m → f.locked = none → f.entered = [] → (doReturn e (T.setTop f) acts (some (.int z))).1 = T.setFrames fs) : Steps p.tables e below (T.setTop (mkF m pc Ls (.int z :: rest))) (T.setFrames fs) := by
  have hm' : T.vm.method? m = some meth := X.method'
  have hn : narrow .int (.int z) = .int z := rfl
  show Steps p.tables e below (T.setTop { method := m, pc := pc, locals := Ls, stack := _ :: rest, locked := none }) _
  jvm_step X.here [X.here.top, hx, hd, hm', hret, hn]
  first | (intro acts; rw [hl _ acts rfl rfl rfl]) | rw [hl _ _ rfl rfl rfl]
  exact Steps.refl _
end New
section OwnKit
/-- where the walk of a body stands: the body's own facts, the heap, and that nothing old was written -/
def OS (B : ByteArray) (mL : Nat) (own nm : String) (rt : Option FieldType) (Z : State) (n0 : Nat) (p : Program) (l : Launch) (e : Env) (R : Room) (s : State) (m : MethodId) (args : Array Value) (below : List Frame) (meth : Method) (c : Code) (T : State) (h : Heap) (cells slots : Nat) : Prop :=
  (p.tables.exec = Jvm.exec ∧ c.code = B ∧ c.maxLocals = mL ∧ s.vm.findClass own = some m.cls ∧ meth.name = nm ∧ meth.sig.returnType = rt ∧ meth.locks = false ∧ Z.Warmed39 s.vm) ∧ T.heap = h ∧ ∃ locs, Fr n0 locs ∧ Stand p l e R s m args below meth c T locs cells slots
/-- from here the body comes to its end, with what Q says -/
def OG (p : Program) (e : Env) (below : List Frame) (s : State) (n0 rc rs : Nat) (Q : Option Value → Heap → Prop) (A : State) : Prop :=
  ∃ s₂ o, Steps p.tables e below A s₂ ∧ s₂.status = .running ∧ Ended s₂ below o ∧ ∃ v L, o = .returned v ∧ (Q v s₂.heap ∧ Fr n0 L) ∧ FrameEnd s o s₂ L rc rs
/-- a body's contract -/
def OM (l : Launch) (y : MethodName) (B : ByteArray) (mL : Nat) (rt : Option FieldType) (rm : Room) (ws : List Cond) (Z : State) (as' : Array Value) (h0 : Heap) (n0 : Nat) (Q : Option Value → Heap → Prop) : Prop :=
  MetFree l y (head1 (Cond.code y B mL rt :: ws) rm) (fun a U => a = as' ∧ Z.Warmed39 U.vm ∧ U.heap = h0) (fun _ _ _ _ _ => True) (fun _ U o U' => ∃ v L, o = .returned v ∧ (Q v U'.heap ∧ Fr n0 L) ∧ FrameEnd U o U' L rm.cells rm.slots)
variable {p : Program} {l : Launch} {e : Env} {R : Room} {s : State} {m : MethodId} {args : Array Value} {below : List Frame} {meth : Method} {c : Code} {T : State} {cells slots : Nat} {Z : State} {h : Heap} {n0 : Nat} {B : ByteArray} {mL : Nat} {own nm : String} {rt : Option FieldType} {rc rs : Nat} {Q : Option Value → Heap → Prop} {pc : Nat} {Ls : Array Slot} {st : List Value} {a0 : Array Value}
theorem OG.pre {A A' : State} (h : ∀ t, Steps p.tables e below A' t → Steps p.tables e below A t) (k : OG p e below s n0 rc rs Q A') : OG p e below s n0 rc rs Q A := by
  obtain ⟨s₂, o, h1, r⟩ := k; exact ⟨s₂, o, h _ h1, r⟩
theorem OM.of {y : MethodName} {rm : Room} {ws : List Cond} {as' : Array Value} {h0 : Heap} (hp : plainFor y = true) (hef : ∀ m, entryFrame m as' mL = mkF m 0 Ls []) (body : ∀ p e s m below meth c T, OS B mL y.cls y.name rt Z n0 p l e rm s m as' below meth c T h0 0 0 → OG p e below s n0 rm.cells rm.slots Q (T.setTop (mkF m 0 Ls []))) : OM l y B mL rt rm ws Z as' h0 n0 Q := by
  refine MetFree.of_bodySF hp hisR ?_
  intro p e s m args below meth c s₁ Bd hml0 hP hK
  obtain ⟨rfl, hZ, hh⟩ := hP
  have X0 : Stand p l e rm s m args below meth c s₁ [] 0 0 := Stand.of_body Bd
  have e0 : s₁.heap = h0 := by rw [← hh, Bd.state]; rfl
  have q := body p e s m below meth c s₁ ⟨⟨Bd.exec, Bd.bytes, hml0, findClass_of_methodNamed Bd.named, (name_of_methodNamed Bd.named Bd.method).1, Bd.returns, BodyLoose.notSynchronized Bd, hZ⟩, e0, [], Fr.nil n0, X0⟩
  rw [hef]; exact q
theorem OM.weak {y : MethodName} {rm : Room} {ws : List Cond} {as' : Array Value} {h0 : Heap} {Q' : Option Value → Heap → Prop} (hM : OM l y B mL rt rm ws Z as' h0 n0 Q) (hq : ∀ v h, Q v h → Q' v h) : OM l y B mL rt rm ws Z as' h0 n0 Q' := by
  intro p e ha hc hk s m args below hf happ hP hK
  obtain ⟨n, o, h1, h2, h3, v, L, h4, h5, h6⟩ := hM p e ha hc hk s m args below hf happ hP hK
  exact ⟨n, o, h1, h2, h3, v, L, h4, ⟨hq _ _ h5.1, h5.2⟩, h6⟩
theorem OS.heap (X : OS B mL own nm rt Z n0 p l e R s m args below meth c T h cells slots) : T.heap = h := X.2.1
theorem OS.warm (X : OS B mL own nm rt Z n0 p l e R s m args below meth c T h cells slots) : Z.Warmed39 s.vm := X.1.2.2.2.2.2.2.2
theorem OS.more {k n : Nat} (X : OS B mL own nm rt Z n0 p l e R s m args below meth c T h cells slots) (h1 : cells ≤ k) (h2 : slots ≤ n) : OS B mL own nm rt Z n0 p l e R s m args below meth c T h k n := by
  obtain ⟨h0, e1, locs, N, Y⟩ := X
  exact ⟨h0, e1, locs, N, { Y with same := Y.same.mono h1 h2 }⟩

theorem OG.iload (X : OS B mL own nm rt Z n0 p l e R s m args below meth c T h cells slots) {k : Nat} {v : Int32} (hd : decode B pc = .ok (.iload k, 2)) (hl : Ls[k]? = some (.val (.int v))) (g : OG p e below s n0 rc rs Q (T.setTop (mkF m (pc + 2) Ls (.int v :: st)))) : OG p e below s n0 rc rs Q (T.setTop (mkF m pc Ls st)) := by
  obtain ⟨⟨hx, hby, -⟩, -, locs, -, Y⟩ := X
  exact OG.pre (fun _ k => XS.iload Y.here hx rfl (hb hby hd) hl k) g
theorem OG.iloadN (X : OS B mL own nm rt Z n0 p l e R s m args below meth c T h cells slots) {k : Fin 4} {v : Int32} (hd : decode B pc = .ok (.iload_n k, 1)) (hl : Ls[k.val]? = some (.val (.int v))) (g : OG p e below s n0 rc rs Q (T.setTop (mkF m (pc + 1) Ls (.int v :: st)))) : OG p e below s n0 rc rs Q (T.setTop (mkF m pc Ls st)) := by
  obtain ⟨⟨hx, hby, -⟩, -, locs, -, Y⟩ := X
  exact OG.pre (fun _ k => XS.iloadN Y.here hx rfl (hb hby hd) hl k) g
theorem OG.lload (X : OS B mL own nm rt Z n0 p l e R s m args below meth c T h cells slots) {k : Nat} {v : Int64} (hd : decode B pc = .ok (.lload k, 2)) (hl : Ls[k]? = some (.val (.long v))) (g : OG p e below s n0 rc rs Q (T.setTop (mkF m (pc + 2) Ls (.long v :: st)))) : OG p e below s n0 rc rs Q (T.setTop (mkF m pc Ls st)) := by
  obtain ⟨⟨hx, hby, -⟩, -, locs, -, Y⟩ := X
  exact OG.pre (fun _ k => XS.lload Y.here hx rfl (hb hby hd) hl k) g
theorem OG.lloadN (X : OS B mL own nm rt Z n0 p l e R s m args below meth c T h cells slots) {k : Fin 4} {v : Int64} (hd : decode B pc = .ok (.lload_n k, 1)) (hl : Ls[k.val]? = some (.val (.long v))) (g : OG p e below s n0 rc rs Q (T.setTop (mkF m (pc + 1) Ls (.long v :: st)))) : OG p e below s n0 rc rs Q (T.setTop (mkF m pc Ls st)) := by
  obtain ⟨⟨hx, hby, -⟩, -, locs, -, Y⟩ := X
  exact OG.pre (fun _ k => XS.lloadN Y.here hx rfl (hb hby hd) hl k) g
theorem OG.aload (X : OS B mL own nm rt Z n0 p l e R s m args below meth c T h cells slots) {k : Nat} {v : Value} (hd : decode B pc = .ok (.aload k, 2)) (hl : Ls[k]? = some (.val v)) (hv : v.isRef = true) (g : OG p e below s n0 rc rs Q (T.setTop (mkF m (pc + 2) Ls (v :: st)))) : OG p e below s n0 rc rs Q (T.setTop (mkF m pc Ls st)) := by
  obtain ⟨⟨hx, hby, -⟩, -, locs, -, Y⟩ := X
  exact OG.pre (fun _ k => XS.aload Y.here hx rfl (hb hby hd) hl hv k) g
theorem OG.aloadN (X : OS B mL own nm rt Z n0 p l e R s m args below meth c T h cells slots) {k : Fin 4} {v : Value} (hd : decode B pc = .ok (.aload_n k, 1)) (hl : Ls[k.val]? = some (.val v)) (hv : v.isRef = true) (g : OG p e below s n0 rc rs Q (T.setTop (mkF m (pc + 1) Ls (v :: st)))) : OG p e below s n0 rc rs Q (T.setTop (mkF m pc Ls st)) := by
  obtain ⟨⟨hx, hby, -⟩, -, locs, -, Y⟩ := X
  exact OG.pre (fun _ k => XS.aloadN Y.here hx rfl (hb hby hd) hl hv k) g
theorem OG.istore (X : OS B mL own nm rt Z n0 p l e R s m args below meth c T h cells slots) {k : Nat} {v : Int32} {l' : Array Slot} (hd : decode B pc = .ok (.istore k, 2)) (hl : storeLocals Ls k (.int v) = some l') (g : OG p e below s n0 rc rs Q (T.setTop (mkF m (pc + 2) l' st))) : OG p e below s n0 rc rs Q (T.setTop (mkF m pc Ls (.int v :: st))) := by
  obtain ⟨⟨hx, hby, -⟩, -, locs, -, Y⟩ := X
  exact OG.pre (fun _ k => XS.istore Y.here hx rfl (hb hby hd) rfl hl k) g
theorem OG.istoreV (X : OS B mL own nm rt Z n0 p l e R s m args below meth c T h cells slots) {k : Nat} {v : Int32} {l' : Int32 → Array Slot} (hd : decode B pc = .ok (.istore k, 2)) (hl : ∀ z, storeLocals Ls k (.int z) = some (l' z)) (g : ∀ z, z = v → OG p e below s n0 rc rs Q (T.setTop (mkF m (pc + 2) (l' z) st))) : OG p e below s n0 rc rs Q (T.setTop (mkF m pc Ls (.int v :: st))) := by
  obtain ⟨⟨hx, hby, -⟩, -, locs, -, Y⟩ := X
  exact OG.pre (fun _ k => XS.istore Y.here hx rfl (hb hby hd) rfl (hl v) k) (g v rfl)
theorem OG.istoreN (X : OS B mL own nm rt Z n0 p l e R s m args below meth c T h cells slots) {k : Fin 4} {v : Int32} {l' : Array Slot} (hd : decode B pc = .ok (.istore_n k, 1)) (hl : storeLocals Ls k.val (.int v) = some l') (g : OG p e below s n0 rc rs Q (T.setTop (mkF m (pc + 1) l' st))) : OG p e below s n0 rc rs Q (T.setTop (mkF m pc Ls (.int v :: st))) := by
  obtain ⟨⟨hx, hby, -⟩, -, locs, -, Y⟩ := X
  exact OG.pre (fun _ k => XS.istoreN Y.here hx rfl (hb hby hd) rfl hl k) g
theorem OG.istoreNV (X : OS B mL own nm rt Z n0 p l e R s m args below meth c T h cells slots) {k : Fin 4} {v : Int32} {l' : Int32 → Array Slot} (hd : decode B pc = .ok (.istore_n k, 1)) (hl : ∀ z, storeLocals Ls k.val (.int z) = some (l' z)) (g : ∀ z, z = v → OG p e below s n0 rc rs Q (T.setTop (mkF m (pc + 1) (l' z) st))) : OG p e below s n0 rc rs Q (T.setTop (mkF m pc Ls (.int v :: st))) := by
  obtain ⟨⟨hx, hby, -⟩, -, locs, -, Y⟩ := X
  exact OG.pre (fun _ k => XS.istoreN Y.here hx rfl (hb hby hd) rfl (hl v) k) (g v rfl)
theorem OG.lstore (X : OS B mL own nm rt Z n0 p l e R s m args below meth c T h cells slots) {k : Nat} {v : Int64} {l' : Array Slot} (hd : decode B pc = .ok (.lstore k, 2)) (hl : storeLocals Ls k (.long v) = some l') (g : OG p e below s n0 rc rs Q (T.setTop (mkF m (pc + 2) l' st))) : OG p e below s n0 rc rs Q (T.setTop (mkF m pc Ls (.long v :: st))) := by
  obtain ⟨⟨hx, hby, -⟩, -, locs, -, Y⟩ := X
  exact OG.pre (fun _ k => XS.lstore Y.here hx rfl (hb hby hd) rfl hl k) g
theorem OG.lstoreV (X : OS B mL own nm rt Z n0 p l e R s m args below meth c T h cells slots) {k : Nat} {v : Int64} {l' : Int64 → Array Slot} (hd : decode B pc = .ok (.lstore k, 2)) (hl : ∀ z, storeLocals Ls k (.long z) = some (l' z)) (g : ∀ z, z = v → OG p e below s n0 rc rs Q (T.setTop (mkF m (pc + 2) (l' z) st))) : OG p e below s n0 rc rs Q (T.setTop (mkF m pc Ls (.long v :: st))) := by
  obtain ⟨⟨hx, hby, -⟩, -, locs, -, Y⟩ := X
  exact OG.pre (fun _ k => XS.lstore Y.here hx rfl (hb hby hd) rfl (hl v) k) (g v rfl)
theorem OG.lstoreN (X : OS B mL own nm rt Z n0 p l e R s m args below meth c T h cells slots) {k : Fin 4} {v : Int64} {l' : Array Slot} (hd : decode B pc = .ok (.lstore_n k, 1)) (hl : storeLocals Ls k.val (.long v) = some l') (g : OG p e below s n0 rc rs Q (T.setTop (mkF m (pc + 1) l' st))) : OG p e below s n0 rc rs Q (T.setTop (mkF m pc Ls (.long v :: st))) := by
  obtain ⟨⟨hx, hby, -⟩, -, locs, -, Y⟩ := X
  exact OG.pre (fun _ k => XS.lstoreN Y.here hx rfl (hb hby hd) rfl hl k) g
theorem OG.lstoreNV (X : OS B mL own nm rt Z n0 p l e R s m args below meth c T h cells slots) {k : Fin 4} {v : Int64} {l' : Int64 → Array Slot} (hd : decode B pc = .ok (.lstore_n k, 1)) (hl : ∀ z, storeLocals Ls k.val (.long z) = some (l' z)) (g : ∀ z, z = v → OG p e below s n0 rc rs Q (T.setTop (mkF m (pc + 1) (l' z) st))) : OG p e below s n0 rc rs Q (T.setTop (mkF m pc Ls (.long v :: st))) := by
  obtain ⟨⟨hx, hby, -⟩, -, locs, -, Y⟩ := X
  exact OG.pre (fun _ k => XS.lstoreN Y.here hx rfl (hb hby hd) rfl (hl v) k) (g v rfl)
theorem OG.astore (X : OS B mL own nm rt Z n0 p l e R s m args below meth c T h cells slots) {k : Nat} {v : Value} {l' : Array Slot} (hd : decode B pc = .ok (.astore k, 2)) (hv : v.isRef = true) (hl : storeLocals Ls k v = some l') (g : OG p e below s n0 rc rs Q (T.setTop (mkF m (pc + 2) l' st))) : OG p e below s n0 rc rs Q (T.setTop (mkF m pc Ls (v :: st))) := by
  obtain ⟨⟨hx, hby, -⟩, -, locs, -, Y⟩ := X
  exact OG.pre (fun _ k => XS.astore Y.here hx rfl (hb hby hd) rfl hv hl k) g
theorem OG.astoreN (X : OS B mL own nm rt Z n0 p l e R s m args below meth c T h cells slots) {k : Fin 4} {v : Value} {l' : Array Slot} (hd : decode B pc = .ok (.astore_n k, 1)) (hv : v.isRef = true) (hl : storeLocals Ls k.val v = some l') (g : OG p e below s n0 rc rs Q (T.setTop (mkF m (pc + 1) l' st))) : OG p e below s n0 rc rs Q (T.setTop (mkF m pc Ls (v :: st))) := by
  obtain ⟨⟨hx, hby, -⟩, -, locs, -, Y⟩ := X
  exact OG.pre (fun _ k => XS.astoreN Y.here hx rfl (hb hby hd) rfl hv hl k) g
theorem OG.iconst (X : OS B mL own nm rt Z n0 p l e R s m args below meth c T h cells slots) {i : Int} {z : Int32} (hd : decode B pc = .ok (.iconst i, 1)) (hz : Int32.ofInt i = z) (g : OG p e below s n0 rc rs Q (T.setTop (mkF m (pc + 1) Ls (.int z :: st)))) : OG p e below s n0 rc rs Q (T.setTop (mkF m pc Ls st)) := by
  obtain ⟨⟨hx, hby, -⟩, -, locs, -, Y⟩ := X
  subst hz
  exact OG.pre (fun _ k => XS.iconst Y.here hx rfl (hb hby hd) k) g
theorem OG.bipush (X : OS B mL own nm rt Z n0 p l e R s m args below meth c T h cells slots) {i : Int} {z : Int32} (hd : decode B pc = .ok (.bipush i, 2)) (hz : (Int8.ofInt i).toInt32 = z) (g : OG p e below s n0 rc rs Q (T.setTop (mkF m (pc + 2) Ls (.int z :: st)))) : OG p e below s n0 rc rs Q (T.setTop (mkF m pc Ls st)) := by
  obtain ⟨⟨hx, hby, -⟩, -, locs, -, Y⟩ := X
  subst hz
  exact OG.pre (fun _ k => XS.bipush Y.here hx rfl (hb hby hd) k) g
theorem OG.sipush (X : OS B mL own nm rt Z n0 p l e R s m args below meth c T h cells slots) {i : Int} {z : Int32} (hd : decode B pc = .ok (.sipush i, 3)) (hz : (Int16.ofInt i).toInt32 = z) (g : OG p e below s n0 rc rs Q (T.setTop (mkF m (pc + 3) Ls (.int z :: st)))) : OG p e below s n0 rc rs Q (T.setTop (mkF m pc Ls st)) := by
  obtain ⟨⟨hx, hby, -⟩, -, locs, -, Y⟩ := X
  subst hz
  exact OG.pre (fun _ k => XS.sipush Y.here hx rfl (hb hby hd) k) g
theorem OG.lconst (X : OS B mL own nm rt Z n0 p l e R s m args below meth c T h cells slots) {k : Fin 2} {z : Int64} (hd : decode B pc = .ok (.lconst k, 1)) (hz : Int64.ofNat k = z) (g : OG p e below s n0 rc rs Q (T.setTop (mkF m (pc + 1) Ls (.long z :: st)))) : OG p e below s n0 rc rs Q (T.setTop (mkF m pc Ls st)) := by
  obtain ⟨⟨hx, hby, -⟩, -, locs, -, Y⟩ := X
  subst hz
  exact OG.pre (fun _ q => XS.lconst Y.here hx rfl (hb hby hd) q) g
theorem OG.aconstNull (X : OS B mL own nm rt Z n0 p l e R s m args below meth c T h cells slots)  (hd : decode B pc = .ok (.aconst_null, 1))  (g : OG p e below s n0 rc rs Q (T.setTop (mkF m (pc + 1) Ls (.null :: st)))) : OG p e below s n0 rc rs Q (T.setTop (mkF m pc Ls st)) := by
  obtain ⟨⟨hx, hby, -⟩, -, locs, -, Y⟩ := X
  exact OG.pre (fun _ k => XS.aconstNull Y.here hx rfl (hb hby hd)  k) g
theorem OG.iadd (X : OS B mL own nm rt Z n0 p l e R s m args below meth c T h cells slots) {x y : Int32} (hd : decode B pc = .ok (.iadd, 1))  (g : OG p e below s n0 rc rs Q (T.setTop (mkF m (pc + 1) Ls (.int (x + y) :: st)))) : OG p e below s n0 rc rs Q (T.setTop (mkF m pc Ls (.int y :: .int x :: st))) := by
  obtain ⟨⟨hx, hby, -⟩, -, locs, -, Y⟩ := X
  exact OG.pre (fun _ k => XS.iadd Y.here hx rfl (hb hby hd) rfl k) g
theorem OG.isub (X : OS B mL own nm rt Z n0 p l e R s m args below meth c T h cells slots) {x y : Int32} (hd : decode B pc = .ok (.isub, 1))  (g : OG p e below s n0 rc rs Q (T.setTop (mkF m (pc + 1) Ls (.int (x - y) :: st)))) : OG p e below s n0 rc rs Q (T.setTop (mkF m pc Ls (.int y :: .int x :: st))) := by
  obtain ⟨⟨hx, hby, -⟩, -, locs, -, Y⟩ := X
  exact OG.pre (fun _ k => XS.isub Y.here hx rfl (hb hby hd) rfl k) g
theorem OG.imul (X : OS B mL own nm rt Z n0 p l e R s m args below meth c T h cells slots) {x y : Int32} (hd : decode B pc = .ok (.imul, 1))  (g : OG p e below s n0 rc rs Q (T.setTop (mkF m (pc + 1) Ls (.int (x * y) :: st)))) : OG p e below s n0 rc rs Q (T.setTop (mkF m pc Ls (.int y :: .int x :: st))) := by
  obtain ⟨⟨hx, hby, -⟩, -, locs, -, Y⟩ := X
  exact OG.pre (fun _ k => XS.imul Y.here hx rfl (hb hby hd) rfl k) g
theorem OG.iand (X : OS B mL own nm rt Z n0 p l e R s m args below meth c T h cells slots) {x y : Int32} (hd : decode B pc = .ok (.iand, 1))  (g : OG p e below s n0 rc rs Q (T.setTop (mkF m (pc + 1) Ls (.int (x &&& y) :: st)))) : OG p e below s n0 rc rs Q (T.setTop (mkF m pc Ls (.int y :: .int x :: st))) := by
  obtain ⟨⟨hx, hby, -⟩, -, locs, -, Y⟩ := X
  exact OG.pre (fun _ k => XS.iand Y.here hx rfl (hb hby hd) rfl k) g
theorem OG.ior (X : OS B mL own nm rt Z n0 p l e R s m args below meth c T h cells slots) {x y : Int32} (hd : decode B pc = .ok (.ior, 1))  (g : OG p e below s n0 rc rs Q (T.setTop (mkF m (pc + 1) Ls (.int (x ||| y) :: st)))) : OG p e below s n0 rc rs Q (T.setTop (mkF m pc Ls (.int y :: .int x :: st))) := by
  obtain ⟨⟨hx, hby, -⟩, -, locs, -, Y⟩ := X
  exact OG.pre (fun _ k => XS.ior Y.here hx rfl (hb hby hd) rfl k) g
theorem OG.ixor (X : OS B mL own nm rt Z n0 p l e R s m args below meth c T h cells slots) {x y : Int32} (hd : decode B pc = .ok (.ixor, 1))  (g : OG p e below s n0 rc rs Q (T.setTop (mkF m (pc + 1) Ls (.int (x ^^^ y) :: st)))) : OG p e below s n0 rc rs Q (T.setTop (mkF m pc Ls (.int y :: .int x :: st))) := by
  obtain ⟨⟨hx, hby, -⟩, -, locs, -, Y⟩ := X
  exact OG.pre (fun _ k => XS.ixor Y.here hx rfl (hb hby hd) rfl k) g
theorem OG.ishl (X : OS B mL own nm rt Z n0 p l e R s m args below meth c T h cells slots) {x y : Int32} (hd : decode B pc = .ok (.ishl, 1))  (g : OG p e below s n0 rc rs Q (T.setTop (mkF m (pc + 1) Ls (.int (x <<< (y &&& 31)) :: st)))) : OG p e below s n0 rc rs Q (T.setTop (mkF m pc Ls (.int y :: .int x :: st))) := by
  obtain ⟨⟨hx, hby, -⟩, -, locs, -, Y⟩ := X
  exact OG.pre (fun _ k => XS.ishl Y.here hx rfl (hb hby hd) rfl k) g
theorem OG.ishr (X : OS B mL own nm rt Z n0 p l e R s m args below meth c T h cells slots) {x y : Int32} (hd : decode B pc = .ok (.ishr, 1))  (g : OG p e below s n0 rc rs Q (T.setTop (mkF m (pc + 1) Ls (.int (x >>> (y &&& 31)) :: st)))) : OG p e below s n0 rc rs Q (T.setTop (mkF m pc Ls (.int y :: .int x :: st))) := by
  obtain ⟨⟨hx, hby, -⟩, -, locs, -, Y⟩ := X
  exact OG.pre (fun _ k => XS.ishr Y.here hx rfl (hb hby hd) rfl k) g
theorem OG.iushr (X : OS B mL own nm rt Z n0 p l e R s m args below meth c T h cells slots) {x y : Int32} (hd : decode B pc = .ok (.iushr, 1))  (g : OG p e below s n0 rc rs Q (T.setTop (mkF m (pc + 1) Ls (.int ((x.toUInt32 >>> (y &&& 31).toUInt32).toInt32) :: st)))) : OG p e below s n0 rc rs Q (T.setTop (mkF m pc Ls (.int y :: .int x :: st))) := by
  obtain ⟨⟨hx, hby, -⟩, -, locs, -, Y⟩ := X
  exact OG.pre (fun _ k => XS.iushr Y.here hx rfl (hb hby hd) rfl k) g
theorem OG.ladd (X : OS B mL own nm rt Z n0 p l e R s m args below meth c T h cells slots) {x y : Int64} (hd : decode B pc = .ok (.ladd, 1))  (g : OG p e below s n0 rc rs Q (T.setTop (mkF m (pc + 1) Ls (.long (x + y) :: st)))) : OG p e below s n0 rc rs Q (T.setTop (mkF m pc Ls (.long y :: .long x :: st))) := by
  obtain ⟨⟨hx, hby, -⟩, -, locs, -, Y⟩ := X
  exact OG.pre (fun _ k => XS.ladd Y.here hx rfl (hb hby hd) rfl k) g
theorem OG.lsub (X : OS B mL own nm rt Z n0 p l e R s m args below meth c T h cells slots) {x y : Int64} (hd : decode B pc = .ok (.lsub, 1))  (g : OG p e below s n0 rc rs Q (T.setTop (mkF m (pc + 1) Ls (.long (x - y) :: st)))) : OG p e below s n0 rc rs Q (T.setTop (mkF m pc Ls (.long y :: .long x :: st))) := by
  obtain ⟨⟨hx, hby, -⟩, -, locs, -, Y⟩ := X
  exact OG.pre (fun _ k => XS.lsub Y.here hx rfl (hb hby hd) rfl k) g
theorem OG.lmul (X : OS B mL own nm rt Z n0 p l e R s m args below meth c T h cells slots) {x y : Int64} (hd : decode B pc = .ok (.lmul, 1))  (g : OG p e below s n0 rc rs Q (T.setTop (mkF m (pc + 1) Ls (.long (x * y) :: st)))) : OG p e below s n0 rc rs Q (T.setTop (mkF m pc Ls (.long y :: .long x :: st))) := by
  obtain ⟨⟨hx, hby, -⟩, -, locs, -, Y⟩ := X
  exact OG.pre (fun _ k => XS.lmul Y.here hx rfl (hb hby hd) rfl k) g
theorem OG.land (X : OS B mL own nm rt Z n0 p l e R s m args below meth c T h cells slots) {x y : Int64} (hd : decode B pc = .ok (.land, 1))  (g : OG p e below s n0 rc rs Q (T.setTop (mkF m (pc + 1) Ls (.long (x &&& y) :: st)))) : OG p e below s n0 rc rs Q (T.setTop (mkF m pc Ls (.long y :: .long x :: st))) := by
  obtain ⟨⟨hx, hby, -⟩, -, locs, -, Y⟩ := X
  exact OG.pre (fun _ k => XS.land Y.here hx rfl (hb hby hd) rfl k) g
theorem OG.lor (X : OS B mL own nm rt Z n0 p l e R s m args below meth c T h cells slots) {x y : Int64} (hd : decode B pc = .ok (.lor, 1))  (g : OG p e below s n0 rc rs Q (T.setTop (mkF m (pc + 1) Ls (.long (x ||| y) :: st)))) : OG p e below s n0 rc rs Q (T.setTop (mkF m pc Ls (.long y :: .long x :: st))) := by
  obtain ⟨⟨hx, hby, -⟩, -, locs, -, Y⟩ := X
  exact OG.pre (fun _ k => XS.lor Y.here hx rfl (hb hby hd) rfl k) g
theorem OG.lxor (X : OS B mL own nm rt Z n0 p l e R s m args below meth c T h cells slots) {x y : Int64} (hd : decode B pc = .ok (.lxor, 1))  (g : OG p e below s n0 rc rs Q (T.setTop (mkF m (pc + 1) Ls (.long (x ^^^ y) :: st)))) : OG p e below s n0 rc rs Q (T.setTop (mkF m pc Ls (.long y :: .long x :: st))) := by
  obtain ⟨⟨hx, hby, -⟩, -, locs, -, Y⟩ := X
  exact OG.pre (fun _ k => XS.lxor Y.here hx rfl (hb hby hd) rfl k) g
theorem OG.lshl (X : OS B mL own nm rt Z n0 p l e R s m args below meth c T h cells slots) {x : Int64} {y : Int32} (hd : decode B pc = .ok (.lshl, 1))  (g : OG p e below s n0 rc rs Q (T.setTop (mkF m (pc + 1) Ls (.long (x <<< (y &&& 0x3f).toInt64) :: st)))) : OG p e below s n0 rc rs Q (T.setTop (mkF m pc Ls (.int y :: .long x :: st))) := by
  obtain ⟨⟨hx, hby, -⟩, -, locs, -, Y⟩ := X
  exact OG.pre (fun _ k => XS.lshl Y.here hx rfl (hb hby hd) rfl k) g
theorem OG.lshr (X : OS B mL own nm rt Z n0 p l e R s m args below meth c T h cells slots) {x : Int64} {y : Int32} (hd : decode B pc = .ok (.lshr, 1))  (g : OG p e below s n0 rc rs Q (T.setTop (mkF m (pc + 1) Ls (.long (x >>> (y &&& 0x3f).toInt64) :: st)))) : OG p e below s n0 rc rs Q (T.setTop (mkF m pc Ls (.int y :: .long x :: st))) := by
  obtain ⟨⟨hx, hby, -⟩, -, locs, -, Y⟩ := X
  exact OG.pre (fun _ k => XS.lshr Y.here hx rfl (hb hby hd) rfl k) g
theorem OG.lushr (X : OS B mL own nm rt Z n0 p l e R s m args below meth c T h cells slots) {x : Int64} {y : Int32} (hd : decode B pc = .ok (.lushr, 1))  (g : OG p e below s n0 rc rs Q (T.setTop (mkF m (pc + 1) Ls (.long ((x.toUInt64 >>> (y &&& 0x3f).toInt64.toUInt64).toInt64) :: st)))) : OG p e below s n0 rc rs Q (T.setTop (mkF m pc Ls (.int y :: .long x :: st))) := by
  obtain ⟨⟨hx, hby, -⟩, -, locs, -, Y⟩ := X
  exact OG.pre (fun _ k => XS.lushr Y.here hx rfl (hb hby hd) rfl k) g
theorem OG.idiv (X : OS B mL own nm rt Z n0 p l e R s m args below meth c T h cells slots) {x y : Int32} (hd : decode B pc = .ok (.idiv, 1)) (hy : y ≠ 0) (g : OG p e below s n0 rc rs Q (T.setTop (mkF m (pc + 1) Ls (.int (x / y) :: st)))) : OG p e below s n0 rc rs Q (T.setTop (mkF m pc Ls (.int y :: .int x :: st))) := by
  obtain ⟨⟨hx, hby, -⟩, -, locs, -, Y⟩ := X
  exact OG.pre (fun _ k => XS.idiv Y.here hx rfl (hb hby hd) rfl hy k) g
theorem OG.ldiv (X : OS B mL own nm rt Z n0 p l e R s m args below meth c T h cells slots) {x y : Int64} (hd : decode B pc = .ok (.ldiv, 1)) (hy : y ≠ 0) (g : OG p e below s n0 rc rs Q (T.setTop (mkF m (pc + 1) Ls (.long (x / y) :: st)))) : OG p e below s n0 rc rs Q (T.setTop (mkF m pc Ls (.long y :: .long x :: st))) := by
  obtain ⟨⟨hx, hby, -⟩, -, locs, -, Y⟩ := X
  exact OG.pre (fun _ k => XS.ldiv Y.here hx rfl (hb hby hd) rfl hy k) g
theorem OG.irem (X : OS B mL own nm rt Z n0 p l e R s m args below meth c T h cells slots) {x y : Int32} (hd : decode B pc = .ok (.irem, 1)) (hy : y ≠ 0) (g : OG p e below s n0 rc rs Q (T.setTop (mkF m (pc + 1) Ls (.int (x % y) :: st)))) : OG p e below s n0 rc rs Q (T.setTop (mkF m pc Ls (.int y :: .int x :: st))) := by
  obtain ⟨⟨hx, hby, -⟩, -, locs, -, Y⟩ := X
  exact OG.pre (fun _ k => iremM Y hx rfl (hb hby hd) rfl hy k) g
theorem OG.lrem (X : OS B mL own nm rt Z n0 p l e R s m args below meth c T h cells slots) {x y : Int64} (hd : decode B pc = .ok (.lrem, 1)) (hy : y ≠ 0) (g : OG p e below s n0 rc rs Q (T.setTop (mkF m (pc + 1) Ls (.long (x - x / y * y) :: st)))) : OG p e below s n0 rc rs Q (T.setTop (mkF m pc Ls (.long y :: .long x :: st))) := by
  obtain ⟨⟨hx, hby, -⟩, -, locs, -, Y⟩ := X
  exact OG.pre (fun _ k => XS.lrem Y.here hx rfl (hb hby hd) rfl hy k) g
theorem OG.ineg (X : OS B mL own nm rt Z n0 p l e R s m args below meth c T h cells slots) {x : Int32} (hd : decode B pc = .ok (.ineg, 1))  (g : OG p e below s n0 rc rs Q (T.setTop (mkF m (pc + 1) Ls (.int (-x) :: st)))) : OG p e below s n0 rc rs Q (T.setTop (mkF m pc Ls (.int x :: st))) := by
  obtain ⟨⟨hx, hby, -⟩, -, locs, -, Y⟩ := X
  exact OG.pre (fun _ k => XS.ineg Y.here hx rfl (hb hby hd) rfl k) g
theorem OG.lneg (X : OS B mL own nm rt Z n0 p l e R s m args below meth c T h cells slots) {x : Int64} (hd : decode B pc = .ok (.lneg, 1))  (g : OG p e below s n0 rc rs Q (T.setTop (mkF m (pc + 1) Ls (.long (-x) :: st)))) : OG p e below s n0 rc rs Q (T.setTop (mkF m pc Ls (.long x :: st))) := by
  obtain ⟨⟨hx, hby, -⟩, -, locs, -, Y⟩ := X
  exact OG.pre (fun _ k => XS.lneg Y.here hx rfl (hb hby hd) rfl k) g
theorem OG.i2l (X : OS B mL own nm rt Z n0 p l e R s m args below meth c T h cells slots) {x : Int32} (hd : decode B pc = .ok (.i2l, 1))  (g : OG p e below s n0 rc rs Q (T.setTop (mkF m (pc + 1) Ls (.long (x.toInt64) :: st)))) : OG p e below s n0 rc rs Q (T.setTop (mkF m pc Ls (.int x :: st))) := by
  obtain ⟨⟨hx, hby, -⟩, -, locs, -, Y⟩ := X
  exact OG.pre (fun _ k => XS.i2l Y.here hx rfl (hb hby hd) rfl k) g
theorem OG.l2i (X : OS B mL own nm rt Z n0 p l e R s m args below meth c T h cells slots) {x : Int64} (hd : decode B pc = .ok (.l2i, 1))  (g : OG p e below s n0 rc rs Q (T.setTop (mkF m (pc + 1) Ls (.int (x.toInt32) :: st)))) : OG p e below s n0 rc rs Q (T.setTop (mkF m pc Ls (.long x :: st))) := by
  obtain ⟨⟨hx, hby, -⟩, -, locs, -, Y⟩ := X
  exact OG.pre (fun _ k => XS.l2i Y.here hx rfl (hb hby hd) rfl k) g
theorem OG.i2b (X : OS B mL own nm rt Z n0 p l e R s m args below meth c T h cells slots) {x : Int32} (hd : decode B pc = .ok (.i2b, 1))  (g : OG p e below s n0 rc rs Q (T.setTop (mkF m (pc + 1) Ls (.int (x.toInt8.toInt32) :: st)))) : OG p e below s n0 rc rs Q (T.setTop (mkF m pc Ls (.int x :: st))) := by
  obtain ⟨⟨hx, hby, -⟩, -, locs, -, Y⟩ := X
  exact OG.pre (fun _ k => XS.i2b Y.here hx rfl (hb hby hd) rfl k) g
theorem OG.i2s (X : OS B mL own nm rt Z n0 p l e R s m args below meth c T h cells slots) {x : Int32} (hd : decode B pc = .ok (.i2s, 1))  (g : OG p e below s n0 rc rs Q (T.setTop (mkF m (pc + 1) Ls (.int (x.toInt16.toInt32) :: st)))) : OG p e below s n0 rc rs Q (T.setTop (mkF m pc Ls (.int x :: st))) := by
  obtain ⟨⟨hx, hby, -⟩, -, locs, -, Y⟩ := X
  exact OG.pre (fun _ k => XS.i2s Y.here hx rfl (hb hby hd) rfl k) g
theorem OG.i2c (X : OS B mL own nm rt Z n0 p l e R s m args below meth c T h cells slots) {x : Int32} (hd : decode B pc = .ok (.i2c, 1))  (g : OG p e below s n0 rc rs Q (T.setTop (mkF m (pc + 1) Ls (.int (x.toUInt32.toUInt16.toUInt32.toInt32) :: st)))) : OG p e below s n0 rc rs Q (T.setTop (mkF m pc Ls (.int x :: st))) := by
  obtain ⟨⟨hx, hby, -⟩, -, locs, -, Y⟩ := X
  exact OG.pre (fun _ k => XS.i2c Y.here hx rfl (hb hby hd) rfl k) g
theorem OG.lcmp (X : OS B mL own nm rt Z n0 p l e R s m args below meth c T h cells slots) {x y : Int64} (hd : decode B pc = .ok (.lcmp, 1))  (g : OG p e below s n0 rc rs Q (T.setTop (mkF m (pc + 1) Ls (.int (lcmpW x y) :: st)))) : OG p e below s n0 rc rs Q (T.setTop (mkF m pc Ls (.long y :: .long x :: st))) := by
  obtain ⟨⟨hx, hby, -⟩, -, locs, -, Y⟩ := X
  exact OG.pre (fun _ k => XS.lcmp Y.here hx rfl (hb hby hd) rfl k) g
theorem OG.dup (X : OS B mL own nm rt Z n0 p l e R s m args below meth c T h cells slots) {x : Value} (hd : decode B pc = .ok (.dup, 1)) (hc : x.category = 1) (g : OG p e below s n0 rc rs Q (T.setTop (mkF m (pc + 1) Ls (x :: x :: st)))) : OG p e below s n0 rc rs Q (T.setTop (mkF m pc Ls (x :: st))) := by
  obtain ⟨⟨hx, hby, -⟩, -, locs, -, Y⟩ := X
  exact OG.pre (fun _ k => XS.dup Y.here hx rfl (hb hby hd) rfl hc k) g
theorem OG.pop (X : OS B mL own nm rt Z n0 p l e R s m args below meth c T h cells slots) {x : Value} (hd : decode B pc = .ok (.pop, 1)) (hc : x.category = 1) (g : OG p e below s n0 rc rs Q (T.setTop (mkF m (pc + 1) Ls st))) : OG p e below s n0 rc rs Q (T.setTop (mkF m pc Ls (x :: st))) := by
  obtain ⟨⟨hx, hby, -⟩, -, locs, -, Y⟩ := X
  exact OG.pre (fun _ k => XS.pop Y.here hx rfl (hb hby hd) rfl hc k) g
theorem OG.dupX1 (X : OS B mL own nm rt Z n0 p l e R s m args below meth c T h cells slots) {x y : Value} (hd : decode B pc = .ok (.dup_x1, 1)) (hc : x.category = 1) (hc' : y.category = 1) (g : OG p e below s n0 rc rs Q (T.setTop (mkF m (pc + 1) Ls (x :: y :: x :: st)))) : OG p e below s n0 rc rs Q (T.setTop (mkF m pc Ls (x :: y :: st))) := by
  obtain ⟨⟨hx, hby, -⟩, -, locs, -, Y⟩ := X
  exact OG.pre (fun _ k => XS.dupX1 Y.here hx rfl (hb hby hd) rfl hc hc' k) g
theorem OG.dup2 (X : OS B mL own nm rt Z n0 p l e R s m args below meth c T h cells slots) {x y : Value} (hd : decode B pc = .ok (.dup2, 1)) (hc : x.category = 1) (hc' : y.category = 1) (g : OG p e below s n0 rc rs Q (T.setTop (mkF m (pc + 1) Ls (x :: y :: x :: y :: st)))) : OG p e below s n0 rc rs Q (T.setTop (mkF m pc Ls (x :: y :: st))) := by
  obtain ⟨⟨hx, hby, -⟩, -, locs, -, Y⟩ := X
  exact OG.pre (fun _ k => Jvm.Free.XT.dup2 Y.here hx rfl (hb hby hd) rfl hc hc' k) g
theorem OG.iinc (X : OS B mL own nm rt Z n0 p l e R s m args below meth c T h cells slots) {k : Nat} {i : Int} {x z : Int32} {l' : Array Slot} (hd : decode B pc = .ok (.iinc k i, 3)) (hl : Ls[k]? = some (.val (.int x))) (hz : Int32.ofInt i = z) (hl' : storeLocals Ls k (.int (x + z)) = some l') (g : OG p e below s n0 rc rs Q (T.setTop (mkF m (pc + 3) l' st))) : OG p e below s n0 rc rs Q (T.setTop (mkF m pc Ls st)) := by
  obtain ⟨⟨hx, hby, -⟩, -, locs, -, Y⟩ := X
  subst hz
  exact OG.pre (fun _ q => XS.iinc Y.here hx rfl (hb hby hd) hl hl' q) g
theorem OG.goto (X : OS B mL own nm rt Z n0 p l e R s m args below meth c T h cells slots) {o : Int} {pc' : Nat} (hd : decode B pc = .ok (.goto o, 3)) (hp : 0 ≤ (pc : Int) + o ∧ ((pc : Int) + o).toNat = pc') (g : OG p e below s n0 rc rs Q (T.setTop (mkF m pc' Ls st))) : OG p e below s n0 rc rs Q (T.setTop (mkF m pc Ls st)) := by
  obtain ⟨⟨hx, hby, -⟩, -, locs, -, Y⟩ := X
  exact OG.pre (fun _ q => XS.goto Y.here hx rfl (pc0 := pc) rfl (hb hby hd) hp.1 hp.2 q) g
theorem OG.icmp_lt_t (X : OS B mL own nm rt Z n0 p l e R s m args below meth c T h cells slots) {x y : Int32} {o : Int} {pc' : Nat} (hd : decode B pc = .ok (.if_icmp .lt o, 3)) (hp : 0 ≤ (pc : Int) + o ∧ ((pc : Int) + o).toNat = pc') (hq : x < y) (g : OG p e below s n0 rc rs Q (T.setTop (mkF m pc' Ls st))) : OG p e below s n0 rc rs Q (T.setTop (mkF m pc Ls (.int y :: .int x :: st))) := by
  obtain ⟨⟨hx, hby, -⟩, -, locs, -, Y⟩ := X
  exact OG.pre (fun _ q => XS.icmpYes Y.here hx rfl (pc0 := pc) rfl (hb hby hd) rfl (tlt hq).1 hp.1 hp.2 q) g
theorem OG.icmp_lt_f (X : OS B mL own nm rt Z n0 p l e R s m args below meth c T h cells slots) {x y : Int32} {o : Int} (hd : decode B pc = .ok (.if_icmp .lt o, 3)) (hq : ¬ x < y) (g : OG p e below s n0 rc rs Q (T.setTop (mkF m (pc + 3) Ls st))) : OG p e below s n0 rc rs Q (T.setTop (mkF m pc Ls (.int y :: .int x :: st))) := by
  obtain ⟨⟨hx, hby, -⟩, -, locs, -, Y⟩ := X
  exact OG.pre (fun _ q => XS.icmpNo Y.here hx rfl (hb hby hd) rfl (flt hq).1 q) g
theorem OG.icmp_lt (X : OS B mL own nm rt Z n0 p l e R s m args below meth c T h cells slots) {x y : Int32} {o : Int} {pc' : Nat} (hd : decode B pc = .ok (.if_icmp .lt o, 3)) (hp : 0 ≤ (pc : Int) + o ∧ ((pc : Int) + o).toNat = pc') (g1 : x < y → OG p e below s n0 rc rs Q (T.setTop (mkF m pc' Ls st))) (g2 : ¬ x < y → OG p e below s n0 rc rs Q (T.setTop (mkF m (pc + 3) Ls st))) : OG p e below s n0 rc rs Q (T.setTop (mkF m pc Ls (.int y :: .int x :: st))) :=
  if hq : x < y then OG.icmp_lt_t X hd hp hq (g1 hq) else OG.icmp_lt_f X hd hq (g2 hq)
theorem OG.if_lt_t (X : OS B mL own nm rt Z n0 p l e R s m args below meth c T h cells slots) {x : Int32} {o : Int} {pc' : Nat} (hd : decode B pc = .ok (.ifCond .lt o, 3)) (hp : 0 ≤ (pc : Int) + o ∧ ((pc : Int) + o).toNat = pc') (hq : x < 0) (g : OG p e below s n0 rc rs Q (T.setTop (mkF m pc' Ls st))) : OG p e below s n0 rc rs Q (T.setTop (mkF m pc Ls (.int x :: st))) := by
  obtain ⟨⟨hx, hby, -⟩, -, locs, -, Y⟩ := X
  exact OG.pre (fun _ q => XS.ifYes Y.here hx rfl (pc0 := pc) rfl (hb hby hd) rfl ((if0 _ _).trans (tlt hq).1) hp.1 hp.2 q) g
theorem OG.if_lt_f (X : OS B mL own nm rt Z n0 p l e R s m args below meth c T h cells slots) {x : Int32} {o : Int} (hd : decode B pc = .ok (.ifCond .lt o, 3)) (hq : ¬ x < 0) (g : OG p e below s n0 rc rs Q (T.setTop (mkF m (pc + 3) Ls st))) : OG p e below s n0 rc rs Q (T.setTop (mkF m pc Ls (.int x :: st))) := by
  obtain ⟨⟨hx, hby, -⟩, -, locs, -, Y⟩ := X
  exact OG.pre (fun _ q => XS.ifNo Y.here hx rfl (hb hby hd) rfl ((if0 _ _).trans (flt hq).1) q) g
theorem OG.if_lt (X : OS B mL own nm rt Z n0 p l e R s m args below meth c T h cells slots) {x : Int32} {o : Int} {pc' : Nat} (hd : decode B pc = .ok (.ifCond .lt o, 3)) (hp : 0 ≤ (pc : Int) + o ∧ ((pc : Int) + o).toNat = pc') (g1 : x < 0 → OG p e below s n0 rc rs Q (T.setTop (mkF m pc' Ls st))) (g2 : ¬ x < 0 → OG p e below s n0 rc rs Q (T.setTop (mkF m (pc + 3) Ls st))) : OG p e below s n0 rc rs Q (T.setTop (mkF m pc Ls (.int x :: st))) :=
  if hq : x < 0 then OG.if_lt_t X hd hp hq (g1 hq) else OG.if_lt_f X hd hq (g2 hq)
theorem OG.ifl_lt_t (X : OS B mL own nm rt Z n0 p l e R s m args below meth c T h cells slots) {x y : Int64} {o : Int} {pc' : Nat} (hd : decode B pc = .ok (.ifCond .lt o, 3)) (hp : 0 ≤ (pc : Int) + o ∧ ((pc : Int) + o).toNat = pc') (hq : x < y) (g : OG p e below s n0 rc rs Q (T.setTop (mkF m pc' Ls st))) : OG p e below s n0 rc rs Q (T.setTop (mkF m pc Ls (.int (lcmpW x y) :: st))) := by
  obtain ⟨⟨hx, hby, -⟩, -, locs, -, Y⟩ := X
  exact OG.pre (fun _ q => XS.ifYes Y.here hx rfl (pc0 := pc) rfl (hb hby hd) rfl ((if0 _ _).trans (tlt ((lw_lt x y).mpr hq)).1) hp.1 hp.2 q) g
theorem OG.ifl_lt_f (X : OS B mL own nm rt Z n0 p l e R s m args below meth c T h cells slots) {x y : Int64} {o : Int} (hd : decode B pc = .ok (.ifCond .lt o, 3)) (hq : ¬ x < y) (g : OG p e below s n0 rc rs Q (T.setTop (mkF m (pc + 3) Ls st))) : OG p e below s n0 rc rs Q (T.setTop (mkF m pc Ls (.int (lcmpW x y) :: st))) := by
  obtain ⟨⟨hx, hby, -⟩, -, locs, -, Y⟩ := X
  exact OG.pre (fun _ q => XS.ifNo Y.here hx rfl (hb hby hd) rfl ((if0 _ _).trans (flt (fun q => hq ((lw_lt x y).mp q))).1) q) g
theorem OG.ifl_lt (X : OS B mL own nm rt Z n0 p l e R s m args below meth c T h cells slots) {x y : Int64} {o : Int} {pc' : Nat} (hd : decode B pc = .ok (.ifCond .lt o, 3)) (hp : 0 ≤ (pc : Int) + o ∧ ((pc : Int) + o).toNat = pc') (g1 : x < y → OG p e below s n0 rc rs Q (T.setTop (mkF m pc' Ls st))) (g2 : ¬ x < y → OG p e below s n0 rc rs Q (T.setTop (mkF m (pc + 3) Ls st))) : OG p e below s n0 rc rs Q (T.setTop (mkF m pc Ls (.int (lcmpW x y) :: st))) :=
  if hq : x < y then OG.ifl_lt_t X hd hp hq (g1 hq) else OG.ifl_lt_f X hd hq (g2 hq)
theorem OG.icmp_ge_t (X : OS B mL own nm rt Z n0 p l e R s m args below meth c T h cells slots) {x y : Int32} {o : Int} {pc' : Nat} (hd : decode B pc = .ok (.if_icmp .ge o, 3)) (hp : 0 ≤ (pc : Int) + o ∧ ((pc : Int) + o).toNat = pc') (hq : ¬ x < y) (g : OG p e below s n0 rc rs Q (T.setTop (mkF m pc' Ls st))) : OG p e below s n0 rc rs Q (T.setTop (mkF m pc Ls (.int y :: .int x :: st))) := by
  obtain ⟨⟨hx, hby, -⟩, -, locs, -, Y⟩ := X
  exact OG.pre (fun _ q => XS.icmpYes Y.here hx rfl (pc0 := pc) rfl (hb hby hd) rfl (flt hq).2.1 hp.1 hp.2 q) g
theorem OG.icmp_ge_f (X : OS B mL own nm rt Z n0 p l e R s m args below meth c T h cells slots) {x y : Int32} {o : Int} (hd : decode B pc = .ok (.if_icmp .ge o, 3)) (hq : x < y) (g : OG p e below s n0 rc rs Q (T.setTop (mkF m (pc + 3) Ls st))) : OG p e below s n0 rc rs Q (T.setTop (mkF m pc Ls (.int y :: .int x :: st))) := by
  obtain ⟨⟨hx, hby, -⟩, -, locs, -, Y⟩ := X
  exact OG.pre (fun _ q => XS.icmpNo Y.here hx rfl (hb hby hd) rfl (tlt hq).2.1 q) g
theorem OG.icmp_ge (X : OS B mL own nm rt Z n0 p l e R s m args below meth c T h cells slots) {x y : Int32} {o : Int} {pc' : Nat} (hd : decode B pc = .ok (.if_icmp .ge o, 3)) (hp : 0 ≤ (pc : Int) + o ∧ ((pc : Int) + o).toNat = pc') (g1 : ¬ x < y → OG p e below s n0 rc rs Q (T.setTop (mkF m pc' Ls st))) (g2 : x < y → OG p e below s n0 rc rs Q (T.setTop (mkF m (pc + 3) Ls st))) : OG p e below s n0 rc rs Q (T.setTop (mkF m pc Ls (.int y :: .int x :: st))) :=
  if hq : x < y then OG.icmp_ge_f X hd hq (g2 hq) else OG.icmp_ge_t X hd hp hq (g1 hq)
theorem OG.if_ge_t (X : OS B mL own nm rt Z n0 p l e R s m args below meth c T h cells slots) {x : Int32} {o : Int} {pc' : Nat} (hd : decode B pc = .ok (.ifCond .ge o, 3)) (hp : 0 ≤ (pc : Int) + o ∧ ((pc : Int) + o).toNat = pc') (hq : ¬ x < 0) (g : OG p e below s n0 rc rs Q (T.setTop (mkF m pc' Ls st))) : OG p e below s n0 rc rs Q (T.setTop (mkF m pc Ls (.int x :: st))) := by
  obtain ⟨⟨hx, hby, -⟩, -, locs, -, Y⟩ := X
  exact OG.pre (fun _ q => XS.ifYes Y.here hx rfl (pc0 := pc) rfl (hb hby hd) rfl ((if0 _ _).trans (flt hq).2.1) hp.1 hp.2 q) g
theorem OG.if_ge_f (X : OS B mL own nm rt Z n0 p l e R s m args below meth c T h cells slots) {x : Int32} {o : Int} (hd : decode B pc = .ok (.ifCond .ge o, 3)) (hq : x < 0) (g : OG p e below s n0 rc rs Q (T.setTop (mkF m (pc + 3) Ls st))) : OG p e below s n0 rc rs Q (T.setTop (mkF m pc Ls (.int x :: st))) := by
  obtain ⟨⟨hx, hby, -⟩, -, locs, -, Y⟩ := X
  exact OG.pre (fun _ q => XS.ifNo Y.here hx rfl (hb hby hd) rfl ((if0 _ _).trans (tlt hq).2.1) q) g
theorem OG.if_ge (X : OS B mL own nm rt Z n0 p l e R s m args below meth c T h cells slots) {x : Int32} {o : Int} {pc' : Nat} (hd : decode B pc = .ok (.ifCond .ge o, 3)) (hp : 0 ≤ (pc : Int) + o ∧ ((pc : Int) + o).toNat = pc') (g1 : ¬ x < 0 → OG p e below s n0 rc rs Q (T.setTop (mkF m pc' Ls st))) (g2 : x < 0 → OG p e below s n0 rc rs Q (T.setTop (mkF m (pc + 3) Ls st))) : OG p e below s n0 rc rs Q (T.setTop (mkF m pc Ls (.int x :: st))) :=
  if hq : x < 0 then OG.if_ge_f X hd hq (g2 hq) else OG.if_ge_t X hd hp hq (g1 hq)
theorem OG.ifl_ge_t (X : OS B mL own nm rt Z n0 p l e R s m args below meth c T h cells slots) {x y : Int64} {o : Int} {pc' : Nat} (hd : decode B pc = .ok (.ifCond .ge o, 3)) (hp : 0 ≤ (pc : Int) + o ∧ ((pc : Int) + o).toNat = pc') (hq : ¬ x < y) (g : OG p e below s n0 rc rs Q (T.setTop (mkF m pc' Ls st))) : OG p e below s n0 rc rs Q (T.setTop (mkF m pc Ls (.int (lcmpW x y) :: st))) := by
  obtain ⟨⟨hx, hby, -⟩, -, locs, -, Y⟩ := X
  exact OG.pre (fun _ q => XS.ifYes Y.here hx rfl (pc0 := pc) rfl (hb hby hd) rfl ((if0 _ _).trans (flt (fun q => hq ((lw_lt x y).mp q))).2.1) hp.1 hp.2 q) g
theorem OG.ifl_ge_f (X : OS B mL own nm rt Z n0 p l e R s m args below meth c T h cells slots) {x y : Int64} {o : Int} (hd : decode B pc = .ok (.ifCond .ge o, 3)) (hq : x < y) (g : OG p e below s n0 rc rs Q (T.setTop (mkF m (pc + 3) Ls st))) : OG p e below s n0 rc rs Q (T.setTop (mkF m pc Ls (.int (lcmpW x y) :: st))) := by
  obtain ⟨⟨hx, hby, -⟩, -, locs, -, Y⟩ := X
  exact OG.pre (fun _ q => XS.ifNo Y.here hx rfl (hb hby hd) rfl ((if0 _ _).trans (tlt ((lw_lt x y).mpr hq)).2.1) q) g
theorem OG.ifl_ge (X : OS B mL own nm rt Z n0 p l e R s m args below meth c T h cells slots) {x y : Int64} {o : Int} {pc' : Nat} (hd : decode B pc = .ok (.ifCond .ge o, 3)) (hp : 0 ≤ (pc : Int) + o ∧ ((pc : Int) + o).toNat = pc') (g1 : ¬ x < y → OG p e below s n0 rc rs Q (T.setTop (mkF m pc' Ls st))) (g2 : x < y → OG p e below s n0 rc rs Q (T.setTop (mkF m (pc + 3) Ls st))) : OG p e below s n0 rc rs Q (T.setTop (mkF m pc Ls (.int (lcmpW x y) :: st))) :=
  if hq : x < y then OG.ifl_ge_f X hd hq (g2 hq) else OG.ifl_ge_t X hd hp hq (g1 hq)
theorem OG.icmp_gt_t (X : OS B mL own nm rt Z n0 p l e R s m args below meth c T h cells slots) {x y : Int32} {o : Int} {pc' : Nat} (hd : decode B pc = .ok (.if_icmp .gt o, 3)) (hp : 0 ≤ (pc : Int) + o ∧ ((pc : Int) + o).toNat = pc') (hq : y < x) (g : OG p e below s n0 rc rs Q (T.setTop (mkF m pc' Ls st))) : OG p e below s n0 rc rs Q (T.setTop (mkF m pc Ls (.int y :: .int x :: st))) := by
  obtain ⟨⟨hx, hby, -⟩, -, locs, -, Y⟩ := X
  exact OG.pre (fun _ q => XS.icmpYes Y.here hx rfl (pc0 := pc) rfl (hb hby hd) rfl (tlt hq).2.2.1 hp.1 hp.2 q) g
theorem OG.icmp_gt_f (X : OS B mL own nm rt Z n0 p l e R s m args below meth c T h cells slots) {x y : Int32} {o : Int} (hd : decode B pc = .ok (.if_icmp .gt o, 3)) (hq : ¬ y < x) (g : OG p e below s n0 rc rs Q (T.setTop (mkF m (pc + 3) Ls st))) : OG p e below s n0 rc rs Q (T.setTop (mkF m pc Ls (.int y :: .int x :: st))) := by
  obtain ⟨⟨hx, hby, -⟩, -, locs, -, Y⟩ := X
  exact OG.pre (fun _ q => XS.icmpNo Y.here hx rfl (hb hby hd) rfl (flt hq).2.2.1 q) g
theorem OG.icmp_gt (X : OS B mL own nm rt Z n0 p l e R s m args below meth c T h cells slots) {x y : Int32} {o : Int} {pc' : Nat} (hd : decode B pc = .ok (.if_icmp .gt o, 3)) (hp : 0 ≤ (pc : Int) + o ∧ ((pc : Int) + o).toNat = pc') (g1 : y < x → OG p e below s n0 rc rs Q (T.setTop (mkF m pc' Ls st))) (g2 : ¬ y < x → OG p e below s n0 rc rs Q (T.setTop (mkF m (pc + 3) Ls st))) : OG p e below s n0 rc rs Q (T.setTop (mkF m pc Ls (.int y :: .int x :: st))) :=
  if hq : y < x then OG.icmp_gt_t X hd hp hq (g1 hq) else OG.icmp_gt_f X hd hq (g2 hq)
theorem OG.if_gt_t (X : OS B mL own nm rt Z n0 p l e R s m args below meth c T h cells slots) {x : Int32} {o : Int} {pc' : Nat} (hd : decode B pc = .ok (.ifCond .gt o, 3)) (hp : 0 ≤ (pc : Int) + o ∧ ((pc : Int) + o).toNat = pc') (hq : 0 < x) (g : OG p e below s n0 rc rs Q (T.setTop (mkF m pc' Ls st))) : OG p e below s n0 rc rs Q (T.setTop (mkF m pc Ls (.int x :: st))) := by
  obtain ⟨⟨hx, hby, -⟩, -, locs, -, Y⟩ := X
  exact OG.pre (fun _ q => XS.ifYes Y.here hx rfl (pc0 := pc) rfl (hb hby hd) rfl ((if0 _ _).trans (tlt hq).2.2.1) hp.1 hp.2 q) g
theorem OG.if_gt_f (X : OS B mL own nm rt Z n0 p l e R s m args below meth c T h cells slots) {x : Int32} {o : Int} (hd : decode B pc = .ok (.ifCond .gt o, 3)) (hq : ¬ 0 < x) (g : OG p e below s n0 rc rs Q (T.setTop (mkF m (pc + 3) Ls st))) : OG p e below s n0 rc rs Q (T.setTop (mkF m pc Ls (.int x :: st))) := by
  obtain ⟨⟨hx, hby, -⟩, -, locs, -, Y⟩ := X
  exact OG.pre (fun _ q => XS.ifNo Y.here hx rfl (hb hby hd) rfl ((if0 _ _).trans (flt hq).2.2.1) q) g
theorem OG.if_gt (X : OS B mL own nm rt Z n0 p l e R s m args below meth c T h cells slots) {x : Int32} {o : Int} {pc' : Nat} (hd : decode B pc = .ok (.ifCond .gt o, 3)) (hp : 0 ≤ (pc : Int) + o ∧ ((pc : Int) + o).toNat = pc') (g1 : 0 < x → OG p e below s n0 rc rs Q (T.setTop (mkF m pc' Ls st))) (g2 : ¬ 0 < x → OG p e below s n0 rc rs Q (T.setTop (mkF m (pc + 3) Ls st))) : OG p e below s n0 rc rs Q (T.setTop (mkF m pc Ls (.int x :: st))) :=
  if hq : 0 < x then OG.if_gt_t X hd hp hq (g1 hq) else OG.if_gt_f X hd hq (g2 hq)
theorem OG.ifl_gt_t (X : OS B mL own nm rt Z n0 p l e R s m args below meth c T h cells slots) {x y : Int64} {o : Int} {pc' : Nat} (hd : decode B pc = .ok (.ifCond .gt o, 3)) (hp : 0 ≤ (pc : Int) + o ∧ ((pc : Int) + o).toNat = pc') (hq : y < x) (g : OG p e below s n0 rc rs Q (T.setTop (mkF m pc' Ls st))) : OG p e below s n0 rc rs Q (T.setTop (mkF m pc Ls (.int (lcmpW x y) :: st))) := by
  obtain ⟨⟨hx, hby, -⟩, -, locs, -, Y⟩ := X
  exact OG.pre (fun _ q => XS.ifYes Y.here hx rfl (pc0 := pc) rfl (hb hby hd) rfl ((if0 _ _).trans (tlt ((lw_gt x y).mpr hq)).2.2.1) hp.1 hp.2 q) g
theorem OG.ifl_gt_f (X : OS B mL own nm rt Z n0 p l e R s m args below meth c T h cells slots) {x y : Int64} {o : Int} (hd : decode B pc = .ok (.ifCond .gt o, 3)) (hq : ¬ y < x) (g : OG p e below s n0 rc rs Q (T.setTop (mkF m (pc + 3) Ls st))) : OG p e below s n0 rc rs Q (T.setTop (mkF m pc Ls (.int (lcmpW x y) :: st))) := by
  obtain ⟨⟨hx, hby, -⟩, -, locs, -, Y⟩ := X
  exact OG.pre (fun _ q => XS.ifNo Y.here hx rfl (hb hby hd) rfl ((if0 _ _).trans (flt (fun q => hq ((lw_gt x y).mp q))).2.2.1) q) g
theorem OG.ifl_gt (X : OS B mL own nm rt Z n0 p l e R s m args below meth c T h cells slots) {x y : Int64} {o : Int} {pc' : Nat} (hd : decode B pc = .ok (.ifCond .gt o, 3)) (hp : 0 ≤ (pc : Int) + o ∧ ((pc : Int) + o).toNat = pc') (g1 : y < x → OG p e below s n0 rc rs Q (T.setTop (mkF m pc' Ls st))) (g2 : ¬ y < x → OG p e below s n0 rc rs Q (T.setTop (mkF m (pc + 3) Ls st))) : OG p e below s n0 rc rs Q (T.setTop (mkF m pc Ls (.int (lcmpW x y) :: st))) :=
  if hq : y < x then OG.ifl_gt_t X hd hp hq (g1 hq) else OG.ifl_gt_f X hd hq (g2 hq)
theorem OG.icmp_le_t (X : OS B mL own nm rt Z n0 p l e R s m args below meth c T h cells slots) {x y : Int32} {o : Int} {pc' : Nat} (hd : decode B pc = .ok (.if_icmp .le o, 3)) (hp : 0 ≤ (pc : Int) + o ∧ ((pc : Int) + o).toNat = pc') (hq : ¬ y < x) (g : OG p e below s n0 rc rs Q (T.setTop (mkF m pc' Ls st))) : OG p e below s n0 rc rs Q (T.setTop (mkF m pc Ls (.int y :: .int x :: st))) := by
  obtain ⟨⟨hx, hby, -⟩, -, locs, -, Y⟩ := X
  exact OG.pre (fun _ q => XS.icmpYes Y.here hx rfl (pc0 := pc) rfl (hb hby hd) rfl (flt hq).2.2.2 hp.1 hp.2 q) g
theorem OG.icmp_le_f (X : OS B mL own nm rt Z n0 p l e R s m args below meth c T h cells slots) {x y : Int32} {o : Int} (hd : decode B pc = .ok (.if_icmp .le o, 3)) (hq : y < x) (g : OG p e below s n0 rc rs Q (T.setTop (mkF m (pc + 3) Ls st))) : OG p e below s n0 rc rs Q (T.setTop (mkF m pc Ls (.int y :: .int x :: st))) := by
  obtain ⟨⟨hx, hby, -⟩, -, locs, -, Y⟩ := X
  exact OG.pre (fun _ q => XS.icmpNo Y.here hx rfl (hb hby hd) rfl (tlt hq).2.2.2 q) g
theorem OG.icmp_le (X : OS B mL own nm rt Z n0 p l e R s m args below meth c T h cells slots) {x y : Int32} {o : Int} {pc' : Nat} (hd : decode B pc = .ok (.if_icmp .le o, 3)) (hp : 0 ≤ (pc : Int) + o ∧ ((pc : Int) + o).toNat = pc') (g1 : ¬ y < x → OG p e below s n0 rc rs Q (T.setTop (mkF m pc' Ls st))) (g2 : y < x → OG p e below s n0 rc rs Q (T.setTop (mkF m (pc + 3) Ls st))) : OG p e below s n0 rc rs Q (T.setTop (mkF m pc Ls (.int y :: .int x :: st))) :=
  if hq : y < x then OG.icmp_le_f X hd hq (g2 hq) else OG.icmp_le_t X hd hp hq (g1 hq)
theorem OG.if_le_t (X : OS B mL own nm rt Z n0 p l e R s m args below meth c T h cells slots) {x : Int32} {o : Int} {pc' : Nat} (hd : decode B pc = .ok (.ifCond .le o, 3)) (hp : 0 ≤ (pc : Int) + o ∧ ((pc : Int) + o).toNat = pc') (hq : ¬ 0 < x) (g : OG p e below s n0 rc rs Q (T.setTop (mkF m pc' Ls st))) : OG p e below s n0 rc rs Q (T.setTop (mkF m pc Ls (.int x :: st))) := by
  obtain ⟨⟨hx, hby, -⟩, -, locs, -, Y⟩ := X
  exact OG.pre (fun _ q => XS.ifYes Y.here hx rfl (pc0 := pc) rfl (hb hby hd) rfl ((if0 _ _).trans (flt hq).2.2.2) hp.1 hp.2 q) g
theorem OG.if_le_f (X : OS B mL own nm rt Z n0 p l e R s m args below meth c T h cells slots) {x : Int32} {o : Int} (hd : decode B pc = .ok (.ifCond .le o, 3)) (hq : 0 < x) (g : OG p e below s n0 rc rs Q (T.setTop (mkF m (pc + 3) Ls st))) : OG p e below s n0 rc rs Q (T.setTop (mkF m pc Ls (.int x :: st))) := by
  obtain ⟨⟨hx, hby, -⟩, -, locs, -, Y⟩ := X
  exact OG.pre (fun _ q => XS.ifNo Y.here hx rfl (hb hby hd) rfl ((if0 _ _).trans (tlt hq).2.2.2) q) g
theorem OG.if_le (X : OS B mL own nm rt Z n0 p l e R s m args below meth c T h cells slots) {x : Int32} {o : Int} {pc' : Nat} (hd : decode B pc = .ok (.ifCond .le o, 3)) (hp : 0 ≤ (pc : Int) + o ∧ ((pc : Int) + o).toNat = pc') (g1 : ¬ 0 < x → OG p e below s n0 rc rs Q (T.setTop (mkF m pc' Ls st))) (g2 : 0 < x → OG p e below s n0 rc rs Q (T.setTop (mkF m (pc + 3) Ls st))) : OG p e below s n0 rc rs Q (T.setTop (mkF m pc Ls (.int x :: st))) :=
  if hq : 0 < x then OG.if_le_f X hd hq (g2 hq) else OG.if_le_t X hd hp hq (g1 hq)
theorem OG.ifl_le_t (X : OS B mL own nm rt Z n0 p l e R s m args below meth c T h cells slots) {x y : Int64} {o : Int} {pc' : Nat} (hd : decode B pc = .ok (.ifCond .le o, 3)) (hp : 0 ≤ (pc : Int) + o ∧ ((pc : Int) + o).toNat = pc') (hq : ¬ y < x) (g : OG p e below s n0 rc rs Q (T.setTop (mkF m pc' Ls st))) : OG p e below s n0 rc rs Q (T.setTop (mkF m pc Ls (.int (lcmpW x y) :: st))) := by
  obtain ⟨⟨hx, hby, -⟩, -, locs, -, Y⟩ := X
  exact OG.pre (fun _ q => XS.ifYes Y.here hx rfl (pc0 := pc) rfl (hb hby hd) rfl ((if0 _ _).trans (flt (fun q => hq ((lw_gt x y).mp q))).2.2.2) hp.1 hp.2 q) g
theorem OG.ifl_le_f (X : OS B mL own nm rt Z n0 p l e R s m args below meth c T h cells slots) {x y : Int64} {o : Int} (hd : decode B pc = .ok (.ifCond .le o, 3)) (hq : y < x) (g : OG p e below s n0 rc rs Q (T.setTop (mkF m (pc + 3) Ls st))) : OG p e below s n0 rc rs Q (T.setTop (mkF m pc Ls (.int (lcmpW x y) :: st))) := by
  obtain ⟨⟨hx, hby, -⟩, -, locs, -, Y⟩ := X
  exact OG.pre (fun _ q => XS.ifNo Y.here hx rfl (hb hby hd) rfl ((if0 _ _).trans (tlt ((lw_gt x y).mpr hq)).2.2.2) q) g
theorem OG.ifl_le (X : OS B mL own nm rt Z n0 p l e R s m args below meth c T h cells slots) {x y : Int64} {o : Int} {pc' : Nat} (hd : decode B pc = .ok (.ifCond .le o, 3)) (hp : 0 ≤ (pc : Int) + o ∧ ((pc : Int) + o).toNat = pc') (g1 : ¬ y < x → OG p e below s n0 rc rs Q (T.setTop (mkF m pc' Ls st))) (g2 : y < x → OG p e below s n0 rc rs Q (T.setTop (mkF m (pc + 3) Ls st))) : OG p e below s n0 rc rs Q (T.setTop (mkF m pc Ls (.int (lcmpW x y) :: st))) :=
  if hq : y < x then OG.ifl_le_f X hd hq (g2 hq) else OG.ifl_le_t X hd hp hq (g1 hq)
theorem OG.icmp_eq_t (X : OS B mL own nm rt Z n0 p l e R s m args below meth c T h cells slots) {x y : Int32} {o : Int} {pc' : Nat} (hd : decode B pc = .ok (.if_icmp .eq o, 3)) (hp : 0 ≤ (pc : Int) + o ∧ ((pc : Int) + o).toNat = pc') (hq : x = y) (g : OG p e below s n0 rc rs Q (T.setTop (mkF m pc' Ls st))) : OG p e below s n0 rc rs Q (T.setTop (mkF m pc Ls (.int y :: .int x :: st))) := by
  obtain ⟨⟨hx, hby, -⟩, -, locs, -, Y⟩ := X
  exact OG.pre (fun _ q => XS.icmpYes Y.here hx rfl (pc0 := pc) rfl (hb hby hd) rfl (teq hq).1 hp.1 hp.2 q) g
theorem OG.icmp_eq_f (X : OS B mL own nm rt Z n0 p l e R s m args below meth c T h cells slots) {x y : Int32} {o : Int} (hd : decode B pc = .ok (.if_icmp .eq o, 3)) (hq : ¬ x = y) (g : OG p e below s n0 rc rs Q (T.setTop (mkF m (pc + 3) Ls st))) : OG p e below s n0 rc rs Q (T.setTop (mkF m pc Ls (.int y :: .int x :: st))) := by
  obtain ⟨⟨hx, hby, -⟩, -, locs, -, Y⟩ := X
  exact OG.pre (fun _ q => XS.icmpNo Y.here hx rfl (hb hby hd) rfl (feq hq).1 q) g
theorem OG.icmp_eq (X : OS B mL own nm rt Z n0 p l e R s m args below meth c T h cells slots) {x y : Int32} {o : Int} {pc' : Nat} (hd : decode B pc = .ok (.if_icmp .eq o, 3)) (hp : 0 ≤ (pc : Int) + o ∧ ((pc : Int) + o).toNat = pc') (g1 : x = y → OG p e below s n0 rc rs Q (T.setTop (mkF m pc' Ls st))) (g2 : ¬ x = y → OG p e below s n0 rc rs Q (T.setTop (mkF m (pc + 3) Ls st))) : OG p e below s n0 rc rs Q (T.setTop (mkF m pc Ls (.int y :: .int x :: st))) :=
  if hq : x = y then OG.icmp_eq_t X hd hp hq (g1 hq) else OG.icmp_eq_f X hd hq (g2 hq)
theorem OG.if_eq_t (X : OS B mL own nm rt Z n0 p l e R s m args below meth c T h cells slots) {x : Int32} {o : Int} {pc' : Nat} (hd : decode B pc = .ok (.ifCond .eq o, 3)) (hp : 0 ≤ (pc : Int) + o ∧ ((pc : Int) + o).toNat = pc') (hq : x = 0) (g : OG p e below s n0 rc rs Q (T.setTop (mkF m pc' Ls st))) : OG p e below s n0 rc rs Q (T.setTop (mkF m pc Ls (.int x :: st))) := by
  obtain ⟨⟨hx, hby, -⟩, -, locs, -, Y⟩ := X
  exact OG.pre (fun _ q => XS.ifYes Y.here hx rfl (pc0 := pc) rfl (hb hby hd) rfl ((if0 _ _).trans (teq hq).1) hp.1 hp.2 q) g
theorem OG.if_eq_f (X : OS B mL own nm rt Z n0 p l e R s m args below meth c T h cells slots) {x : Int32} {o : Int} (hd : decode B pc = .ok (.ifCond .eq o, 3)) (hq : ¬ x = 0) (g : OG p e below s n0 rc rs Q (T.setTop (mkF m (pc + 3) Ls st))) : OG p e below s n0 rc rs Q (T.setTop (mkF m pc Ls (.int x :: st))) := by
  obtain ⟨⟨hx, hby, -⟩, -, locs, -, Y⟩ := X
  exact OG.pre (fun _ q => XS.ifNo Y.here hx rfl (hb hby hd) rfl ((if0 _ _).trans (feq hq).1) q) g
theorem OG.if_eq (X : OS B mL own nm rt Z n0 p l e R s m args below meth c T h cells slots) {x : Int32} {o : Int} {pc' : Nat} (hd : decode B pc = .ok (.ifCond .eq o, 3)) (hp : 0 ≤ (pc : Int) + o ∧ ((pc : Int) + o).toNat = pc') (g1 : x = 0 → OG p e below s n0 rc rs Q (T.setTop (mkF m pc' Ls st))) (g2 : ¬ x = 0 → OG p e below s n0 rc rs Q (T.setTop (mkF m (pc + 3) Ls st))) : OG p e below s n0 rc rs Q (T.setTop (mkF m pc Ls (.int x :: st))) :=
  if hq : x = 0 then OG.if_eq_t X hd hp hq (g1 hq) else OG.if_eq_f X hd hq (g2 hq)
theorem OG.ifl_eq_t (X : OS B mL own nm rt Z n0 p l e R s m args below meth c T h cells slots) {x y : Int64} {o : Int} {pc' : Nat} (hd : decode B pc = .ok (.ifCond .eq o, 3)) (hp : 0 ≤ (pc : Int) + o ∧ ((pc : Int) + o).toNat = pc') (hq : x = y) (g : OG p e below s n0 rc rs Q (T.setTop (mkF m pc' Ls st))) : OG p e below s n0 rc rs Q (T.setTop (mkF m pc Ls (.int (lcmpW x y) :: st))) := by
  obtain ⟨⟨hx, hby, -⟩, -, locs, -, Y⟩ := X
  exact OG.pre (fun _ q => XS.ifYes Y.here hx rfl (pc0 := pc) rfl (hb hby hd) rfl ((if0 _ _).trans (teq ((lw_eq x y).mpr hq)).1) hp.1 hp.2 q) g
theorem OG.ifl_eq_f (X : OS B mL own nm rt Z n0 p l e R s m args below meth c T h cells slots) {x y : Int64} {o : Int} (hd : decode B pc = .ok (.ifCond .eq o, 3)) (hq : ¬ x = y) (g : OG p e below s n0 rc rs Q (T.setTop (mkF m (pc + 3) Ls st))) : OG p e below s n0 rc rs Q (T.setTop (mkF m pc Ls (.int (lcmpW x y) :: st))) := by
  obtain ⟨⟨hx, hby, -⟩, -, locs, -, Y⟩ := X
  exact OG.pre (fun _ q => XS.ifNo Y.here hx rfl (hb hby hd) rfl ((if0 _ _).trans (feq (fun q => hq ((lw_eq x y).mp q))).1) q) g
theorem OG.ifl_eq (X : OS B mL own nm rt Z n0 p l e R s m args below meth c T h cells slots) {x y : Int64} {o : Int} {pc' : Nat} (hd : decode B pc = .ok (.ifCond .eq o, 3)) (hp : 0 ≤ (pc : Int) + o ∧ ((pc : Int) + o).toNat = pc') (g1 : x = y → OG p e below s n0 rc rs Q (T.setTop (mkF m pc' Ls st))) (g2 : ¬ x = y → OG p e below s n0 rc rs Q (T.setTop (mkF m (pc + 3) Ls st))) : OG p e below s n0 rc rs Q (T.setTop (mkF m pc Ls (.int (lcmpW x y) :: st))) :=
  if hq : x = y then OG.ifl_eq_t X hd hp hq (g1 hq) else OG.ifl_eq_f X hd hq (g2 hq)
theorem OG.icmp_ne_t (X : OS B mL own nm rt Z n0 p l e R s m args below meth c T h cells slots) {x y : Int32} {o : Int} {pc' : Nat} (hd : decode B pc = .ok (.if_icmp .ne o, 3)) (hp : 0 ≤ (pc : Int) + o ∧ ((pc : Int) + o).toNat = pc') (hq : ¬ x = y) (g : OG p e below s n0 rc rs Q (T.setTop (mkF m pc' Ls st))) : OG p e below s n0 rc rs Q (T.setTop (mkF m pc Ls (.int y :: .int x :: st))) := by
  obtain ⟨⟨hx, hby, -⟩, -, locs, -, Y⟩ := X
  exact OG.pre (fun _ q => XS.icmpYes Y.here hx rfl (pc0 := pc) rfl (hb hby hd) rfl (feq hq).2 hp.1 hp.2 q) g
theorem OG.icmp_ne_f (X : OS B mL own nm rt Z n0 p l e R s m args below meth c T h cells slots) {x y : Int32} {o : Int} (hd : decode B pc = .ok (.if_icmp .ne o, 3)) (hq : x = y) (g : OG p e below s n0 rc rs Q (T.setTop (mkF m (pc + 3) Ls st))) : OG p e below s n0 rc rs Q (T.setTop (mkF m pc Ls (.int y :: .int x :: st))) := by
  obtain ⟨⟨hx, hby, -⟩, -, locs, -, Y⟩ := X
  exact OG.pre (fun _ q => XS.icmpNo Y.here hx rfl (hb hby hd) rfl (teq hq).2 q) g
theorem OG.icmp_ne (X : OS B mL own nm rt Z n0 p l e R s m args below meth c T h cells slots) {x y : Int32} {o : Int} {pc' : Nat} (hd : decode B pc = .ok (.if_icmp .ne o, 3)) (hp : 0 ≤ (pc : Int) + o ∧ ((pc : Int) + o).toNat = pc') (g1 : ¬ x = y → OG p e below s n0 rc rs Q (T.setTop (mkF m pc' Ls st))) (g2 : x = y → OG p e below s n0 rc rs Q (T.setTop (mkF m (pc + 3) Ls st))) : OG p e below s n0 rc rs Q (T.setTop (mkF m pc Ls (.int y :: .int x :: st))) :=
  if hq : x = y then OG.icmp_ne_f X hd hq (g2 hq) else OG.icmp_ne_t X hd hp hq (g1 hq)
theorem OG.if_ne_t (X : OS B mL own nm rt Z n0 p l e R s m args below meth c T h cells slots) {x : Int32} {o : Int} {pc' : Nat} (hd : decode B pc = .ok (.ifCond .ne o, 3)) (hp : 0 ≤ (pc : Int) + o ∧ ((pc : Int) + o).toNat = pc') (hq : ¬ x = 0) (g : OG p e below s n0 rc rs Q (T.setTop (mkF m pc' Ls st))) : OG p e below s n0 rc rs Q (T.setTop (mkF m pc Ls (.int x :: st))) := by
  obtain ⟨⟨hx, hby, -⟩, -, locs, -, Y⟩ := X
  exact OG.pre (fun _ q => XS.ifYes Y.here hx rfl (pc0 := pc) rfl (hb hby hd) rfl ((if0 _ _).trans (feq hq).2) hp.1 hp.2 q) g
theorem OG.if_ne_f (X : OS B mL own nm rt Z n0 p l e R s m args below meth c T h cells slots) {x : Int32} {o : Int} (hd : decode B pc = .ok (.ifCond .ne o, 3)) (hq : x = 0) (g : OG p e below s n0 rc rs Q (T.setTop (mkF m (pc + 3) Ls st))) : OG p e below s n0 rc rs Q (T.setTop (mkF m pc Ls (.int x :: st))) := by
  obtain ⟨⟨hx, hby, -⟩, -, locs, -, Y⟩ := X
  exact OG.pre (fun _ q => XS.ifNo Y.here hx rfl (hb hby hd) rfl ((if0 _ _).trans (teq hq).2) q) g
theorem OG.if_ne (X : OS B mL own nm rt Z n0 p l e R s m args below meth c T h cells slots) {x : Int32} {o : Int} {pc' : Nat} (hd : decode B pc = .ok (.ifCond .ne o, 3)) (hp : 0 ≤ (pc : Int) + o ∧ ((pc : Int) + o).toNat = pc') (g1 : ¬ x = 0 → OG p e below s n0 rc rs Q (T.setTop (mkF m pc' Ls st))) (g2 : x = 0 → OG p e below s n0 rc rs Q (T.setTop (mkF m (pc + 3) Ls st))) : OG p e below s n0 rc rs Q (T.setTop (mkF m pc Ls (.int x :: st))) :=
  if hq : x = 0 then OG.if_ne_f X hd hq (g2 hq) else OG.if_ne_t X hd hp hq (g1 hq)
theorem OG.ifl_ne_t (X : OS B mL own nm rt Z n0 p l e R s m args below meth c T h cells slots) {x y : Int64} {o : Int} {pc' : Nat} (hd : decode B pc = .ok (.ifCond .ne o, 3)) (hp : 0 ≤ (pc : Int) + o ∧ ((pc : Int) + o).toNat = pc') (hq : ¬ x = y) (g : OG p e below s n0 rc rs Q (T.setTop (mkF m pc' Ls st))) : OG p e below s n0 rc rs Q (T.setTop (mkF m pc Ls (.int (lcmpW x y) :: st))) := by
  obtain ⟨⟨hx, hby, -⟩, -, locs, -, Y⟩ := X
  exact OG.pre (fun _ q => XS.ifYes Y.here hx rfl (pc0 := pc) rfl (hb hby hd) rfl ((if0 _ _).trans (feq (fun q => hq ((lw_eq x y).mp q))).2) hp.1 hp.2 q) g
theorem OG.ifl_ne_f (X : OS B mL own nm rt Z n0 p l e R s m args below meth c T h cells slots) {x y : Int64} {o : Int} (hd : decode B pc = .ok (.ifCond .ne o, 3)) (hq : x = y) (g : OG p e below s n0 rc rs Q (T.setTop (mkF m (pc + 3) Ls st))) : OG p e below s n0 rc rs Q (T.setTop (mkF m pc Ls (.int (lcmpW x y) :: st))) := by
  obtain ⟨⟨hx, hby, -⟩, -, locs, -, Y⟩ := X
  exact OG.pre (fun _ q => XS.ifNo Y.here hx rfl (hb hby hd) rfl ((if0 _ _).trans (teq ((lw_eq x y).mpr hq)).2) q) g
theorem OG.ifl_ne (X : OS B mL own nm rt Z n0 p l e R s m args below meth c T h cells slots) {x y : Int64} {o : Int} {pc' : Nat} (hd : decode B pc = .ok (.ifCond .ne o, 3)) (hp : 0 ≤ (pc : Int) + o ∧ ((pc : Int) + o).toNat = pc') (g1 : ¬ x = y → OG p e below s n0 rc rs Q (T.setTop (mkF m pc' Ls st))) (g2 : x = y → OG p e below s n0 rc rs Q (T.setTop (mkF m (pc + 3) Ls st))) : OG p e below s n0 rc rs Q (T.setTop (mkF m pc Ls (.int (lcmpW x y) :: st))) :=
  if hq : x = y then OG.ifl_ne_f X hd hq (g2 hq) else OG.ifl_ne_t X hd hp hq (g1 hq)
theorem OG.ifnullYes (X : OS B mL own nm rt Z n0 p l e R s m args below meth c T h cells slots)  {o : Int} {pc' : Nat} (hd : decode B pc = .ok (.ifnull o, 3)) (hp : 0 ≤ (pc : Int) + o ∧ ((pc : Int) + o).toNat = pc') (g : OG p e below s n0 rc rs Q (T.setTop (mkF m pc' Ls st))) : OG p e below s n0 rc rs Q (T.setTop (mkF m pc Ls (.null :: st))) := by
  obtain ⟨⟨hx, hby, -⟩, -, locs, -, Y⟩ := X
  exact OG.pre (fun _ q => XS.ifnullYes Y.here hx rfl (pc0 := pc) rfl (hb hby hd) rfl hp.1 hp.2 q) g
theorem OG.ifnonnullYes (X : OS B mL own nm rt Z n0 p l e R s m args below meth c T h cells slots) {a : Addr} {o : Int} {pc' : Nat} (hd : decode B pc = .ok (.ifnonnull o, 3)) (hp : 0 ≤ (pc : Int) + o ∧ ((pc : Int) + o).toNat = pc') (g : OG p e below s n0 rc rs Q (T.setTop (mkF m pc' Ls st))) : OG p e below s n0 rc rs Q (T.setTop (mkF m pc Ls (.ref a :: st))) := by
  obtain ⟨⟨hx, hby, -⟩, -, locs, -, Y⟩ := X
  exact OG.pre (fun _ q => XS.ifnonnullYes Y.here hx rfl (pc0 := pc) rfl (hb hby hd) rfl hp.1 hp.2 q) g
theorem OG.ifnullNo (X : OS B mL own nm rt Z n0 p l e R s m args below meth c T h cells slots) {a : Addr} {o : Int} (hd : decode B pc = .ok (.ifnull o, 3)) (g : OG p e below s n0 rc rs Q (T.setTop (mkF m (pc + 3) Ls st))) : OG p e below s n0 rc rs Q (T.setTop (mkF m pc Ls (.ref a :: st))) := by
  obtain ⟨⟨hx, hby, -⟩, -, locs, -, Y⟩ := X
  exact OG.pre (fun _ q => XS.ifnullNo Y.here hx rfl (hb hby hd) rfl q) g
theorem OG.ifnonnullNo (X : OS B mL own nm rt Z n0 p l e R s m args below meth c T h cells slots)  {o : Int} (hd : decode B pc = .ok (.ifnonnull o, 3)) (g : OG p e below s n0 rc rs Q (T.setTop (mkF m (pc + 3) Ls st))) : OG p e below s n0 rc rs Q (T.setTop (mkF m pc Ls (.null :: st))) := by
  obtain ⟨⟨hx, hby, -⟩, -, locs, -, Y⟩ := X
  exact OG.pre (fun _ q => XS.ifnonnullNo Y.here hx rfl (hb hby hd) rfl q) g
theorem OG.acmp_eq_t (X : OS B mL own nm rt Z n0 p l e R s m args below meth c T h cells slots) {x y : Addr} {o : Int} {pc' : Nat} (hd : decode B pc = .ok (.if_acmp .eq o, 3)) (hp : 0 ≤ (pc : Int) + o ∧ ((pc : Int) + o).toNat = pc') (hq : x = y) (g : OG p e below s n0 rc rs Q (T.setTop (mkF m pc' Ls st))) : OG p e below s n0 rc rs Q (T.setTop (mkF m pc Ls (.ref y :: .ref x :: st))) := by
  obtain ⟨⟨hx, hby, -⟩, -, locs, -, Y⟩ := X
  exact OG.pre (fun _ q => RoadKit.acmp Y hx rfl rfl rfl (pc0 := pc) (pc' := pc') (same := true) rfl (hb hby hd) rfl (decide_eq_true (congrArg Value.ref hq)) hp.1 (by simp [acV, hp.2]) q) g
theorem OG.acmp_eq_f (X : OS B mL own nm rt Z n0 p l e R s m args below meth c T h cells slots) {x y : Addr} {o : Int} {pc' : Nat} (hd : decode B pc = .ok (.if_acmp .eq o, 3)) (hp : 0 ≤ (pc : Int) + o ∧ ((pc : Int) + o).toNat = pc') (hq : ¬ x = y) (g : OG p e below s n0 rc rs Q (T.setTop (mkF m (pc + 3) Ls st))) : OG p e below s n0 rc rs Q (T.setTop (mkF m pc Ls (.ref y :: .ref x :: st))) := by
  obtain ⟨⟨hx, hby, -⟩, -, locs, -, Y⟩ := X
  exact OG.pre (fun _ q => RoadKit.acmp Y hx rfl rfl rfl (pc0 := pc) (pc' := (pc + 3)) (same := false) rfl (hb hby hd) rfl (decide_eq_false fun q => hq (Value.ref.inj q)) hp.1 (by simp [acV]) q) g
theorem OG.acmp_ne_f (X : OS B mL own nm rt Z n0 p l e R s m args below meth c T h cells slots) {x y : Addr} {o : Int} {pc' : Nat} (hd : decode B pc = .ok (.if_acmp .ne o, 3)) (hp : 0 ≤ (pc : Int) + o ∧ ((pc : Int) + o).toNat = pc') (hq : x = y) (g : OG p e below s n0 rc rs Q (T.setTop (mkF m (pc + 3) Ls st))) : OG p e below s n0 rc rs Q (T.setTop (mkF m pc Ls (.ref y :: .ref x :: st))) := by
  obtain ⟨⟨hx, hby, -⟩, -, locs, -, Y⟩ := X
  exact OG.pre (fun _ q => RoadKit.acmp Y hx rfl rfl rfl (pc0 := pc) (pc' := (pc + 3)) (same := true) rfl (hb hby hd) rfl (decide_eq_true (congrArg Value.ref hq)) hp.1 (by simp [acV]) q) g
theorem OG.acmp_ne_t (X : OS B mL own nm rt Z n0 p l e R s m args below meth c T h cells slots) {x y : Addr} {o : Int} {pc' : Nat} (hd : decode B pc = .ok (.if_acmp .ne o, 3)) (hp : 0 ≤ (pc : Int) + o ∧ ((pc : Int) + o).toNat = pc') (hq : ¬ x = y) (g : OG p e below s n0 rc rs Q (T.setTop (mkF m pc' Ls st))) : OG p e below s n0 rc rs Q (T.setTop (mkF m pc Ls (.ref y :: .ref x :: st))) := by
  obtain ⟨⟨hx, hby, -⟩, -, locs, -, Y⟩ := X
  exact OG.pre (fun _ q => RoadKit.acmp Y hx rfl rfl rfl (pc0 := pc) (pc' := pc') (same := false) rfl (hb hby hd) rfl (decide_eq_false fun q => hq (Value.ref.inj q)) hp.1 (by simp [acV, hp.2]) q) g
theorem OG.acmp_eq (X : OS B mL own nm rt Z n0 p l e R s m args below meth c T h cells slots) {x y : Addr} {o : Int} {pc' : Nat} (hd : decode B pc = .ok (.if_acmp .eq o, 3)) (hp : 0 ≤ (pc : Int) + o ∧ ((pc : Int) + o).toNat = pc') (g1 : x = y → OG p e below s n0 rc rs Q (T.setTop (mkF m pc' Ls st))) (g2 : ¬ x = y → OG p e below s n0 rc rs Q (T.setTop (mkF m (pc + 3) Ls st))) : OG p e below s n0 rc rs Q (T.setTop (mkF m pc Ls (.ref y :: .ref x :: st))) :=
  if hq : x = y then OG.acmp_eq_t X hd hp hq (g1 hq) else OG.acmp_eq_f X hd hp hq (g2 hq)
theorem OG.acmp_ne (X : OS B mL own nm rt Z n0 p l e R s m args below meth c T h cells slots) {x y : Addr} {o : Int} {pc' : Nat} (hd : decode B pc = .ok (.if_acmp .ne o, 3)) (hp : 0 ≤ (pc : Int) + o ∧ ((pc : Int) + o).toNat = pc') (g1 : x = y → OG p e below s n0 rc rs Q (T.setTop (mkF m (pc + 3) Ls st))) (g2 : ¬ x = y → OG p e below s n0 rc rs Q (T.setTop (mkF m pc' Ls st))) : OG p e below s n0 rc rs Q (T.setTop (mkF m pc Ls (.ref y :: .ref x :: st))) :=
  if hq : x = y then OG.acmp_ne_f X hd hp hq (g1 hq) else OG.acmp_ne_t X hd hp hq (g2 hq)
theorem OG.retI {z : Int32} (X : OS B mL own nm (some .int) Z n0 p l e R s m args below meth c T h cells slots) (hd : decode B pc = .ok (.ireturn, 1))  (hc : cells ≤ rc) (hs : slots ≤ rs) (hQ : Q (some (.int z)) h) : OG p e below s n0 rc rs Q (T.setTop (mkF m pc Ls (.int z :: st))) := by
  obtain ⟨⟨hx, hby, -, -, -, hrt, hlk, -⟩, eT, locs, N, Y⟩ := X
  obtain ⟨fs, hr, hrun, hended, hW, hsame⟩ := Y.leave (v := (some (.int z))) (fun q => by first | rfl | (rw [hrt] at q; cases q)) hlk
  refine ⟨_, _, ?_, hrun, hended, _, _, rfl, ⟨?_, N⟩, ⟨_, rfl⟩, hW, hsame.mono hc hs⟩
  · exact Jvm.RoadKit.retI Y hx hrt (hb hby hd) hr
  · show Q _ T.heap
    rw [eT]; exact hQ
theorem OG.retN {z : Int32} {t : FieldType} (X : OS B mL own nm (some t) Z n0 p l e R s m args below meth c T h cells slots) (hd : decode B pc = .ok (.ireturn, 1)) (ht : t = .boolean ∨ t = .byte ∨ t = .char ∨ t = .short) (hc : cells ≤ rc) (hs : slots ≤ rs) (hQ : Q (some (.int (nar t z))) h) : OG p e below s n0 rc rs Q (T.setTop (mkF m pc Ls (.int z :: st))) := by
  obtain ⟨⟨hx, hby, -, -, -, hrt, hlk, -⟩, eT, locs, N, Y⟩ := X
  obtain ⟨fs, hr, hrun, hended, hW, hsame⟩ := Y.leave (v := (some (.int (nar t z)))) (fun q => by first | rfl | (rw [hrt] at q; cases q)) hlk
  refine ⟨_, _, ?_, hrun, hended, _, _, rfl, ⟨?_, N⟩, ⟨_, rfl⟩, hW, hsame.mono hc hs⟩
  · exact Jvm.RoadKit.retN Y hx (t := t) hrt ht (hb hby hd) hr
  · show Q _ T.heap
    rw [eT]; exact hQ
theorem OG.retJ {z : Int64} (X : OS B mL own nm (some .long) Z n0 p l e R s m args below meth c T h cells slots) (hd : decode B pc = .ok (.lreturn, 1))  (hc : cells ≤ rc) (hs : slots ≤ rs) (hQ : Q (some (.long z)) h) : OG p e below s n0 rc rs Q (T.setTop (mkF m pc Ls (.long z :: st))) := by
  obtain ⟨⟨hx, hby, -, -, -, hrt, hlk, -⟩, eT, locs, N, Y⟩ := X
  obtain ⟨fs, hr, hrun, hended, hW, hsame⟩ := Y.leave (v := (some (.long z))) (fun q => by first | rfl | (rw [hrt] at q; cases q)) hlk
  refine ⟨_, _, ?_, hrun, hended, _, _, rfl, ⟨?_, N⟩, ⟨_, rfl⟩, hW, hsame.mono hc hs⟩
  · exact Jvm.RoadKit.retOut (t := .long) Y hx hrt rfl (Or.inr (Or.inl ⟨rfl, rfl, _, rfl⟩)) (hb hby hd) hr
  · show Q _ T.heap
    rw [eT]; exact hQ
theorem OG.retD {z : UInt64} (X : OS B mL own nm (some .double) Z n0 p l e R s m args below meth c T h cells slots) (hd : decode B pc = .ok (.dreturn, 1))  (hc : cells ≤ rc) (hs : slots ≤ rs) (hQ : Q (some (.double z)) h) : OG p e below s n0 rc rs Q (T.setTop (mkF m pc Ls (.double z :: st))) := by
  obtain ⟨⟨hx, hby, -, -, -, hrt, hlk, -⟩, eT, locs, N, Y⟩ := X
  obtain ⟨fs, hr, hrun, hended, hW, hsame⟩ := Y.leave (v := (some (.double z))) (fun q => by first | rfl | (rw [hrt] at q; cases q)) hlk
  refine ⟨_, _, ?_, hrun, hended, _, _, rfl, ⟨?_, N⟩, ⟨_, rfl⟩, hW, hsame.mono hc hs⟩
  · exact Jvm.RoadKit.retOut (t := .double) Y hx hrt rfl (Or.inr (Or.inr (Or.inl ⟨rfl, rfl, _, rfl⟩))) (hb hby hd) hr
  · show Q _ T.heap
    rw [eT]; exact hQ
theorem OG.retA {w : Value} {t : FieldType} (X : OS B mL own nm (some t) Z n0 p l e R s m args below meth c T h cells slots) (hd : decode B pc = .ok (.areturn, 1)) (ht : t.isReference = true) (hw : w.isRef = true) (hc : cells ≤ rc) (hs : slots ≤ rs) (hQ : Q (some w) h) : OG p e below s n0 rc rs Q (T.setTop (mkF m pc Ls (w :: st))) := by
  obtain ⟨⟨hx, hby, -, -, -, hrt, hlk, -⟩, eT, locs, N, Y⟩ := X
  obtain ⟨fs, hr, hrun, hended, hW, hsame⟩ := Y.leave (v := (some w)) (fun q => by first | rfl | (rw [hrt] at q; cases q)) hlk
  refine ⟨_, _, ?_, hrun, hended, _, _, rfl, ⟨?_, N⟩, ⟨_, rfl⟩, hW, hsame.mono hc hs⟩
  · exact Jvm.RoadKit.retOut (t := t) Y hx hrt (by rcases ref_cases hw with rfl | ⟨z, rfl⟩ <;> cases t <;> rfl) (Or.inr (Or.inr (Or.inr (Or.inr ⟨rfl, ht, hw⟩)))) (hb hby hd) hr
  · show Q _ T.heap
    rw [eT]; exact hQ
theorem OG.retV  (X : OS B mL own nm none Z n0 p l e R s m args below meth c T h cells slots) (hd : decode B pc = .ok (.return_, 1))  (hc : cells ≤ rc) (hs : slots ≤ rs) (hQ : Q none h) : OG p e below s n0 rc rs Q (T.setTop (mkF m pc Ls [])) := by
  obtain ⟨⟨hx, hby, -, -, -, hrt, hlk, -⟩, eT, locs, N, Y⟩ := X
  obtain ⟨fs, hr, hrun, hended, hW, hsame⟩ := Y.leave (v := none) (fun q => by first | rfl | (rw [hrt] at q; cases q)) hlk
  refine ⟨_, _, ?_, hrun, hended, _, _, rfl, ⟨?_, N⟩, ⟨_, rfl⟩, hW, hsame.mono hc hs⟩
  · exact Y.returnOut hx hrt (hb hby hd) hr
  · show Q _ T.heap
    rw [eT]; exact hQ
theorem OG.ldcInt (X : OS B mL own nm rt Z n0 p l e R s m args below meth c T h cells slots) {index : Nat} {v : Int32} (w : (Cond.constant own index v).before a0 Z = true) (hd : decode B pc = .ok (.ldc index, 2)) (g : OG p e below s n0 rc rs Q (T.setTop (mkF m (pc + 2) Ls (.int v :: st)))) : OG p e below s n0 rc rs Q (T.setTop (mkF m pc Ls st)) := by
  obtain ⟨⟨hx, hby, -, hown, -, -, -, hZ⟩, -, locs, -, Y⟩ := X
  exact OG.pre (fun _ k => Y.ldcInt hx hown (mvT hZ w) (g := mkF m pc Ls st) rfl (hb hby hd) _ k) g
theorem OG.ldcwInt (X : OS B mL own nm rt Z n0 p l e R s m args below meth c T h cells slots) {index : Nat} {v : Int32} (w : (Cond.constant own index v).before a0 Z = true) (hd : decode B pc = .ok (.ldc_w index, 3)) (g : OG p e below s n0 rc rs Q (T.setTop (mkF m (pc + 3) Ls (.int v :: st)))) : OG p e below s n0 rc rs Q (T.setTop (mkF m pc Ls st)) := by
  obtain ⟨⟨hx, hby, -, hown, -, -, -, hZ⟩, -, locs, -, Y⟩ := X
  exact OG.pre (fun _ k => Y.ldcwInt hx hown (mvT hZ w) (g := mkF m pc Ls st) rfl (hb hby hd) _ k) g
theorem OG.ldc2Long (X : OS B mL own nm rt Z n0 p l e R s m args below meth c T h cells slots) {index : Nat} {v : Int64} (w : (Cond.constantLong own index v).before a0 Z = true) (hd : decode B pc = .ok (.ldc2_w index, 3)) (g : OG p e below s n0 rc rs Q (T.setTop (mkF m (pc + 3) Ls (.long v :: st)))) : OG p e below s n0 rc rs Q (T.setTop (mkF m pc Ls st)) := by
  obtain ⟨⟨hx, hby, -, hown, -, -, -, hZ⟩, -, locs, -, Y⟩ := X
  exact OG.pre (fun _ k => Y.ldc2Long hx hown (mvT hZ w) (g := mkF m pc Ls st) rfl (hb hby hd) _ k) g
theorem OG.getF (X : OS B mL own nm rt Z n0 p l e R s m args below meth c T h cells slots) {R0 O n d host : String} {index : Nat} (w : (Cond.fieldLink own index R0 n d).before a0 Z = true ∨ (Cond.fieldLinkNest own index R0 n d host).before a0 Z = true) (via : Via Z R0 O n d) {a : Addr} {v : Value} (F : Fld Z h a O n d v) (hd : decode B pc = .ok (.getfield index, 3)) (g : ∀ T', OS B mL own nm rt Z n0 p l e R s m args below meth c T' h cells slots → OG p e below s n0 rc rs Q (T'.setTop (mkF m (pc + 3) Ls (v :: st)))) : OG p e below s n0 rc rs Q (T.setTop (mkF m pc Ls (.ref a :: st))) := by
  obtain ⟨h0, eT, locs, N, Y⟩ := X
  have h0' := h0
  obtain ⟨hx, hby, -, hown, -, -, -, hZ⟩ := h0'
  obtain ⟨T', Y', e', stp⟩ := RoadKit.getF Y hx hZ hown w via eT F (g := mkF m pc Ls (.ref a :: st)) rfl rfl (hb hby hd)
  exact OG.pre stp (g T' ⟨h0, e', locs, N, Y'⟩)
theorem OG.getS (X : OS B mL own nm rt Z n0 p l e R s m args below meth c T h cells slots) {R0 O n d host : String} {index : Nat} (w : (Cond.fieldLink own index R0 n d).before a0 Z = true ∨ (Cond.fieldLinkNest own index R0 n d host).before a0 Z = true) (via : Via Z R0 O n d) {v : Value} (F : Sta Z h O n d v) (hd : decode B pc = .ok (.getstatic index, 3)) (g : ∀ T', OS B mL own nm rt Z n0 p l e R s m args below meth c T' h cells slots → OG p e below s n0 rc rs Q (T'.setTop (mkF m (pc + 3) Ls (v :: st)))) : OG p e below s n0 rc rs Q (T.setTop (mkF m pc Ls st)) := by
  obtain ⟨h0, eT, locs, N, Y⟩ := X
  have h0' := h0
  obtain ⟨hx, hby, -, hown, -, -, -, hZ⟩ := h0'
  obtain ⟨T', Y', e', stp⟩ := RoadKit.getS2 Y hx hZ hown w via eT F (g := mkF m pc Ls st) rfl (hb hby hd)
  exact OG.pre stp (g T' ⟨h0, e', locs, N, Y'⟩)
theorem OG.putF (X : OS B mL own nm rt Z n0 p l e R s m args below meth c T h cells slots) {R0 O n d host C : String} {index kk : Nat} {ty : FieldType} (w : (Cond.fieldLink own index R0 n d).before a0 Z = true ∨ (Cond.fieldLinkNest own index R0 n d host).before a0 Z = true) (via : Via Z R0 O n d) {a : Addr} {v old : Value} (F : Fld Z h a O n d old) (E : Exa Z h a C) (L : (Cond.lays C O n d).before a0 Z = true ∨ ((Cond.laysFinal C O n d).before a0 Z = true ∧ own = O ∧ nm = "<init>")) (wi : (Cond.instantiable C kk).before a0 Z = true) (hty : parseFieldDescriptor d = some ty) (hn : narrow ty v = v) (hf : fits ty v = true) (hd : decode B pc = .ok (.putfield index, 3)) (ge : n0 ≤ a) (g : ∀ T' h', OS B mL own nm rt Z n0 p l e R s m args below meth c T' h' cells slots → Wr h h' a (slotOf Z O n d) v → OG p e below s n0 rc rs Q (T'.setTop (mkF m (pc + 3) Ls st))) : OG p e below s n0 rc rs Q (T.setTop (mkF m pc Ls (v :: .ref a :: st))) := by
  obtain ⟨h0, eT, locs, N, Y⟩ := X
  have h0' := h0
  obtain ⟨hx, hby, -, hown, hnm, -, -, hZ⟩ := h0'
  obtain ⟨T', h', Y', e', W, stp⟩ := RoadKit.putF Y hx hZ hown w via eT F E (L.imp id fun q => ⟨q.1, q.2.1, hnm.trans q.2.2⟩) wi hty hn hf (g := mkF m pc Ls (v :: .ref a :: st)) rfl rfl (hb hby hd)
  exact OG.pre stp (g T' h' ⟨h0, e', _, Fr.snoc Y' N ge, Y'⟩ W)
theorem OG.putFN (X : OS B mL own nm rt Z n0 p l e R s m args below meth c T h cells slots) {R0 O n d C : String} {index kk : Nat} {ty : FieldType} (w : (Cond.fieldLink own index R0 n d).before a0 Z = true) (via : Via Z R0 O n d) {a : Addr} {v v' old : Value} (F : Fld Z h a O n d old) (E : Exa Z h a C) (L : (Cond.lays C O n d).before a0 Z = true ∨ ((Cond.laysFinal C O n d).before a0 Z = true ∧ own = O ∧ nm = "<init>")) (wi : (Cond.instantiable C kk).before a0 Z = true) (hty : parseFieldDescriptor d = some ty) (hn : narrow ty v = v') (hf : fits ty v' = true) (hd : decode B pc = .ok (.putfield index, 3)) (ge : n0 ≤ a) (g : ∀ T' h', OS B mL own nm rt Z n0 p l e R s m args below meth c T' h' cells slots → Wr h h' a (slotOf Z O n d) v' → OG p e below s n0 rc rs Q (T'.setTop (mkF m (pc + 3) Ls st))) : OG p e below s n0 rc rs Q (T.setTop (mkF m pc Ls (v :: .ref a :: st))) := by
  obtain ⟨h0, eT, locs, N, Y⟩ := X
  have h0' := h0
  obtain ⟨hx, hby, -, hown, hnm, -, -, hZ⟩ := h0'
  obtain ⟨T', h', Y', e', W, stp⟩ := RoadKit.putFN Y hx hZ hown w via eT F E (L.imp id fun q => ⟨q.1, q.2.1, hnm.trans q.2.2⟩) wi hty hn hf (g := mkF m pc Ls (v :: .ref a :: st)) rfl rfl (hb hby hd)
  exact OG.pre stp (g T' h' ⟨h0, e', _, Fr.snoc Y' N ge, Y'⟩ W)
theorem OG.newO (X : OS B mL own nm rt Z n0 p l e R s m args below meth c T h cells slots) {C : String} {index n : Nat} (w : (Cond.classLink own index C).before a0 Z = true) (wi : (Cond.instantiable C n).before a0 Z = true) (wz : (Cond.initialized C).before a0 Z = true) (hd : decode B pc = .ok (.new index, 3)) (hc : cells + 1 ≤ R.cells) (hl : slots + n ≤ R.slots) (g : ∀ T' h' a, a = h.size → OS B mL own nm rt Z n0 p l e R s m args below meth c T' h' (cells + 1) (slots + n) → Ext h h' → Exa Z h' a C → (∀ {O nm d : String} {ty : FieldType}, Laid Z a0 C O nm d → parseFieldDescriptor d = some ty → Fld Z h' a O nm d (defaultValue ty)) → OG p e below s n0 rc rs Q (T'.setTop (mkF m (pc + 3) Ls (.ref a :: st)))) : OG p e below s n0 rc rs Q (T.setTop (mkF m pc Ls st)) := by
  obtain ⟨h0, eT, locs, N, Y⟩ := X
  have h0' := h0
  obtain ⟨hx, hby, -, hown, hnm, -, -, hZ⟩ := h0'
  obtain ⟨T', h', Y', e', E', A', D', -, stp⟩ := RoadKit.newO Y hx hZ hown w wi wz eT (g := mkF m pc Ls st) rfl (hb hby hd) hc hl
  exact OG.pre stp (g T' h' _ rfl ⟨h0, e', _, N, Y'⟩ E' A' D')
theorem OG.newP (X : OS B mL own nm rt Z n0 p l e R s m args below meth c T h cells slots) {aty : ArrayType} (w : (Cond.arrayClass (newarray.typeOf aty)).before a0 Z = true) {n : Int32} (hd : decode B pc = .ok (.newarray aty, 2)) (hn : ¬ n < 0) {cap : Nat} (hcap : n.toNatClampNeg ≤ cap) (hb8 : cap * 8 ≤ 536870912) (hc : cells + 1 ≤ R.cells) (hl : slots + cap ≤ R.slots) (g : ∀ T' h' a, a = h.size → OS B mL own nm rt Z n0 p l e R s m args below meth c T' h' (cells + 1) (slots + cap) → Ext h h' → (∃ cA, Arr Z h' a (newA cA (newarray.typeOf aty) n) (newarray.typeOf aty)) → OG p e below s n0 rc rs Q (T'.setTop (mkF m (pc + 2) Ls (.ref a :: st)))) : OG p e below s n0 rc rs Q (T.setTop (mkF m pc Ls (.int n :: st))) := by
  obtain ⟨h0, eT, locs, N, Y⟩ := X
  have h0' := h0
  obtain ⟨hx, hby, -, hown, hnm, -, -, hZ⟩ := h0'
  obtain ⟨T', h', cA, Y', e', E', A', stp⟩ := RoadKit.newP Y hx hZ w eT (g := mkF m pc Ls (.int n :: st)) rfl (hb hby hd) rfl hn hcap hb8 hc hl
  exact OG.pre stp (g T' h' _ rfl ⟨h0, e', _, N, Y'⟩ E' ⟨cA, A'⟩)
/-- an array of ints, bytes, chars, booleans: its length and what it holds -/
def Ia (Z : State) (h : Heap) (a : Addr) (ty : FieldType) (n : Nat) (f : Nat → Int32) : Prop := ∃ cl : Cell, Arr Z h a cl ty ∧ cl.slots.size = n ∧ n < 2 ^ 31 ∧ ∀ i, i < n → cl.slots[i]? = some (.int (f i))
variable {a b : Addr} {h' : Heap} {ty : FieldType} {n : Nat} {f : Nat → Int32} {sl : Nat} {v : Value} {wl : List Addr}
theorem Ia.lt (F : Ia Z h a ty n f) : a < h.size := by obtain ⟨c, A, -⟩ := F; exact A.lt
theorem Ia.ext (F : Ia Z h a ty n f) (E : Ext h h') : Ia Z h' a ty n f := by obtain ⟨c, A, r⟩ := F; exact ⟨c, A.ext E, r⟩
theorem Ia.other (F : Ia Z h b ty n f) (W : Wr h h' a sl v) (q : b ≠ a) : Ia Z h' b ty n f := by obtain ⟨c, A, r⟩ := F; exact ⟨c, A.other W q, r⟩
theorem Ia.keep (F : Ia Z h a ty n f) (K : Keep h h' wl) (q : a ∉ wl) : Ia Z h' a ty n f := by obtain ⟨c, A, r⟩ := F; exact ⟨c, ⟨K.2.1 a c A.1 q, A.2⟩, r⟩
theorem Ia.congr {f' : Nat → Int32} (F : Ia Z h a ty n f) (q : ∀ i, i < n → f i = f' i) : Ia Z h a ty n f' := by obtain ⟨c, A, r1, r2, r3⟩ := F; exact ⟨c, A, r1, r2, fun i hi => by rw [← q i hi]; exact r3 i hi⟩
theorem Ia.len (F : Ia Z h a ty n f) : n < 2 ^ 31 := by obtain ⟨c, A, r1, r2, r3⟩ := F; exact r2
theorem Ia.new {cA : ClassId} {k : Int32} (A : Arr Z h a (newA cA ty k) ty) (q : ¬ k < 0) (hk : k.toNatClampNeg = n) (hty : defaultValue ty = .int 0) : Ia Z h a ty n (fun _ => 0) := by
  subst hk
  refine ⟨_, A, sz_new _ _ _, ?_, fun i hi => ?_⟩
  · have := k.toInt_lt; simp only [Int32.toNatClampNeg]; omega
  · simp [newA, hi, hty]
theorem Ia.set {j : Nat} {x : Int32} (F : Ia Z h a ty n f) (W : Wr h h' a j (.int x)) : Ia Z h' a ty n (fun i => if i = j then x else f i) := by
  obtain ⟨c, A, r1, r2, r3⟩ := F
  refine ⟨_, A.same W, by rw [sz_set]; exact r1, r2, fun i hi => ?_⟩
  by_cases q : i = j
  · subst q; simp [Cell.setSlot, r1, hi]
  · have := r3 i hi
    simp only [Cell.setSlot, if_neg q]
    rw [Array.getElem?_setIfInBounds_ne (fun u => q u.symm)]; exact this
theorem idx32 {j : Int32} {n : Nat} (h1 : 0 ≤ j.toInt) (h2 : j.toInt < n) : ¬ (j < 0 ∨ n ≤ j.toNatClampNeg) := by
  have e0 : (0 : Int32).toInt = 0 := rfl
  simp only [Int32.lt_iff_toInt_lt, Int32.toNatClampNeg, e0]; omega
theorem len32 {n : Nat} (h : n < 2 ^ 31) : n.toInt32.toInt = n := Int32.toInt_ofNat_small h
theorem OG.iaload (X : OS B mL own nm rt Z n0 p l e R s m args below meth c T h cells slots) {a : Addr} {n : Nat} {f : Nat → Int32} (F : Ia Z h a .int n f) {j : Int32} (hj : 0 ≤ j.toInt ∧ j.toInt < n) (hd : decode B pc = .ok (.iaload, 1)) (g : OG p e below s n0 rc rs Q (T.setTop (mkF m (pc + 1) Ls (.int (f j.toInt.toNat) :: st)))) : OG p e below s n0 rc rs Q (T.setTop (mkF m pc Ls (.int j :: .ref a :: st))) := by
  obtain ⟨⟨hx, hby, -, -, -, -, -, hZ⟩, eT, locs, -, Y⟩ := X
  obtain ⟨cl, A, r1, r2, r3⟩ := F
  have hi := idx32 hj.1 hj.2
  have hq : j.toInt.toNat < n := by omega
  exact OG.pre (fun _ k => Y.iaload hx (j := j) (v := .int (f j.toInt.toNat)) (by rw [eT]; exact A.1) (State.isArrayOf_alike hZ.alike A.2.1) A.2.2 (by rw [r1]; exact hi) (r3 _ hq) (g := mkF m pc Ls (.int j :: .ref a :: st)) rfl rfl (hb hby hd) _ k) g
theorem OG.baload (X : OS B mL own nm rt Z n0 p l e R s m args below meth c T h cells slots) {a : Addr} {n : Nat} {f : Nat → Int32} (F : Ia Z h a .byte n f) {j : Int32} (hj : 0 ≤ j.toInt ∧ j.toInt < n) (hd : decode B pc = .ok (.baload, 1)) (g : OG p e below s n0 rc rs Q (T.setTop (mkF m (pc + 1) Ls (.int (f j.toInt.toNat) :: st)))) : OG p e below s n0 rc rs Q (T.setTop (mkF m pc Ls (.int j :: .ref a :: st))) := by
  obtain ⟨⟨hx, hby, -, -, -, -, -, hZ⟩, eT, locs, -, Y⟩ := X
  obtain ⟨cl, A, r1, r2, r3⟩ := F
  have hi := idx32 hj.1 hj.2
  have hq : j.toInt.toNat < n := by omega
  exact OG.pre (fun _ k => Y.baloadBytes hx (j := j) (v := .int (f j.toInt.toNat)) (by rw [eT]; exact A.1) (State.isArrayOf_alike hZ.alike A.2.1) A.2.2 (by rw [r1]; exact hi) (r3 _ hq) (g := mkF m pc Ls (.int j :: .ref a :: st)) rfl rfl (hb hby hd) _ k) g
theorem OG.zaload (X : OS B mL own nm rt Z n0 p l e R s m args below meth c T h cells slots) {a : Addr} {n : Nat} {f : Nat → Int32} (F : Ia Z h a .boolean n f) {j : Int32} (hj : 0 ≤ j.toInt ∧ j.toInt < n) (hd : decode B pc = .ok (.baload, 1)) (g : OG p e below s n0 rc rs Q (T.setTop (mkF m (pc + 1) Ls (.int (f j.toInt.toNat) :: st)))) : OG p e below s n0 rc rs Q (T.setTop (mkF m pc Ls (.int j :: .ref a :: st))) := by
  obtain ⟨⟨hx, hby, -, -, -, -, -, hZ⟩, eT, locs, -, Y⟩ := X
  obtain ⟨cl, A, r1, r2, r3⟩ := F
  have hi := idx32 hj.1 hj.2
  have hq : j.toInt.toNat < n := by omega
  exact OG.pre (fun _ k => Y.baloadBooleans hx (j := j) (v := .int (f j.toInt.toNat)) (by rw [eT]; exact A.1) (State.isArrayOf_alike hZ.alike A.2.1) A.2.2 (by rw [r1]; exact hi) (r3 _ hq) (g := mkF m pc Ls (.int j :: .ref a :: st)) rfl rfl (hb hby hd) _ k) g
theorem OG.caload (X : OS B mL own nm rt Z n0 p l e R s m args below meth c T h cells slots) {a : Addr} {n : Nat} {f : Nat → Int32} (F : Ia Z h a .char n f) {j : Int32} (hj : 0 ≤ j.toInt ∧ j.toInt < n) (hd : decode B pc = .ok (.caload, 1)) (g : OG p e below s n0 rc rs Q (T.setTop (mkF m (pc + 1) Ls (.int (f j.toInt.toNat) :: st)))) : OG p e below s n0 rc rs Q (T.setTop (mkF m pc Ls (.int j :: .ref a :: st))) := by
  obtain ⟨⟨hx, hby, -, -, -, -, -, hZ⟩, eT, locs, -, Y⟩ := X
  obtain ⟨cl, A, r1, r2, r3⟩ := F
  have hi := idx32 hj.1 hj.2
  have hq : j.toInt.toNat < n := by omega
  exact OG.pre (fun _ k => Y.caload hx (j := j) (v := .int (f j.toInt.toNat)) (by rw [eT]; exact A.1) (State.isArrayOf_alike hZ.alike A.2.1) A.2.2 (by rw [r1]; exact hi) (r3 _ hq) (g := mkF m pc Ls (.int j :: .ref a :: st)) rfl rfl (hb hby hd) _ k) g
theorem OG.saload (X : OS B mL own nm rt Z n0 p l e R s m args below meth c T h cells slots) {a : Addr} {n : Nat} {f : Nat → Int32} (F : Ia Z h a .short n f) {j : Int32} (hj : 0 ≤ j.toInt ∧ j.toInt < n) (hd : decode B pc = .ok (.saload, 1)) (g : OG p e below s n0 rc rs Q (T.setTop (mkF m (pc + 1) Ls (.int (f j.toInt.toNat) :: st)))) : OG p e below s n0 rc rs Q (T.setTop (mkF m pc Ls (.int j :: .ref a :: st))) := by
  obtain ⟨⟨hx, hby, -, -, -, -, -, hZ⟩, eT, locs, -, Y⟩ := X
  obtain ⟨cl, A, r1, r2, r3⟩ := F
  have hi := idx32 hj.1 hj.2
  have hq : j.toInt.toNat < n := by omega
  exact OG.pre (fun _ k => Y.saload hx (j := j) (v := .int (f j.toInt.toNat)) (by rw [eT]; exact A.1) (State.isArrayOf_alike hZ.alike A.2.1) A.2.2 (by rw [r1]; exact hi) (r3 _ hq) (g := mkF m pc Ls (.int j :: .ref a :: st)) rfl rfl (hb hby hd) _ k) g
theorem OG.arraylength (X : OS B mL own nm rt Z n0 p l e R s m args below meth c T h cells slots) {a : Addr} {ty : FieldType} {n : Nat} {f : Nat → Int32} (F : Ia Z h a ty n f) {z : Int32} (hz : z.toInt = n) (hd : decode B pc = .ok (.arraylength, 1)) (g : OG p e below s n0 rc rs Q (T.setTop (mkF m (pc + 1) Ls (.int z :: st)))) : OG p e below s n0 rc rs Q (T.setTop (mkF m pc Ls (.ref a :: st))) := by
  obtain ⟨⟨hx, hby, -, -, -, -, -, hZ⟩, eT, locs, -, Y⟩ := X
  obtain ⟨cl, A, r1, r2, r3⟩ := F
  have ez : cl.slots.size.toInt32 = z := by rw [← Int32.toInt_inj, r1, len32 r2, hz]
  exact OG.pre (fun _ k => Y.arraylength hx (by rw [eT]; exact A.1) (State.isArrayOf_alike hZ.alike A.2.1) (g := mkF m pc Ls (.ref a :: st)) rfl rfl (hb hby hd) _ (by rw [ez]; exact k)) g
theorem OG.iastore (X : OS B mL own nm rt Z n0 p l e R s m args below meth c T h cells slots) {a : Addr} {n : Nat} {f : Nat → Int32} (F : Ia Z h a .int n f) {j x : Int32} (hj : 0 ≤ j.toInt ∧ j.toInt < n) (hd : decode B pc = .ok (.iastore, 1)) (ge : n0 ≤ a) (g : ∀ T' h', OS B mL own nm rt Z n0 p l e R s m args below meth c T' h' cells slots → Wr h h' a j.toInt.toNat (.int (x)) → Ia Z h' a .int n (fun i => if i = j.toInt.toNat then x else f i) → OG p e below s n0 rc rs Q (T'.setTop (mkF m (pc + 1) Ls st))) : OG p e below s n0 rc rs Q (T.setTop (mkF m pc Ls (.int x :: .int j :: .ref a :: st))) := by
  obtain ⟨h0, eT, locs, N, Y⟩ := X
  have h0' := h0
  obtain ⟨hx, hby, -, hown, hnm, -, -, hZ⟩ := h0'
  have F' := F
  obtain ⟨cl, A, r1, r2, r3⟩ := F'
  obtain ⟨T', h', Y', e', W, stp⟩ := RoadKit.stI Y hx hZ eT A (j := j) (by rw [r1]; exact idx32 hj.1 hj.2) (g := mkF m pc Ls (.int x :: .int j :: .ref a :: st)) rfl rfl (hb hby hd)
  exact OG.pre stp (g T' h' ⟨h0, e', _, Fr.snoc Y' N ge, Y'⟩ W (F.set W))
theorem OG.bastore (X : OS B mL own nm rt Z n0 p l e R s m args below meth c T h cells slots) {a : Addr} {n : Nat} {f : Nat → Int32} (F : Ia Z h a .byte n f) {j x : Int32} (hj : 0 ≤ j.toInt ∧ j.toInt < n) (hd : decode B pc = .ok (.bastore, 1)) (ge : n0 ≤ a) (g : ∀ T' h', OS B mL own nm rt Z n0 p l e R s m args below meth c T' h' cells slots → Wr h h' a j.toInt.toNat (.int (x.toInt8.toInt32)) → Ia Z h' a .byte n (fun i => if i = j.toInt.toNat then x.toInt8.toInt32 else f i) → OG p e below s n0 rc rs Q (T'.setTop (mkF m (pc + 1) Ls st))) : OG p e below s n0 rc rs Q (T.setTop (mkF m pc Ls (.int x :: .int j :: .ref a :: st))) := by
  obtain ⟨h0, eT, locs, N, Y⟩ := X
  have h0' := h0
  obtain ⟨hx, hby, -, hown, hnm, -, -, hZ⟩ := h0'
  have F' := F
  obtain ⟨cl, A, r1, r2, r3⟩ := F'
  obtain ⟨T', h', Y', e', W, stp⟩ := RoadKit.stB Y hx hZ eT A (j := j) (by rw [r1]; exact idx32 hj.1 hj.2) (g := mkF m pc Ls (.int x :: .int j :: .ref a :: st)) rfl rfl (hb hby hd)
  exact OG.pre stp (g T' h' ⟨h0, e', _, Fr.snoc Y' N ge, Y'⟩ W (F.set W))
theorem OG.castore (X : OS B mL own nm rt Z n0 p l e R s m args below meth c T h cells slots) {a : Addr} {n : Nat} {f : Nat → Int32} (F : Ia Z h a .char n f) {j x : Int32} (hj : 0 ≤ j.toInt ∧ j.toInt < n) (hd : decode B pc = .ok (.castore, 1)) (ge : n0 ≤ a) (g : ∀ T' h', OS B mL own nm rt Z n0 p l e R s m args below meth c T' h' cells slots → Wr h h' a j.toInt.toNat (.int (x.toUInt32.toUInt16.toUInt32.toInt32)) → Ia Z h' a .char n (fun i => if i = j.toInt.toNat then x.toUInt32.toUInt16.toUInt32.toInt32 else f i) → OG p e below s n0 rc rs Q (T'.setTop (mkF m (pc + 1) Ls st))) : OG p e below s n0 rc rs Q (T.setTop (mkF m pc Ls (.int x :: .int j :: .ref a :: st))) := by
  obtain ⟨h0, eT, locs, N, Y⟩ := X
  have h0' := h0
  obtain ⟨hx, hby, -, hown, hnm, -, -, hZ⟩ := h0'
  have F' := F
  obtain ⟨cl, A, r1, r2, r3⟩ := F'
  obtain ⟨T', h', Y', e', W, stp⟩ := RoadKit.stC Y hx hZ eT A (j := j) (by rw [r1]; exact idx32 hj.1 hj.2) (g := mkF m pc Ls (.int x :: .int j :: .ref a :: st)) rfl rfl (hb hby hd)
  exact OG.pre stp (g T' h' ⟨h0, e', _, Fr.snoc Y' N ge, Y'⟩ W (F.set W))
theorem OG.zastore (X : OS B mL own nm rt Z n0 p l e R s m args below meth c T h cells slots) {a : Addr} {n : Nat} {f : Nat → Int32} (F : Ia Z h a .boolean n f) {j x : Int32} (hj : 0 ≤ j.toInt ∧ j.toInt < n) (hd : decode B pc = .ok (.bastore, 1)) (ge : n0 ≤ a) (g : ∀ T' h', OS B mL own nm rt Z n0 p l e R s m args below meth c T' h' cells slots → Wr h h' a j.toInt.toNat (.int (x &&& 1)) → Ia Z h' a .boolean n (fun i => if i = j.toInt.toNat then x &&& 1 else f i) → OG p e below s n0 rc rs Q (T'.setTop (mkF m (pc + 1) Ls st))) : OG p e below s n0 rc rs Q (T.setTop (mkF m pc Ls (.int x :: .int j :: .ref a :: st))) := by
  obtain ⟨h0, eT, locs, N, Y⟩ := X
  have h0' := h0
  obtain ⟨hx, hby, -, hown, hnm, -, -, hZ⟩ := h0'
  have F' := F
  obtain ⟨cl, A, r1, r2, r3⟩ := F'
  obtain ⟨T', h', Y', e', W, stp⟩ := RoadKit.stZ Y hx hZ eT A (j := j) (by rw [r1]; exact idx32 hj.1 hj.2) (g := mkF m pc Ls (.int x :: .int j :: .ref a :: st)) rfl rfl (hb hby hd)
  exact OG.pre stp (g T' h' ⟨h0, e', _, Fr.snoc Y' N ge, Y'⟩ W (F.set W))
theorem OG.callS (X : OS B mL own nm rt Z n0 p l e R s m args below meth c T h cells slots) {y : MethodName} {index : Nat} {Bc : ByteArray} {mc : Nat} {rtc : Option FieldType} {rmc : Room} {asc : Array Value} {Qc : Option Value → Heap → Prop} (w1 : (Cond.methodLink own index y).before a0 Z = true) (w2 : (Cond.static y).before a0 Z = true) (hy : y.cls ≠ "java/lang/invoke/MethodHandle" ∧ y.cls ≠ "java/lang/invoke/VarHandle") (hM : OM l y Bc mc rtc rmc [] Z asc h n0 Qc) (wc : (Cond.code y Bc mc rtc).before a0 Z = true) (wz : (Cond.initialized y.cls).before a0 Z = true) (hfr : rmc.frames + 1 ≤ R.frames) {W : Nat} (hlo : W + (mc + 11) + rmc.locals ≤ R.locals) (hsz : Ls.size = mL) {argsL : List Value} {ps : List FieldType} {rr : Option FieldType} (hpd : parseMethodDescriptor y.desc = some ⟨ps, rr⟩) (hlen : argsL.length = ps.length) (hd : decode B pc = .ok (.invokestatic index, 3)) (has : argsL.toArray = asc) (hW : (st.map fun v => v.category).sum ≤ W) (hcl : cells + rmc.cells ≤ R.cells) (hsl : slots + rmc.slots ≤ R.slots) (g : ∀ v T' h', OS B mL own nm rt Z n0 p l e R s m args below meth c T' h' (cells + rmc.cells) (slots + rmc.slots) → Qc v h' → OG p e below s n0 rc rs Q (T'.setTop (mkF m (pc + 3) Ls (v.toList ++ st)))) : OG p e below s n0 rc rs Q (T.setTop (mkF m pc Ls (argsL.reverse ++ st))) := by
  obtain ⟨h0, eT, locs, N, Y⟩ := X
  have h0' := h0
  obtain ⟨hx, hby, hml, hown, hnm, -, -, hZ⟩ := h0'
  obtain ⟨_, _, ⟨T', L', k', n'⟩, -, Y', ⟨Lc, hQ, q2, q3, q4⟩, stp⟩ := Jvm.LawKit.callS Y hx (y := y) hown (mvT hZ w1) (mvT hZ w2) (mvT hZ wz) (mvT hZ wc) hy (backOf (W := W) (Z := Z) (h := h) (rm := rmc) (as' := asc) (Q := fun v hh L => Qc v hh ∧ Fr n0 L) hM hZ wc wz hfr hlo) (g := mkF m pc Ls (argsL.reverse ++ st)) rfl (by rw [hml]; exact hsz) (argsL := argsL) (rest := st) (lenOf hpd hlen) rfl (by show 2 * 0 + _ ≤ _; omega) (hb hby hd) (fun _ _ => ⟨has, eT, hcl, hsl⟩)
  dsimp only [Pt.U, Pt.locs, Pt.cells, Pt.slots] at Y' q2 q3 q4 stp hQ
  subst q2 q3 q4
  exact OG.pre stp (g _ T' _ ⟨h0, rfl, _, Fr.app N hQ.2, Y'⟩ hQ.1)

theorem OG.callC (X : OS B mL own nm rt Z n0 p l e R s m args below meth c T h cells slots) {y : MethodName} {index : Nat} {Bc : ByteArray} {mc : Nat} {rmc : Room} {asc : Array Value} {Qc : Option Value → Heap → Prop} (hy1 : y.name = "<init>") (w1 : (Cond.methodLink own index y).before a0 Z = true) (w2 : (Cond.instanceMethod y).before a0 Z = true) (hy : y.cls ≠ "java/lang/invoke/MethodHandle" ∧ y.cls ≠ "java/lang/invoke/VarHandle") {a : Addr} (hM : OM l y Bc mc none rmc [] Z asc h n0 Qc) (wc : (Cond.code y Bc mc none).before a0 Z = true) (wz : (Cond.initialized y.cls).before a0 Z = true) (hfr : rmc.frames + 1 ≤ R.frames) {W : Nat} (hlo : W + (mc + 11) + rmc.locals ≤ R.locals) (hsz : Ls.size = mL) {argsL : List Value} {ps : List FieldType} {rr : Option FieldType} (hpd : parseMethodDescriptor y.desc = some ⟨ps, rr⟩) (hlen : argsL.length = ps.length) (hd : decode B pc = .ok (.invokespecial index, 3)) (has : (Value.ref a :: argsL).toArray = asc) (hW : (st.map fun v => v.category).sum ≤ W) (hcl : cells + rmc.cells ≤ R.cells) (hsl : slots + rmc.slots ≤ R.slots) (g : ∀ v T' h', OS B mL own nm rt Z n0 p l e R s m args below meth c T' h' (cells + rmc.cells) (slots + rmc.slots) → Qc v h' → OG p e below s n0 rc rs Q (T'.setTop (mkF m (pc + 3) Ls (v.toList ++ st)))) : OG p e below s n0 rc rs Q (T.setTop (mkF m pc Ls (argsL.reverse ++ .ref a :: st))) := by
  obtain ⟨h0, eT, locs, N, Y⟩ := X
  have h0' := h0
  obtain ⟨hx, hby, hml, hown, hnm, -, -, hZ⟩ := h0'
  obtain ⟨_, _, ⟨T', L', k', n'⟩, -, Y', ⟨Lc, hQ, q2, q3, q4⟩, stp⟩ := Y.specialBack hx (y := y) hy1 hown (mvT hZ w1) (mvT hZ w2) (mvT hZ wc) hy (backOf (W := W) (Z := Z) (h := h) (rm := rmc) (as' := asc) (Q := fun v hh L => Qc v hh ∧ Fr n0 L) hM hZ wc wz hfr hlo) (g := mkF m pc Ls (argsL.reverse ++ .ref a :: st)) rfl (by rw [hml]; exact hsz) (Steps.refl _) (a := a) (argsL := argsL) (rest := st) (lenOf hpd hlen) rfl (by show 2 * 0 + _ ≤ _; omega) (hb hby hd) (fun _ _ => ⟨has, eT, hcl, hsl⟩)
  dsimp only [Pt.U, Pt.locs, Pt.cells, Pt.slots] at Y' q2 q3 q4 stp hQ
  subst q2 q3 q4
  exact OG.pre (fun _ k => stp.trans k) (g _ T' _ ⟨h0, rfl, _, Fr.app N hQ.2, Y'⟩ hQ.1)

theorem OG.callV (X : OS B mL own nm rt Z n0 p l e R s m args below meth c T h cells slots) {y : MethodName} {index : Nat} {Bc : ByteArray} {mc : Nat} {rtc : Option FieldType} {rmc : Room} {asc : Array Value} {Qc : Option Value → Heap → Prop} {z : MethodName} {C : String} (w1 : (Cond.methodLink own index y).before a0 Z = true) (w2 : (Cond.declares y).before a0 Z = true) (w3 : NotFace s y) (w4 : (Cond.selects C y z).before a0 Z = true) (w5 : (Cond.instanceMethod z).before a0 Z = true) (hy : y.cls ≠ "java/lang/invoke/MethodHandle" ∧ y.cls ≠ "java/lang/invoke/VarHandle") {a : Addr} (E : Exa Z h a C) (hM : OM l z Bc mc rtc rmc [] Z asc h n0 Qc) (wc : (Cond.code z Bc mc rtc).before a0 Z = true) (wz : (Cond.initialized z.cls).before a0 Z = true) (hfr : rmc.frames + 1 ≤ R.frames) {W : Nat} (hlo : W + (mc + 11) + rmc.locals ≤ R.locals) (hsz : Ls.size = mL) {argsL : List Value} {ps : List FieldType} {rr : Option FieldType} (hpd : parseMethodDescriptor y.desc = some ⟨ps, rr⟩) (hlen : argsL.length = ps.length) (hd : decode B pc = .ok (.invokevirtual index, 3)) (has : (Value.ref a :: argsL).toArray = asc) (hW : (st.map fun v => v.category).sum ≤ W) (hcl : cells + rmc.cells ≤ R.cells) (hsl : slots + rmc.slots ≤ R.slots) (g : ∀ v T' h', OS B mL own nm rt Z n0 p l e R s m args below meth c T' h' (cells + rmc.cells) (slots + rmc.slots) → Qc v h' → OG p e below s n0 rc rs Q (T'.setTop (mkF m (pc + 3) Ls (v.toList ++ st)))) : OG p e below s n0 rc rs Q (T.setTop (mkF m pc Ls (argsL.reverse ++ .ref a :: st))) := by
  obtain ⟨h0, eT, locs, N, Y⟩ := X
  have h0' := h0
  obtain ⟨hx, hby, hml, hown, hnm, -, -, hZ⟩ := h0'
  obtain ⟨cq, kq, qa, qb, qc⟩ := isOf hZ eT E
  obtain ⟨_, _, ⟨T', L', k', n'⟩, -, Y', ⟨Lc, hQ, q2, q3, q4⟩, stp⟩ := Y.virtualBack hx (y := y) (z := z) hown (mvT hZ w1) (mvT hZ w2) w3 (mvT hZ w4) (mvT hZ w5) hy (backOf (W := W) (Z := Z) (h := h) (rm := rmc) (as' := asc) (Q := fun v hh L => Qc v hh ∧ Fr n0 L) hM hZ wc wz hfr hlo) qa qc (g := mkF m pc Ls (argsL.reverse ++ .ref a :: st)) rfl (by rw [hml]; exact hsz) (Steps.refl _) (argsL := argsL) (rest := st) (lenOf hpd hlen) rfl (by show 2 * 0 + _ ≤ _; omega) (hb hby hd) (fun _ _ => ⟨has, eT, hcl, hsl⟩)
  dsimp only [Pt.U, Pt.locs, Pt.cells, Pt.slots] at Y' q2 q3 q4 stp hQ
  subst q2 q3 q4
  exact OG.pre (fun _ k => stp.trans k) (g _ T' _ ⟨h0, rfl, _, Fr.app N hQ.2, Y'⟩ hQ.1)

theorem selP {y y' : MethodName} {args : Array Value} {s : State} (hc : y'.cls = y.cls) (w : (Cond.selects y'.cls y' y').before args s = true) (hp : s.PrivateAt y) (hi : (Cond.instanceMethod y).before args s = true) (hy : y.cls ≠ "java/lang/invoke/MethodHandle" ∧ y.cls ≠ "java/lang/invoke/VarHandle") : (Cond.selects y.cls y y).before args s = true := by
  obtain ⟨c2, r2, m2, q1, q2, q3, q4, kP, hkP, hkPi⟩ := Cond.selects_spec w
  exact selects_self_of_private (c := m2.cls) (by rw [← hc]; exact findClass_of_methodNamed q3) hkP hkPi hp hi hy
theorem OG.callP (X : OS B mL own nm rt Z n0 p l e R s m args below meth c T h cells slots) {y : MethodName} {index : Nat} {Bc : ByteArray} {mc : Nat} {rtc : Option FieldType} {rmc : Room} {asc : Array Value} {Qc : Option Value → Heap → Prop} {y' : MethodName} (w1 : (Cond.methodLink own index y).before a0 Z = true) (w2 : (Cond.instanceMethod y).before a0 Z = true) (hc' : y'.cls = y.cls) (w3 : (Cond.selects y'.cls y' y').before a0 Z = true) (w4 : (Cond.privateMethod y).before a0 Z = true) (hy : y.cls ≠ "java/lang/invoke/MethodHandle" ∧ y.cls ≠ "java/lang/invoke/VarHandle") {C : String} {a : Addr} (E : Exa Z h a C) (hM : OM l y Bc mc rtc rmc [] Z asc h n0 Qc) (wc : (Cond.code y Bc mc rtc).before a0 Z = true) (wz : (Cond.initialized y.cls).before a0 Z = true) (hfr : rmc.frames + 1 ≤ R.frames) {W : Nat} (hlo : W + (mc + 11) + rmc.locals ≤ R.locals) (hsz : Ls.size = mL) {argsL : List Value} {ps : List FieldType} {rr : Option FieldType} (hpd : parseMethodDescriptor y.desc = some ⟨ps, rr⟩) (hlen : argsL.length = ps.length) (hd : decode B pc = .ok (.invokevirtual index, 3)) (has : (Value.ref a :: argsL).toArray = asc) (hW : (st.map fun v => v.category).sum ≤ W) (hcl : cells + rmc.cells ≤ R.cells) (hsl : slots + rmc.slots ≤ R.slots) (g : ∀ v T' h', OS B mL own nm rt Z n0 p l e R s m args below meth c T' h' (cells + rmc.cells) (slots + rmc.slots) → Qc v h' → OG p e below s n0 rc rs Q (T'.setTop (mkF m (pc + 3) Ls (v.toList ++ st)))) : OG p e below s n0 rc rs Q (T.setTop (mkF m pc Ls (argsL.reverse ++ .ref a :: st))) := by
  obtain ⟨h0, eT, locs, N, Y⟩ := X
  have h0' := h0
  obtain ⟨hx, hby, hml, hown, hnm, -, -, hZ⟩ := h0'
  obtain ⟨cq, qa, qb⟩ := E.cell
  have hpr : s.PrivateAt y := Cond.privateMethod_at (mvP hZ w4 (args := #[]))
  obtain ⟨_, _, ⟨T', L', k', n'⟩, -, Y', ⟨Lc, hQ, q2, q3, q4⟩, stp⟩ := Y.privateBack hx (y := y) hown (mvT hZ w1) (mvT hZ w2) (selP hc' (mvT hZ w3) hpr (mvT hZ w2) hy) hpr (mvT hZ wc) hy (backOf (W := W) (Z := Z) (h := h) (rm := rmc) (as' := asc) (Q := fun v hh L => Qc v hh ∧ Fr n0 L) hM hZ wc wz hfr hlo) (g := mkF m pc Ls (argsL.reverse ++ .ref a :: st)) rfl (by rw [hml]; exact hsz) (Steps.refl _) (a := a) (by rw [eT]; exact qa) qb (argsL := argsL) (rest := st) (lenOf hpd hlen) rfl (by show 2 * 0 + _ ≤ _; omega) (hb hby hd) (fun _ _ => ⟨has, eT, hcl, hsl⟩)
  dsimp only [Pt.U, Pt.locs, Pt.cells, Pt.slots] at Y' q2 q3 q4 stp hQ
  subst q2 q3 q4
  exact OG.pre (fun _ k => stp.trans k) (g _ T' _ ⟨h0, rfl, _, Fr.app N hQ.2, Y'⟩ hQ.1)

theorem OG.callU (X : OS B mL own nm rt Z n0 p l e R s m args below meth c T h cells slots) {y : MethodName} {index : Nat} {Bc : ByteArray} {mc : Nat} {rtc : Option FieldType} {rmc : Room} {asc : Array Value} {Qc : Option Value → Heap → Prop} {x : MethodName} {owner C : String} (w1 : (Cond.methodLink own index x).before a0 Z = true) (w2 : (Cond.sameMethod x.cls owner x.name x.desc).before a0 Z = true) (w3 : (Cond.declares ⟨owner, x.name, x.desc⟩).before a0 Z = true) (ho : owner ≠ "java/lang/invoke/MethodHandle" ∧ owner ≠ "java/lang/invoke/VarHandle") (w4 : (Cond.selects C x y).before a0 Z = true) (w5 : (Cond.instanceMethod y).before a0 Z = true) {a : Addr} (E : Exa Z h a C) (hM : OM l y Bc mc rtc rmc [] Z asc h n0 Qc) (wc : (Cond.code y Bc mc rtc).before a0 Z = true) (wz : (Cond.initialized y.cls).before a0 Z = true) (hfr : rmc.frames + 1 ≤ R.frames) {W : Nat} (hlo : W + (mc + 11) + rmc.locals ≤ R.locals) (hsz : Ls.size = mL) {argsL : List Value} {ps : List FieldType} {rr : Option FieldType} (hpd : parseMethodDescriptor x.desc = some ⟨ps, rr⟩) (hlen : argsL.length = ps.length) (hd : decode B pc = .ok (.invokevirtual index, 3)) (has : (Value.ref a :: argsL).toArray = asc) (hW : (st.map fun v => v.category).sum ≤ W) (hcl : cells + rmc.cells ≤ R.cells) (hsl : slots + rmc.slots ≤ R.slots) (g : ∀ v T' h', OS B mL own nm rt Z n0 p l e R s m args below meth c T' h' (cells + rmc.cells) (slots + rmc.slots) → Qc v h' → OG p e below s n0 rc rs Q (T'.setTop (mkF m (pc + 3) Ls (v.toList ++ st)))) : OG p e below s n0 rc rs Q (T.setTop (mkF m pc Ls (argsL.reverse ++ .ref a :: st))) := by
  obtain ⟨h0, eT, locs, N, Y⟩ := X
  have h0' := h0
  obtain ⟨hx, hby, hml, hown, hnm, -, -, hZ⟩ := h0'
  obtain ⟨cq, kq, qa, qb, qc⟩ := isOf hZ eT E
  obtain ⟨_, _, ⟨T', L', k', n'⟩, -, Y', ⟨Lc, hQ, q2, q3, q4⟩, stp⟩ := Y.virtualBackUp hx (x := x) (y := y) hown (mvT hZ w1) (mvT hZ w2) (mvT hZ w3) ho (mvT hZ w4) (mvT hZ w5) (backOf (W := W) (Z := Z) (h := h) (rm := rmc) (as' := asc) (Q := fun v hh L => Qc v hh ∧ Fr n0 L) hM hZ wc wz hfr hlo) qa qc (g := mkF m pc Ls (argsL.reverse ++ .ref a :: st)) rfl (by rw [hml]; exact hsz) (Steps.refl _) (argsL := argsL) (rest := st) (lenOf hpd hlen) rfl (by show 2 * 0 + _ ≤ _; omega) (hb hby hd) (fun _ _ => ⟨has, eT, hcl, hsl⟩)
  dsimp only [Pt.U, Pt.locs, Pt.cells, Pt.slots] at Y' q2 q3 q4 stp hQ
  subst q2 q3 q4
  exact OG.pre (fun _ k => stp.trans k) (g _ T' _ ⟨h0, rfl, _, Fr.app N hQ.2, Y'⟩ hQ.1)

theorem OG.tsw (X : OS B mL own nm rt Z n0 p l e R s m args below meth c T h cells slots) {dflt low high : Int} {offs : Array Int} {len : Nat} {o : Int} {i : Int32} {pc' : Nat} (hd : decode B pc = .ok (.tableswitch dflt low high offs, len)) (hin : ¬ (i.toInt < low ∨ i.toInt > high)) (hoff : offs[(i.toInt - low).toNat]? = some o) (hp : 0 ≤ (pc : Int) + o ∧ ((pc : Int) + o).toNat = pc') (g : OG p e below s n0 rc rs Q (T.setTop (mkF m pc' Ls st))) : OG p e below s n0 rc rs Q (T.setTop (mkF m pc Ls (.int i :: st))) := by
  obtain ⟨⟨hx, hby, -⟩, -, locs, -, Y⟩ := X
  exact OG.pre (fun _ k => XS.tswIn Y.here hx rfl (pc0 := pc) rfl (hb hby hd) rfl hin hoff hp.1 hp.2 k) g
theorem OG.dconst1 (X : OS B mL own nm rt Z n0 p l e R s m args below meth c T h cells slots) (hd : decode B pc = .ok (.dconst 1, 1)) (g : OG p e below s n0 rc rs Q (T.setTop (mkF m (pc + 1) Ls (.double FP.dconst1 :: st)))) : OG p e below s n0 rc rs Q (T.setTop (mkF m pc Ls st)) := by
  obtain ⟨⟨hx, hby, -⟩, -, locs, -, Y⟩ := X
  refine OG.pre (fun t k => ?_) g
  have hd' := hb hby hd
  show Steps p.tables e below (T.setTop { method := m, pc := pc, locals := Ls, stack := st, locked := none }) t
  jvm_step Y.here [Y.here.top, hx, hd']
  exact k
theorem OG.dcmp (X : OS B mL own nm rt Z n0 p l e R s m args below meth c T h cells slots) {cop : ClassFile.CmpOp} {x y : UInt64} (hd : decode B pc = .ok (.dcmp cop, 1)) (g : OG p e below s n0 rc rs Q (T.setTop (mkF m (pc + 1) Ls (.int (cmpValue (FP.dcmp x y) cop) :: st)))) : OG p e below s n0 rc rs Q (T.setTop (mkF m pc Ls (.double y :: .double x :: st))) := by
  obtain ⟨⟨hx, hby, -⟩, -, locs, -, Y⟩ := X
  refine OG.pre (fun t k => ?_) g
  have hd' := hb hby hd
  show Steps p.tables e below (T.setTop { method := m, pc := pc, locals := Ls, stack := .double y :: .double x :: st, locked := none }) t
  jvm_step Y.here [Y.here.top, hx, hd']
  exact k
theorem OG.initO (X : OS B mL own nm rt Z n0 p l e R s m args below meth c T h cells slots) {index : Nat} (w1 : (Cond.methodLink own index Lib.objectInit).before a0 Z = true) (w2 : (Cond.instanceMethod Lib.objectInit).before a0 Z = true) (w3 : (Cond.code Lib.objectInit ⟨#[0xb1]⟩ 1 none).before a0 Z = true) {a : Addr} (hd : decode B pc = .ok (.invokespecial index, 3)) (hsz : Ls.size = mL) (hf : 1 ≤ R.frames) {W : Nat} (hW : (st.map fun v => v.category).sum ≤ W) (hlo : W + 12 ≤ R.locals) (g : ∀ T', OS B mL own nm rt Z n0 p l e R s m args below meth c T' h cells slots → OG p e below s n0 rc rs Q (T'.setTop (mkF m (pc + 3) Ls st))) : OG p e below s n0 rc rs Q (T.setTop (mkF m pc Ls (.ref a :: st))) := by
  obtain ⟨h0, eT, locs, N, Y⟩ := X
  have h0' := h0
  obtain ⟨hx, hby, hml, hown, hnm, -, -, hZ⟩ := h0'
  obtain ⟨T', Y', e', stp⟩ := RoadKit.initO Y hx hZ hown w1 w2 w3 eT (g := mkF m pc Ls (.ref a :: st)) rfl (by rw [hml]; exact hsz) rfl (hb hby hd) hf (W := W) (by show 2 * 0 + _ ≤ _; omega) hlo
  exact OG.pre stp (g T' ⟨h0, e', _, N, Y'⟩)
theorem Ia.toArv (F : Ia Z h a .int n f) {z : Int32} (hz : z.toInt = n) : ∃ k, Arv Z h a k .int z ((List.range n).map fun i => .int (f i)) (.int 0) := by
  obtain ⟨c, A, r1, r2, r3⟩ := F
  refine ⟨c.cls, c, A, rfl, ?_, ?_, ?_, ?_⟩
  · rw [r1]; simp only [Int32.toNatClampNeg]; omega
  · rw [Int32.lt_iff_toInt_lt]; have : (0 : Int32).toInt = 0 := rfl
    omega
  · intro i hi; rw [r1] at hi; rw [r3 i hi]; simp [List.getD_eq_getElem?_getD, hi]
  · intro i hi; rw [r1] at hi; simp [List.getD_eq_getElem?_getD, hi, fits]
theorem Ia.ofArv {k : ClassId} {z : Int32} {vs : List Value} (W : Arv Z h a k .int z vs (.int 0)) (hz : z.toInt = n) (H : ∀ i, i < n → vs.getD i (.int 0) = .int (f i)) : Ia Z h a .int n f := by
  obtain ⟨c, A, -, S, -, Hs, -⟩ := W
  have hs : c.slots.size = n := by rw [S]; simp only [Int32.toNatClampNeg]; omega
  exact ⟨c, A, hs, by have := z.toInt_lt; omega, fun i hi => by rw [Hs i (by rw [hs]; exact hi), H i hi]⟩
theorem OG.arraycopyI (X : OS B mL own nm rt Z n0 p l e R s m args below meth c T h cells slots) {index : Nat} (w1 : (Cond.methodLink own index Jvm.Stand.acN).before a0 Z = true) (w2 : (Cond.native Jvm.Stand.acN).before a0 Z = true) (w3 : (Cond.static Jvm.Stand.acN).before a0 Z = true) (w4 : (Cond.initialized "java/lang/System").before a0 Z = true) {a b : Addr} {n n' : Nat} {f f' : Nat → Int32} (F : Ia Z h a .int n f) (G : Ia Z h b .int n' f') {nn : Int32} {q : Nat} (hq : nn.toInt = q) (h1 : q ≤ n) (h2 : q ≤ n') (ge : n0 ≤ b) (hd : decode B pc = .ok (.invokestatic index, 3)) (hsz : Ls.size = mL) (hf : 1 ≤ R.frames) {W : Nat} (hW : (st.map fun v => v.category).sum ≤ W) (hlo : W + 18 ≤ R.locals) (g : ∀ T' h', OS B mL own nm rt Z n0 p l e R s m args below meth c T' h' cells slots → Keep h h' [b] → Ia Z h' b .int n' (fun i => if i < q then f i else f' i) → OG p e below s n0 rc rs Q (T'.setTop (mkF m (pc + 3) Ls st))) : OG p e below s n0 rc rs Q (T.setTop (mkF m pc Ls (.int nn :: .int 0 :: .ref b :: .int 0 :: .ref a :: st))) := by
  obtain ⟨h0, eT, locs, N, Y⟩ := X
  have h0' := h0
  obtain ⟨hx, hby, hml, hown, hnm, -, -, hZ⟩ := h0'
  have la := F.len
  have lb := G.len
  obtain ⟨ka, VA⟩ := F.toArv (z := n.toInt32) (len32 la)
  obtain ⟨kb, VB⟩ := G.toArv (z := n'.toInt32) (len32 lb)
  have e0 : (0 : Int32).toNatClampNeg = 0 := rfl
  have eq : nn.toNatClampNeg = q := by simp only [Int32.toNatClampNeg]; omega
  have ea : n.toInt32.toNatClampNeg = n := by simp only [Int32.toNatClampNeg, len32 la]; omega
  have eb : n'.toInt32.toNatClampNeg = n' := by simp only [Int32.toNatClampNeg, len32 lb]; omega
  have hnn : ¬ nn < 0 := by rw [Int32.lt_iff_toInt_lt]; have : (0 : Int32).toInt = 0 := rfl; omega
  obtain ⟨T', h', L, Y', e', N', K, V, stp⟩ := cpA Y hx hZ hown w1 w2 w3 w4 eT VA VB (Or.inl ⟨rfl, rfl⟩) (sp := 0) (dp := 0) (nn := nn) (by decide) (by decide) hnn (by rw [e0, eq, ea]; omega) (by rw [e0, eq, eb]; omega) rfl (by rw [e0, eq]; simp; omega) N ge (g := mkF m pc Ls (.int nn :: .int 0 :: .ref b :: .int 0 :: .ref a :: st)) rfl (by rw [hml]; exact hsz) rfl (hb hby hd) hf (W := W) (by show 2 * 0 + _ ≤ _; omega) (by exact hlo)
  refine OG.pre stp (g T' h' ⟨h0, e', L, N', Y'⟩ K (Ia.ofArv V (len32 lb) (fun i hi => ?_)))
  rw [e0, eq]
  by_cases hi2 : i < q
  · simp [List.getD_eq_getElem?_getD, List.getElem?_append, hi2, Nat.lt_of_lt_of_le hi2 h1]
  · simp [List.getD_eq_getElem?_getD, List.getElem?_append, hi2, hi, show q + (i - q) = i by omega]
end OwnKit
end Jvm.RoadKit

namespace Jvm.Pilot.@@N@@
open Jvm Jvm.ClassFile Sem Op Lib Jvm.Free Jvm.Stand Jvm.LawKit Jvm.RoadKit Bundle Jvm.Pilot.@@N@@.Jvm.D
theorem own_eqI {args : Array Value} {first s : State} {o : Option Outcome} {idx : List Nat} {t : Term} {k : Int32} (h : (Jvm.Cond.eq t (.int k)).value args first o s idx = some true) : t.eval args first o idx s = some (.int k) := by
  simp only [Cond.value, Term.eval] at h
  cases ht : t.eval args first o idx s with
  | none => simp [ht] at h
  | some v => cases v <;> simp [ht] at h ⊢; exact h
theorem own_eqD {args : Array Value} {first s : State} {o : Option Outcome} {idx : List Nat} {t : Jvm.Term} {k : Int64} (h : (Jvm.Cond.eq t (.op1 .bitsD (.long k))).value args first o s idx = some true) : t.eval args first o idx s = some (.double k.toUInt64) := by
  have e : (Jvm.Term.op1 .bitsD (.long k)).eval args first o idx s = some (.double k.toUInt64) := rfl
  simp only [Cond.value, e] at h
  cases ht : t.eval args first o idx s with
  | none => simp [ht] at h
  | some v => cases v <;> simp [ht] at h ⊢; exact h
theorem pn_1 : plainName "com/example/wardmap/wardmap/model/EncryptionEncryptsAtPinLaw" = true := by first | (simp [plainName, overriddenIn]; done) | decide +kernel
theorem ef_1 (m : MethodId) (u : Int32) : entryFrame m #[(.int u)] 2 = mkF m 0 #[.val (.int u), .unset] [] := by first | (simp [entryFrame, mkF, argsToLocals, Value.category]; done) | rfl
def Q1 (Z : State) (u : Int32) (rN rE rP r : Addr) (h0 : Heap) : Option Value → Heap → Prop := fun v h => v = some (.ref r) ∧ h = h0
theorem d1_0 : decode method_2_code 0 = .ok (.iload_n 0, 1) := by decide +kernel
theorem d1_1 : decode method_2_code 1 = .ok (.ldc 7, 2) := by decide +kernel
theorem d1_3 : decode method_2_code 3 = .ok (.iand, 1) := by decide +kernel
theorem d1_4 : decode method_2_code 4 = .ok (.iconst 3, 1) := by decide +kernel
theorem d1_5 : decode method_2_code 5 = .ok (.irem, 1) := by decide +kernel
theorem d1_6 : decode method_2_code 6 = .ok (.istore_n 1, 1) := by decide +kernel
theorem d1_7 : decode method_2_code 7 = .ok (.iload_n 1, 1) := by decide +kernel
theorem d1_8 : decode method_2_code 8 = .ok (.ifCond .ne 7, 3) := by decide +kernel
theorem d1_15 : decode method_2_code 15 = .ok (.iload_n 1, 1) := by decide +kernel
theorem d1_16 : decode method_2_code 16 = .ok (.iconst 1, 1) := by decide +kernel
theorem d1_17 : decode method_2_code 17 = .ok (.if_icmp .ne 7, 3) := by decide +kernel
theorem d1_24 : decode method_2_code 24 = .ok (.getstatic 17, 3) := by decide +kernel
theorem d1_27 : decode method_2_code 27 = .ok (.areturn, 1) := by decide +kernel
theorem d1_20 : decode method_2_code 20 = .ok (.getstatic 14, 3) := by decide +kernel
theorem d1_23 : decode method_2_code 23 = .ok (.areturn, 1) := by decide +kernel
theorem d1_11 : decode method_2_code 11 = .ok (.getstatic 8, 3) := by decide +kernel
theorem d1_14 : decode method_2_code 14 = .ok (.areturn, 1) := by decide +kernel
abbrev room1 : Room := { frames := 0, cells := 0, slots := 0, locals := 0 }
set_option maxRecDepth 65536 in
set_option maxHeartbeats 40000000 in
theorem rm1 (l : Launch) (Z : State) (a0 : Array Value) (hw : ∀ d ∈ tables_1, d.before a0 Z = true) (ws : List Jvm.Cond) (u : Int32) (rN rE rP r : Addr) (h0 : Heap) (n0 : Nat) (S_NONE : Sta Z h0 "com/example/wardmap/wardmap/model/Encryption" "NONE" "Lcom/example/wardmap/wardmap/model/Encryption;" (.ref rN)) (S_END_TO_END : Sta Z h0 "com/example/wardmap/wardmap/model/Encryption" "END_TO_END" "Lcom/example/wardmap/wardmap/model/Encryption;" (.ref rE)) (S_POINT_TO_POINT : Sta Z h0 "com/example/wardmap/wardmap/model/Encryption" "POINT_TO_POINT" "Lcom/example/wardmap/wardmap/model/Encryption;" (.ref rP)) (hr : (if ((u &&& 2147483647) % 3) = 0 then rN else if ((u &&& 2147483647) % 3) = 1 then rE else rP) = r) :
    OM l (⟨"com/example/wardmap/wardmap/model/EncryptionEncryptsAtPinLaw", "pick", "(I)Lcom/example/wardmap/wardmap/model/Encryption;"⟩ : MethodName) method_2_code 2 (some (.object "com/example/wardmap/wardmap/model/Encryption")) room1 ws Z #[(.int u)] h0 n0 (Q1 Z u rN rE rP r h0) := by
  refine OM.of (plainFor_of_name pn_1) (fun m => ef_1 m u) ?_
  intro p e s m below meth c T X
  refine OG.iloadN X d1_0 rfl ?_
  refine OG.ldcInt X (v := (2147483647 : Int32)) (hw _ (List.mem_of_getElem? (i := 4) rfl)) d1_1 ?_
  refine OG.iand X d1_3 ?_
  refine OG.iconst X d1_4 (z := (3 : Int32)) rfl ?_
  refine OG.irem X d1_5 (by decide) ?_
  refine OG.istoreN X d1_6 (l' := #[.val (.int u), .val (.int ((u &&& (2147483647 : Int32)) % (3 : Int32)))]) rfl ?_
  refine OG.iloadN X d1_7 rfl ?_
  refine OG.if_ne X d1_8 (pc' := 15) (by decide) ?_ ?_
  · intro c8
    refine OG.iloadN X d1_15 rfl ?_
    refine OG.iconst X d1_16 (z := (1 : Int32)) rfl ?_
    refine OG.icmp_ne X d1_17 (pc' := 24) (by decide) ?_ ?_
    · intro c17
      refine OG.getS X (host := "") (Or.inl (hw _ (List.mem_of_getElem? (i := 29) rfl))) Via.refl S_POINT_TO_POINT d1_24 ?_
      intro T1 X1
      exact OG.retA X1 d1_27 rfl rfl (by decide) (by decide) ⟨by rw [← hr, if_neg c8, if_neg c17], rfl⟩
    · intro c17
      refine OG.getS X (host := "") (Or.inl (hw _ (List.mem_of_getElem? (i := 31) rfl))) Via.refl S_END_TO_END d1_20 ?_
      intro T2 X2
      exact OG.retA X2 d1_23 rfl rfl (by decide) (by decide) ⟨by rw [← hr, if_neg c8, if_pos c17], rfl⟩
  · intro c8
    refine OG.getS X (host := "") (Or.inl (hw _ (List.mem_of_getElem? (i := 5) rfl))) Via.refl S_NONE d1_11 ?_
    intro T3 X3
    exact OG.retA X3 d1_14 rfl rfl (by decide) (by decide) ⟨by rw [← hr, if_pos c8], rfl⟩
theorem d3_0 : decode jdk_37_method_2_code 0 = .ok (.aload_n 0, 1) := by decide +kernel
theorem d3_1 : decode jdk_37_method_2_code 1 = .ok (.getfield 7, 3) := by decide +kernel
theorem d3_4 : decode jdk_37_method_2_code 4 = .ok (.ireturn, 1) := by decide +kernel
def F3 (u : Int32) : Int32 := u
theorem pn_3 : plainName "java/lang/Enum" = true := by first | (simp [plainName, overriddenIn]; done) | decide +kernel
theorem ef_3 (m : MethodId) (a : Addr) : entryFrame m #[(.ref a)] 1 = mkF m 0 #[.val (.ref a)] [] := by first | (simp [entryFrame, mkF, argsToLocals, Value.category]; done) | rfl
def Q3 (Z : State) (a : Addr) (u : Int32) (h0 : Heap) : Option Value → Heap → Prop := fun v h => v = some (.int (F3 u)) ∧ h = h0
abbrev room3 : Room := { frames := 0, cells := 0, slots := 0, locals := 0 }
set_option maxRecDepth 65536 in
set_option maxHeartbeats 40000000 in
theorem rm3 (l : Launch) (Z : State) (a0 : Array Value) (hw : ∀ d ∈ tables_1, d.before a0 Z = true) (ws : List Jvm.Cond) (a : Addr) (u : Int32) (h0 : Heap) (n0 : Nat) (F_ordinal_a : Fld Z h0 a "java/lang/Enum" "ordinal" "I" (.int u)) :
    OM l (⟨"java/lang/Enum", "ordinal", "()I"⟩ : MethodName) jdk_37_method_2_code 1 (some .int) room3 ws Z #[(.ref a)] h0 n0 (Q3 Z a u h0) := by
  refine OM.of (plainFor_of_name pn_3) (fun m => ef_3 m a) ?_
  intro p e s m below meth c T X
  refine OG.aloadN X d3_0 rfl rfl ?_
  refine OG.getF X (host := "") (Or.inl (hw _ (List.mem_of_getElem? (i := 20) rfl))) Via.refl F_ordinal_a d3_1 ?_
  intro T1 X1
  exact OG.retI X1 d3_4 (by decide) (by decide) ⟨rfl, rfl⟩
def FE (ed od : Int32) : Int32 := if od = 0 then 0 else if od = 1 then ed &&& 1 else 1
theorem pn_2 : plainName "com/example/wardmap/wardmap/model/Encryption" = true := by first | (simp [plainName, overriddenIn]; done) | decide +kernel
theorem ef_2 (m : MethodId) (a : Addr) (ed : Int32) : entryFrame m #[(.ref a), (.int ed)] 2 = mkF m 0 #[.val (.ref a), .val (.int ed)] [] := by first | (simp [entryFrame, mkF, argsToLocals, Value.category]; done) | rfl
def Q2 (Z : State) (a : Addr) (ed : Int32) (od : Int32) (h0 : Heap) : Option Value → Heap → Prop := fun v h => v = some (.int (FE ed od)) ∧ h = h0
theorem d2_0 : decode prog_29_method_7_code 0 = .ok (.aload_n 0, 1) := by decide +kernel
theorem d2_1 : decode prog_29_method_7_code 1 = .ok (.invokevirtual 64, 3) := by decide +kernel
theorem pd_0 : parseMethodDescriptor "()I" = some ⟨[], some .int⟩ := by decide +kernel
theorem d2_4 : decode prog_29_method_7_code 4 = .ok (.tableswitch 28 0 2 #[38, 42, 46], 28) := by decide +kernel
theorem d2_42 : decode prog_29_method_7_code 42 = .ok (.iconst 0, 1) := by decide +kernel
theorem d2_43 : decode prog_29_method_7_code 43 = .ok (.goto 8, 3) := by decide +kernel
theorem d2_51 : decode prog_29_method_7_code 51 = .ok (.ireturn, 1) := by decide +kernel
theorem d2_46 : decode prog_29_method_7_code 46 = .ok (.iload_n 1, 1) := by decide +kernel
theorem d2_47 : decode prog_29_method_7_code 47 = .ok (.goto 4, 3) := by decide +kernel
theorem d2_50 : decode prog_29_method_7_code 50 = .ok (.iconst 1, 1) := by decide +kernel
abbrev room2 : Room := { frames := 1, cells := 0, slots := 0, locals := 12 }
set_option maxRecDepth 65536 in
set_option maxHeartbeats 40000000 in
theorem rm2 (l : Launch) (Z : State) (a0 : Array Value) (hw : ∀ d ∈ tables_1, d.before a0 Z = true) (ws : List Jvm.Cond) (a : Addr) (ed : Int32) (od : Int32) (h0 : Heap) (n0 : Nat) (E_a : Exa Z h0 a "com/example/wardmap/wardmap/model/Encryption") (F_ordinal_a : Fld Z h0 a "java/lang/Enum" "ordinal" "I" (.int od)) (hod : od = 0 ∨ od = 1 ∨ od = 2) :
    OM l (⟨"com/example/wardmap/wardmap/model/Encryption", "encryptsAt", "(Z)Z"⟩ : MethodName) prog_29_method_7_code 2 (some .boolean) room2 ws Z #[(.ref a), (.int ed)] h0 n0 (Q2 Z a ed od h0) := by
  refine OM.of (plainFor_of_name pn_2) (fun m => ef_2 m a ed) ?_
  intro p e s m below meth c T X
  refine OG.aloadN X d2_0 rfl rfl ?_
  refine OG.callU X (x := (⟨"com/example/wardmap/wardmap/model/Encryption", "ordinal", "()I"⟩ : MethodName)) (hw _ (List.mem_of_getElem? (i := 13) rfl)) (hw _ (List.mem_of_getElem? (i := 14) rfl)) (hw _ (List.mem_of_getElem? (i := 15) rfl)) (by decide) (hw _ (List.mem_of_getElem? (i := 17) rfl)) (hw _ (List.mem_of_getElem? (i := 16) rfl)) E_a (rm3 l Z a0 hw [] a od h0 n0 F_ordinal_a) (hw _ (List.mem_of_getElem? (i := 19) rfl)) (hw _ (List.mem_of_getElem? (i := 18) rfl)) (by decide) (W := 0) (by decide) rfl (argsL := []) pd_0 rfl d2_1 rfl (Nat.le_of_eq rfl) (by decide) (by decide) ?_
  rintro _ T1 h2 X1 ⟨rfl, eh2⟩
  rw [eh2] at X1
  show OG p e below s n0 room2.cells room2.slots (Q2 Z a ed od h0) (T1.setTop (mkF m 4 #[.val (.ref a), .val (.int ed)] [(.int (F3 od))]))
  show OG p e below s n0 room2.cells room2.slots (Q2 Z a ed od h0) (T1.setTop (mkF m 4 #[.val (.ref a), .val (.int ed)] [(.int od)]))
  rcases hod with rfl | rfl | rfl
  · skip
    refine OG.tsw X1 d2_4 (by decide) rfl (pc' := 42) (by decide) ?_
    refine OG.iconst X1 d2_42 (z := (0 : Int32)) rfl ?_
    refine OG.goto X1 d2_43 (pc' := 51) (by decide) ?_
    exact OG.retN X1 (t := .boolean) d2_51 (by simp) (by decide) (by decide) ⟨rfl, rfl⟩
  · skip
    refine OG.tsw X1 d2_4 (by decide) rfl (pc' := 46) (by decide) ?_
    refine OG.iloadN X1 d2_46 rfl ?_
    refine OG.goto X1 d2_47 (pc' := 51) (by decide) ?_
    exact OG.retN X1 (t := .boolean) d2_51 (by simp) (by decide) (by decide) ⟨rfl, rfl⟩
  · skip
    refine OG.tsw X1 d2_4 (by decide) rfl (pc' := 50) (by decide) ?_
    refine OG.iconst X1 d2_50 (z := (1 : Int32)) rfl ?_
    exact OG.retN X1 (t := .boolean) d2_51 (by simp) (by decide) (by decide) ⟨rfl, rfl⟩
theorem pn_4 : plainName "com/example/wardmap/wardmap/model/Encryption" = true := by first | (simp [plainName, overriddenIn]; done) | decide +kernel
theorem ef_4 (m : MethodId) (a : Addr) : entryFrame m #[(.ref a)] 1 = mkF m 0 #[.val (.ref a)] [] := by first | (simp [entryFrame, mkF, argsToLocals, Value.category]; done) | rfl
def Q4 (Z : State) (a : Addr) (bw : UInt64) (h0 : Heap) : Option Value → Heap → Prop := fun v h => v = some (.double bw) ∧ h = h0
theorem d4_0 : decode prog_29_method_6_code 0 = .ok (.aload_n 0, 1) := by decide +kernel
theorem d4_1 : decode prog_29_method_6_code 1 = .ok (.getfield 36, 3) := by decide +kernel
theorem d4_4 : decode prog_29_method_6_code 4 = .ok (.dreturn, 1) := by decide +kernel
abbrev room4 : Room := { frames := 0, cells := 0, slots := 0, locals := 0 }
set_option maxRecDepth 65536 in
set_option maxHeartbeats 40000000 in
theorem rm4 (l : Launch) (Z : State) (a0 : Array Value) (hw : ∀ d ∈ tables_1, d.before a0 Z = true) (ws : List Jvm.Cond) (a : Addr) (bw : UInt64) (h0 : Heap) (n0 : Nat) (F_b_a : Fld Z h0 a "com/example/wardmap/wardmap/model/Encryption" "bandwidthFactor" "D" (.double bw)) :
    OM l (⟨"com/example/wardmap/wardmap/model/Encryption", "bandwidthFactor", "()D"⟩ : MethodName) prog_29_method_6_code 1 (some .double) room4 ws Z #[(.ref a)] h0 n0 (Q4 Z a bw h0) := by
  refine OM.of (plainFor_of_name pn_4) (fun m => ef_4 m a) ?_
  intro p e s m below meth c T X
  refine OG.aloadN X d4_0 rfl rfl ?_
  refine OG.getF X (host := "") (Or.inl (hw _ (List.mem_of_getElem? (i := 27) rfl))) Via.refl F_b_a d4_1 ?_
  intro T1 X1
  exact OG.retD X1 d4_4 (by decide) (by decide) ⟨rfl, rfl⟩
theorem own_fu {u q : Int32} (h : u = if q = 0 then 0 else 1) (c : ¬ u = 0) : u = 1 := by
  by_cases p : q = 0
  · rw [if_pos p] at h; exact absurd h c
  · rw [if_neg p] at h; exact h
theorem own_k (q : Int32) : (q &&& 2147483647) % 3 = 0 ∨ (q &&& 2147483647) % 3 = 1 ∨ (q &&& 2147483647) % 3 = 2 := by
  have h1 := c_and q 2147483647 (by decide)
  have h2 := c_irem (q &&& 2147483647) 3 3 rfl
  simp only [← Int32.toInt_inj]
  have e0 : (0 : Int32).toInt = 0 := rfl
  have e1 : (1 : Int32).toInt = 1 := rfl
  have e2 : (2 : Int32).toInt = 2 := rfl
  omega
theorem pn_0 : plainName "com/example/wardmap/wardmap/model/EncryptionEncryptsAtPinLaw" = true := by first | (simp [plainName, overriddenIn]; done) | decide +kernel
theorem ef_0 (m : MethodId) (i0 : Int32) (i1 : Int32) : entryFrame m #[(.int i0), (.int i1)] maxLocals = mkF m 0 #[.val (.int i0), .val (.int i1), .unset, .unset, .unset, .unset, .unset, .unset] [] := by first | (simp [entryFrame, mkF, argsToLocals, Value.category, maxLocals]; done) | rfl
def Q0 (Z : State) (i0 : Int32) (i1 : Int32) (rN rE rP r : Addr) (od : Int32) (bw : UInt64) (h0 : Heap) : Option Value → Heap → Prop := fun v h => v = some (.int 1)
theorem pd_1 : parseMethodDescriptor "(I)Lcom/example/wardmap/wardmap/model/Encryption;" = some ⟨[.int], some (.object "com/example/wardmap/wardmap/model/Encryption")⟩ := by decide +kernel
theorem pd_2 : parseMethodDescriptor "(Z)Z" = some ⟨[.boolean], some .boolean⟩ := by decide +kernel
theorem pd_3 : parseMethodDescriptor "()D" = some ⟨[], some .double⟩ := by decide +kernel
set_option maxRecDepth 65536 in
set_option maxHeartbeats 40000000 in
theorem rm0 (l : Launch) (Z : State) (a0 : Array Value) (hw : ∀ d ∈ tables_1, d.before a0 Z = true) (ws : List Jvm.Cond) (i0 : Int32) (i1 : Int32) (rN rE rP r : Addr) (od : Int32) (bw : UInt64) (h0 : Heap) (n0 : Nat) (Z0 : n0 ≤ h0.size) (S_NONE : Sta Z h0 "com/example/wardmap/wardmap/model/Encryption" "NONE" "Lcom/example/wardmap/wardmap/model/Encryption;" (.ref rN)) (S_END_TO_END : Sta Z h0 "com/example/wardmap/wardmap/model/Encryption" "END_TO_END" "Lcom/example/wardmap/wardmap/model/Encryption;" (.ref rE)) (S_POINT_TO_POINT : Sta Z h0 "com/example/wardmap/wardmap/model/Encryption" "POINT_TO_POINT" "Lcom/example/wardmap/wardmap/model/Encryption;" (.ref rP)) (hr : (if ((i0 &&& 2147483647) % 3) = 0 then rN else if ((i0 &&& 2147483647) % 3) = 1 then rE else rP) = r) (E_r : Exa Z h0 r "com/example/wardmap/wardmap/model/Encryption") (F_ordinal_r : Fld Z h0 r "java/lang/Enum" "ordinal" "I" (.int od)) (F_b_r : Fld Z h0 r "com/example/wardmap/wardmap/model/Encryption" "bandwidthFactor" "D" (.double bw)) (hod : od = 0 ∨ od = 1 ∨ od = 2) (hcase : (r = rN ∧ od = 0 ∧ bw = (4607182418800017408 : Int64).toUInt64) ∨ (r = rE ∧ od = 1 ∧ bw = (4607668807559773422 : Int64).toUInt64) ∨ (r = rP ∧ od = 2 ∧ bw = (4607745368753438720 : Int64).toUInt64)) (hEN : ¬ rE = rN) (hPN : ¬ rP = rN) (hEP : ¬ rE = rP) :
    OM l x code maxLocals ret room_1 ws Z #[(.int i0), (.int i1)] h0 n0 (Q0 Z i0 i1 rN rE rP r od bw h0) := by
  refine OM.of (plainFor_of_name pn_0) (fun m => ef_0 m i0 i1) ?_
  intro p e s m below meth c T X
  refine OG.iloadN X at_0 rfl ?_
  refine OG.callS X (hw _ (List.mem_of_getElem? (i := 0) rfl)) (hw _ (List.mem_of_getElem? (i := 1) rfl)) (by decide) (rm1 l Z a0 hw [] i0 rN rE rP r h0 n0 S_NONE S_END_TO_END S_POINT_TO_POINT hr) (hw _ (List.mem_of_getElem? (i := 3) rfl)) (hw _ (List.mem_of_getElem? (i := 2) rfl)) (by decide) (W := 0) (by decide) rfl (argsL := [(.int i0)]) pd_1 rfl at_1 rfl (Nat.le_of_eq rfl) (by decide) (by decide) ?_
  rintro _ T1 h2 X1 ⟨rfl, eh2⟩
  rw [eh2] at X1
  show OG p e below s n0 room_1.cells room_1.slots (Q0 Z i0 i1 rN rE rP r od bw h0) (T1.setTop (mkF m 4 #[.val (.int i0), .val (.int i1), .unset, .unset, .unset, .unset, .unset, .unset] [(.ref r)]))
  rcases hcase with ⟨h1, h2, h3⟩ | ⟨h1, h2, h3⟩ | ⟨h1, h2, h3⟩
  · skip
    refine OG.astoreN X1 at_4 (l' := #[.val (.int i0), .val (.int i1), .val (.ref r), .unset, .unset, .unset, .unset, .unset]) rfl rfl ?_
    refine OG.iloadN X1 at_5 rfl ?_
    refine OG.iconst X1 at_6 (z := (1 : Int32)) rfl ?_
    refine OG.iand X1 at_7 ?_
    have hj3 : ∀ ed : Int32, ed = (if (i1 &&& (1 : Int32)) = (0 : Int32) then (0 : Int32) else (1 : Int32)) → OG p e below s n0 room_1.cells room_1.slots (Q0 Z i0 i1 rN rE rP r od bw h0) (T1.setTop (mkF m 16 #[.val (.int i0), .val (.int i1), .val (.ref r), .unset, .unset, .unset, .unset, .unset] [(.int ed)])) := by
      intro ed hed
      refine OG.istoreN X1 at_16 (l' := #[.val (.int i0), .val (.int i1), .val (.ref r), .val (.int ed), .unset, .unset, .unset, .unset]) rfl ?_
      refine OG.aloadN X1 at_17 rfl rfl ?_
      refine OG.iloadN X1 at_18 rfl ?_
      refine OG.callV X1 (hw _ (List.mem_of_getElem? (i := 8) rfl)) (hw _ (List.mem_of_getElem? (i := 9) rfl)) (notFace_of_selects (args := #[]) (mvT X1.warm (hw _ (List.mem_of_getElem? (i := 11) rfl)))) (hw _ (List.mem_of_getElem? (i := 11) rfl)) (hw _ (List.mem_of_getElem? (i := 10) rfl)) (by decide) E_r (rm2 l Z a0 hw [] r ed od h0 n0 E_r F_ordinal_r hod) (hw _ (List.mem_of_getElem? (i := 12) rfl)) (hw _ (List.mem_of_getElem? (i := 6) rfl)) (by decide) (W := 0) (by decide) rfl (argsL := [(.int ed)]) pd_2 rfl at_19 rfl (Nat.le_of_eq rfl) (by decide) (by decide) ?_
      rintro _ T4 h5 X4 ⟨rfl, eh5⟩
      rw [eh5] at X4
      show OG p e below s n0 room_1.cells room_1.slots (Q0 Z i0 i1 rN rE rP r od bw h0) (T4.setTop (mkF m 22 #[.val (.int i0), .val (.int i1), .val (.ref r), .val (.int ed), .unset, .unset, .unset, .unset] [(.int (FE ed od))]))
      refine OG.istoreV X4 at_22 (l' := fun z => #[.val (.int i0), .val (.int i1), .val (.ref r), .val (.int ed), .val (.int z), .unset, .unset, .unset]) (fun _ => rfl) ?_
      intro got hgot
      refine OG.aloadN X4 at_24 rfl rfl ?_
      refine OG.getS X4 (host := "") (Or.inl (hw _ (List.mem_of_getElem? (i := 5) rfl))) Via.refl S_NONE at_25 ?_
      intro T6 X6
      refine OG.acmp_eq_t X6 at_28 (pc' := 46) (by decide) h1 ?_
      refine OG.iconst X6 at_46 (z := (0 : Int32)) rfl ?_
      refine OG.istore X6 at_47 (l' := #[.val (.int i0), .val (.int i1), .val (.ref r), .val (.int ed), .val (.int got), .val (.int (0 : Int32)), .unset, .unset]) rfl ?_
      refine OG.iload X6 at_49 rfl ?_
      refine OG.iload X6 at_51 rfl ?_
      refine OG.icmp_eq_t X6 at_53 (pc' := 58) (by decide) (by rw [hgot, h2]; rfl) ?_
      refine OG.aloadN X6 at_58 rfl rfl ?_
      refine OG.iconst X6 at_59 (z := (1 : Int32)) rfl ?_
      refine OG.callV X6 (hw _ (List.mem_of_getElem? (i := 8) rfl)) (hw _ (List.mem_of_getElem? (i := 9) rfl)) (notFace_of_selects (args := #[]) (mvT X6.warm (hw _ (List.mem_of_getElem? (i := 11) rfl)))) (hw _ (List.mem_of_getElem? (i := 11) rfl)) (hw _ (List.mem_of_getElem? (i := 10) rfl)) (by decide) E_r (rm2 l Z a0 hw [] r (1 : Int32) od h0 n0 E_r F_ordinal_r hod) (hw _ (List.mem_of_getElem? (i := 12) rfl)) (hw _ (List.mem_of_getElem? (i := 6) rfl)) (by decide) (W := 0) (by decide) rfl (argsL := [(.int (1 : Int32))]) pd_2 rfl at_60 rfl (Nat.le_of_eq rfl) (by decide) (by decide) ?_
      rintro _ T7 h8 X7 ⟨rfl, eh8⟩
      rw [eh8] at X7
      show OG p e below s n0 room_1.cells room_1.slots (Q0 Z i0 i1 rN rE rP r od bw h0) (T7.setTop (mkF m 63 #[.val (.int i0), .val (.int i1), .val (.ref r), .val (.int ed), .val (.int got), .val (.int (0 : Int32)), .unset, .unset] [(.int (FE (1 : Int32) od))]))
      refine OG.istoreV X7 at_63 (l' := fun z => #[.val (.int i0), .val (.int i1), .val (.ref r), .val (.int ed), .val (.int got), .val (.int (0 : Int32)), .val (.int z), .unset]) (fun _ => rfl) ?_
      intro ae hae
      refine OG.dconst1 X7 at_65 ?_
      refine OG.aloadN X7 at_66 rfl rfl ?_
      refine OG.callV X7 (hw _ (List.mem_of_getElem? (i := 22) rfl)) (hw _ (List.mem_of_getElem? (i := 23) rfl)) (notFace_of_selects (args := #[]) (mvT X7.warm (hw _ (List.mem_of_getElem? (i := 25) rfl)))) (hw _ (List.mem_of_getElem? (i := 25) rfl)) (hw _ (List.mem_of_getElem? (i := 24) rfl)) (by decide) E_r (rm4 l Z a0 hw [] r bw h0 n0 F_b_r) (hw _ (List.mem_of_getElem? (i := 26) rfl)) (hw _ (List.mem_of_getElem? (i := 6) rfl)) (by decide) (W := 2) (by decide) rfl (argsL := []) pd_3 rfl at_67 rfl (Nat.le_of_eq rfl) (by decide) (by decide) ?_
      rintro _ T9 h10 X9 ⟨rfl, eh10⟩
      rw [eh10] at X9
      show OG p e below s n0 room_1.cells room_1.slots (Q0 Z i0 i1 rN rE rP r od bw h0) (T9.setTop (mkF m 70 #[.val (.int i0), .val (.int i1), .val (.ref r), .val (.int ed), .val (.int got), .val (.int (0 : Int32)), .val (.int ae), .unset] [(.double bw), (.double FP.dconst1)]))
      refine OG.dcmp X9 at_70 ?_
      refine OG.if_ge_t X9 at_71 (pc' := 78) (by decide) (by rw [h3]; decide +kernel) ?_
      refine OG.iconst X9 at_78 (z := (0 : Int32)) rfl ?_
      refine OG.istore X9 at_79 (l' := #[.val (.int i0), .val (.int i1), .val (.ref r), .val (.int ed), .val (.int got), .val (.int (0 : Int32)), .val (.int ae), .val (.int (0 : Int32))]) rfl ?_
      refine OG.iload X9 at_81 rfl ?_
      refine OG.iload X9 at_83 rfl ?_
      refine OG.icmp_ne_f X9 at_85 (by rw [hae, h2]; rfl) ?_
      refine OG.iconst X9 at_88 (z := (1 : Int32)) rfl ?_
      refine OG.goto X9 at_89 (pc' := 93) (by decide) ?_
      exact OG.retN X9 (t := .boolean) at_93 (by simp) (by decide) (by decide) rfl
    refine OG.if_eq X1 at_8 (pc' := 15) (by decide) ?_ ?_
    · intro c8
      refine OG.iconst X1 at_15 (z := (0 : Int32)) rfl ?_
      exact hj3 _ (by rw [if_pos c8])
    · intro c8
      refine OG.iconst X1 at_11 (z := (1 : Int32)) rfl ?_
      refine OG.goto X1 at_12 (pc' := 16) (by decide) ?_
      exact hj3 _ (by rw [if_neg c8])
  · skip
    refine OG.astoreN X1 at_4 (l' := #[.val (.int i0), .val (.int i1), .val (.ref r), .unset, .unset, .unset, .unset, .unset]) rfl rfl ?_
    refine OG.iloadN X1 at_5 rfl ?_
    refine OG.iconst X1 at_6 (z := (1 : Int32)) rfl ?_
    refine OG.iand X1 at_7 ?_
    have hj11 : ∀ ed : Int32, ed = (if (i1 &&& (1 : Int32)) = (0 : Int32) then (0 : Int32) else (1 : Int32)) → OG p e below s n0 room_1.cells room_1.slots (Q0 Z i0 i1 rN rE rP r od bw h0) (T1.setTop (mkF m 16 #[.val (.int i0), .val (.int i1), .val (.ref r), .unset, .unset, .unset, .unset, .unset] [(.int ed)])) := by
      intro ed hed
      refine OG.istoreN X1 at_16 (l' := #[.val (.int i0), .val (.int i1), .val (.ref r), .val (.int ed), .unset, .unset, .unset, .unset]) rfl ?_
      refine OG.aloadN X1 at_17 rfl rfl ?_
      refine OG.iloadN X1 at_18 rfl ?_
      refine OG.callV X1 (hw _ (List.mem_of_getElem? (i := 8) rfl)) (hw _ (List.mem_of_getElem? (i := 9) rfl)) (notFace_of_selects (args := #[]) (mvT X1.warm (hw _ (List.mem_of_getElem? (i := 11) rfl)))) (hw _ (List.mem_of_getElem? (i := 11) rfl)) (hw _ (List.mem_of_getElem? (i := 10) rfl)) (by decide) E_r (rm2 l Z a0 hw [] r ed od h0 n0 E_r F_ordinal_r hod) (hw _ (List.mem_of_getElem? (i := 12) rfl)) (hw _ (List.mem_of_getElem? (i := 6) rfl)) (by decide) (W := 0) (by decide) rfl (argsL := [(.int ed)]) pd_2 rfl at_19 rfl (Nat.le_of_eq rfl) (by decide) (by decide) ?_
      rintro _ T12 h13 X12 ⟨rfl, eh13⟩
      rw [eh13] at X12
      show OG p e below s n0 room_1.cells room_1.slots (Q0 Z i0 i1 rN rE rP r od bw h0) (T12.setTop (mkF m 22 #[.val (.int i0), .val (.int i1), .val (.ref r), .val (.int ed), .unset, .unset, .unset, .unset] [(.int (FE ed od))]))
      refine OG.istoreV X12 at_22 (l' := fun z => #[.val (.int i0), .val (.int i1), .val (.ref r), .val (.int ed), .val (.int z), .unset, .unset, .unset]) (fun _ => rfl) ?_
      intro got hgot
      refine OG.aloadN X12 at_24 rfl rfl ?_
      refine OG.getS X12 (host := "") (Or.inl (hw _ (List.mem_of_getElem? (i := 5) rfl))) Via.refl S_NONE at_25 ?_
      intro T14 X14
      refine OG.acmp_eq_f X14 at_28 (pc' := 46) (by decide) (by rw [h1]; exact hEN) ?_
      refine OG.iloadN X14 at_31 rfl ?_
      refine OG.if_ne X14 at_32 (pc' := 42) (by decide) ?_ ?_
      · intro c32
        refine OG.iconst X14 at_42 (z := (1 : Int32)) rfl ?_
        refine OG.goto X14 at_43 (pc' := 47) (by decide) ?_
        refine OG.istore X14 at_47 (l' := #[.val (.int i0), .val (.int i1), .val (.ref r), .val (.int ed), .val (.int got), .val (.int (1 : Int32)), .unset, .unset]) rfl ?_
        refine OG.iload X14 at_49 rfl ?_
        refine OG.iload X14 at_51 rfl ?_
        refine OG.icmp_eq_t X14 at_53 (pc' := 58) (by decide) (by rw [hgot, h2, own_fu hed c32]; rfl) ?_
        refine OG.aloadN X14 at_58 rfl rfl ?_
        refine OG.iconst X14 at_59 (z := (1 : Int32)) rfl ?_
        refine OG.callV X14 (hw _ (List.mem_of_getElem? (i := 8) rfl)) (hw _ (List.mem_of_getElem? (i := 9) rfl)) (notFace_of_selects (args := #[]) (mvT X14.warm (hw _ (List.mem_of_getElem? (i := 11) rfl)))) (hw _ (List.mem_of_getElem? (i := 11) rfl)) (hw _ (List.mem_of_getElem? (i := 10) rfl)) (by decide) E_r (rm2 l Z a0 hw [] r (1 : Int32) od h0 n0 E_r F_ordinal_r hod) (hw _ (List.mem_of_getElem? (i := 12) rfl)) (hw _ (List.mem_of_getElem? (i := 6) rfl)) (by decide) (W := 0) (by decide) rfl (argsL := [(.int (1 : Int32))]) pd_2 rfl at_60 rfl (Nat.le_of_eq rfl) (by decide) (by decide) ?_
        rintro _ T15 h16 X15 ⟨rfl, eh16⟩
        rw [eh16] at X15
        show OG p e below s n0 room_1.cells room_1.slots (Q0 Z i0 i1 rN rE rP r od bw h0) (T15.setTop (mkF m 63 #[.val (.int i0), .val (.int i1), .val (.ref r), .val (.int ed), .val (.int got), .val (.int (1 : Int32)), .unset, .unset] [(.int (FE (1 : Int32) od))]))
        refine OG.istoreV X15 at_63 (l' := fun z => #[.val (.int i0), .val (.int i1), .val (.ref r), .val (.int ed), .val (.int got), .val (.int (1 : Int32)), .val (.int z), .unset]) (fun _ => rfl) ?_
        intro ae hae
        refine OG.dconst1 X15 at_65 ?_
        refine OG.aloadN X15 at_66 rfl rfl ?_
        refine OG.callV X15 (hw _ (List.mem_of_getElem? (i := 22) rfl)) (hw _ (List.mem_of_getElem? (i := 23) rfl)) (notFace_of_selects (args := #[]) (mvT X15.warm (hw _ (List.mem_of_getElem? (i := 25) rfl)))) (hw _ (List.mem_of_getElem? (i := 25) rfl)) (hw _ (List.mem_of_getElem? (i := 24) rfl)) (by decide) E_r (rm4 l Z a0 hw [] r bw h0 n0 F_b_r) (hw _ (List.mem_of_getElem? (i := 26) rfl)) (hw _ (List.mem_of_getElem? (i := 6) rfl)) (by decide) (W := 2) (by decide) rfl (argsL := []) pd_3 rfl at_67 rfl (Nat.le_of_eq rfl) (by decide) (by decide) ?_
        rintro _ T17 h18 X17 ⟨rfl, eh18⟩
        rw [eh18] at X17
        show OG p e below s n0 room_1.cells room_1.slots (Q0 Z i0 i1 rN rE rP r od bw h0) (T17.setTop (mkF m 70 #[.val (.int i0), .val (.int i1), .val (.ref r), .val (.int ed), .val (.int got), .val (.int (1 : Int32)), .val (.int ae), .unset] [(.double bw), (.double FP.dconst1)]))
        refine OG.dcmp X17 at_70 ?_
        refine OG.if_ge_f X17 at_71 (by rw [h3]; decide +kernel) ?_
        refine OG.iconst X17 at_74 (z := (1 : Int32)) rfl ?_
        refine OG.goto X17 at_75 (pc' := 79) (by decide) ?_
        refine OG.istore X17 at_79 (l' := #[.val (.int i0), .val (.int i1), .val (.ref r), .val (.int ed), .val (.int got), .val (.int (1 : Int32)), .val (.int ae), .val (.int (1 : Int32))]) rfl ?_
        refine OG.iload X17 at_81 rfl ?_
        refine OG.iload X17 at_83 rfl ?_
        refine OG.icmp_ne_f X17 at_85 (by rw [hae, h2]; rfl) ?_
        refine OG.iconst X17 at_88 (z := (1 : Int32)) rfl ?_
        refine OG.goto X17 at_89 (pc' := 93) (by decide) ?_
        exact OG.retN X17 (t := .boolean) at_93 (by simp) (by decide) (by decide) rfl
      · intro c32
        refine OG.aloadN X14 at_35 rfl rfl ?_
        refine OG.getS X14 (host := "") (Or.inl (hw _ (List.mem_of_getElem? (i := 29) rfl))) Via.refl S_POINT_TO_POINT at_36 ?_
        intro T19 X19
        refine OG.acmp_ne_t X19 at_39 (pc' := 46) (by decide) (by rw [h1]; exact hEP) ?_
        refine OG.iconst X19 at_46 (z := (0 : Int32)) rfl ?_
        refine OG.istore X19 at_47 (l' := #[.val (.int i0), .val (.int i1), .val (.ref r), .val (.int ed), .val (.int got), .val (.int (0 : Int32)), .unset, .unset]) rfl ?_
        refine OG.iload X19 at_49 rfl ?_
        refine OG.iload X19 at_51 rfl ?_
        refine OG.icmp_eq_t X19 at_53 (pc' := 58) (by decide) (by rw [hgot, h2, c32]; rfl) ?_
        refine OG.aloadN X19 at_58 rfl rfl ?_
        refine OG.iconst X19 at_59 (z := (1 : Int32)) rfl ?_
        refine OG.callV X19 (hw _ (List.mem_of_getElem? (i := 8) rfl)) (hw _ (List.mem_of_getElem? (i := 9) rfl)) (notFace_of_selects (args := #[]) (mvT X19.warm (hw _ (List.mem_of_getElem? (i := 11) rfl)))) (hw _ (List.mem_of_getElem? (i := 11) rfl)) (hw _ (List.mem_of_getElem? (i := 10) rfl)) (by decide) E_r (rm2 l Z a0 hw [] r (1 : Int32) od h0 n0 E_r F_ordinal_r hod) (hw _ (List.mem_of_getElem? (i := 12) rfl)) (hw _ (List.mem_of_getElem? (i := 6) rfl)) (by decide) (W := 0) (by decide) rfl (argsL := [(.int (1 : Int32))]) pd_2 rfl at_60 rfl (Nat.le_of_eq rfl) (by decide) (by decide) ?_
        rintro _ T20 h21 X20 ⟨rfl, eh21⟩
        rw [eh21] at X20
        show OG p e below s n0 room_1.cells room_1.slots (Q0 Z i0 i1 rN rE rP r od bw h0) (T20.setTop (mkF m 63 #[.val (.int i0), .val (.int i1), .val (.ref r), .val (.int ed), .val (.int got), .val (.int (0 : Int32)), .unset, .unset] [(.int (FE (1 : Int32) od))]))
        refine OG.istoreV X20 at_63 (l' := fun z => #[.val (.int i0), .val (.int i1), .val (.ref r), .val (.int ed), .val (.int got), .val (.int (0 : Int32)), .val (.int z), .unset]) (fun _ => rfl) ?_
        intro ae hae
        refine OG.dconst1 X20 at_65 ?_
        refine OG.aloadN X20 at_66 rfl rfl ?_
        refine OG.callV X20 (hw _ (List.mem_of_getElem? (i := 22) rfl)) (hw _ (List.mem_of_getElem? (i := 23) rfl)) (notFace_of_selects (args := #[]) (mvT X20.warm (hw _ (List.mem_of_getElem? (i := 25) rfl)))) (hw _ (List.mem_of_getElem? (i := 25) rfl)) (hw _ (List.mem_of_getElem? (i := 24) rfl)) (by decide) E_r (rm4 l Z a0 hw [] r bw h0 n0 F_b_r) (hw _ (List.mem_of_getElem? (i := 26) rfl)) (hw _ (List.mem_of_getElem? (i := 6) rfl)) (by decide) (W := 2) (by decide) rfl (argsL := []) pd_3 rfl at_67 rfl (Nat.le_of_eq rfl) (by decide) (by decide) ?_
        rintro _ T22 h23 X22 ⟨rfl, eh23⟩
        rw [eh23] at X22
        show OG p e below s n0 room_1.cells room_1.slots (Q0 Z i0 i1 rN rE rP r od bw h0) (T22.setTop (mkF m 70 #[.val (.int i0), .val (.int i1), .val (.ref r), .val (.int ed), .val (.int got), .val (.int (0 : Int32)), .val (.int ae), .unset] [(.double bw), (.double FP.dconst1)]))
        refine OG.dcmp X22 at_70 ?_
        refine OG.if_ge_f X22 at_71 (by rw [h3]; decide +kernel) ?_
        refine OG.iconst X22 at_74 (z := (1 : Int32)) rfl ?_
        refine OG.goto X22 at_75 (pc' := 79) (by decide) ?_
        refine OG.istore X22 at_79 (l' := #[.val (.int i0), .val (.int i1), .val (.ref r), .val (.int ed), .val (.int got), .val (.int (0 : Int32)), .val (.int ae), .val (.int (1 : Int32))]) rfl ?_
        refine OG.iload X22 at_81 rfl ?_
        refine OG.iload X22 at_83 rfl ?_
        refine OG.icmp_ne_f X22 at_85 (by rw [hae, h2]; rfl) ?_
        refine OG.iconst X22 at_88 (z := (1 : Int32)) rfl ?_
        refine OG.goto X22 at_89 (pc' := 93) (by decide) ?_
        exact OG.retN X22 (t := .boolean) at_93 (by simp) (by decide) (by decide) rfl
    refine OG.if_eq X1 at_8 (pc' := 15) (by decide) ?_ ?_
    · intro c8
      refine OG.iconst X1 at_15 (z := (0 : Int32)) rfl ?_
      exact hj11 _ (by rw [if_pos c8])
    · intro c8
      refine OG.iconst X1 at_11 (z := (1 : Int32)) rfl ?_
      refine OG.goto X1 at_12 (pc' := 16) (by decide) ?_
      exact hj11 _ (by rw [if_neg c8])
  · skip
    refine OG.astoreN X1 at_4 (l' := #[.val (.int i0), .val (.int i1), .val (.ref r), .unset, .unset, .unset, .unset, .unset]) rfl rfl ?_
    refine OG.iloadN X1 at_5 rfl ?_
    refine OG.iconst X1 at_6 (z := (1 : Int32)) rfl ?_
    refine OG.iand X1 at_7 ?_
    have hj24 : ∀ ed : Int32, ed = (if (i1 &&& (1 : Int32)) = (0 : Int32) then (0 : Int32) else (1 : Int32)) → OG p e below s n0 room_1.cells room_1.slots (Q0 Z i0 i1 rN rE rP r od bw h0) (T1.setTop (mkF m 16 #[.val (.int i0), .val (.int i1), .val (.ref r), .unset, .unset, .unset, .unset, .unset] [(.int ed)])) := by
      intro ed hed
      refine OG.istoreN X1 at_16 (l' := #[.val (.int i0), .val (.int i1), .val (.ref r), .val (.int ed), .unset, .unset, .unset, .unset]) rfl ?_
      refine OG.aloadN X1 at_17 rfl rfl ?_
      refine OG.iloadN X1 at_18 rfl ?_
      refine OG.callV X1 (hw _ (List.mem_of_getElem? (i := 8) rfl)) (hw _ (List.mem_of_getElem? (i := 9) rfl)) (notFace_of_selects (args := #[]) (mvT X1.warm (hw _ (List.mem_of_getElem? (i := 11) rfl)))) (hw _ (List.mem_of_getElem? (i := 11) rfl)) (hw _ (List.mem_of_getElem? (i := 10) rfl)) (by decide) E_r (rm2 l Z a0 hw [] r ed od h0 n0 E_r F_ordinal_r hod) (hw _ (List.mem_of_getElem? (i := 12) rfl)) (hw _ (List.mem_of_getElem? (i := 6) rfl)) (by decide) (W := 0) (by decide) rfl (argsL := [(.int ed)]) pd_2 rfl at_19 rfl (Nat.le_of_eq rfl) (by decide) (by decide) ?_
      rintro _ T25 h26 X25 ⟨rfl, eh26⟩
      rw [eh26] at X25
      show OG p e below s n0 room_1.cells room_1.slots (Q0 Z i0 i1 rN rE rP r od bw h0) (T25.setTop (mkF m 22 #[.val (.int i0), .val (.int i1), .val (.ref r), .val (.int ed), .unset, .unset, .unset, .unset] [(.int (FE ed od))]))
      refine OG.istoreV X25 at_22 (l' := fun z => #[.val (.int i0), .val (.int i1), .val (.ref r), .val (.int ed), .val (.int z), .unset, .unset, .unset]) (fun _ => rfl) ?_
      intro got hgot
      refine OG.aloadN X25 at_24 rfl rfl ?_
      refine OG.getS X25 (host := "") (Or.inl (hw _ (List.mem_of_getElem? (i := 5) rfl))) Via.refl S_NONE at_25 ?_
      intro T27 X27
      refine OG.acmp_eq_f X27 at_28 (pc' := 46) (by decide) (by rw [h1]; exact hPN) ?_
      refine OG.iloadN X27 at_31 rfl ?_
      refine OG.if_ne X27 at_32 (pc' := 42) (by decide) ?_ ?_
      · intro c32
        refine OG.iconst X27 at_42 (z := (1 : Int32)) rfl ?_
        refine OG.goto X27 at_43 (pc' := 47) (by decide) ?_
        refine OG.istore X27 at_47 (l' := #[.val (.int i0), .val (.int i1), .val (.ref r), .val (.int ed), .val (.int got), .val (.int (1 : Int32)), .unset, .unset]) rfl ?_
        refine OG.iload X27 at_49 rfl ?_
        refine OG.iload X27 at_51 rfl ?_
        refine OG.icmp_eq_t X27 at_53 (pc' := 58) (by decide) (by rw [hgot, h2]; rfl) ?_
        refine OG.aloadN X27 at_58 rfl rfl ?_
        refine OG.iconst X27 at_59 (z := (1 : Int32)) rfl ?_
        refine OG.callV X27 (hw _ (List.mem_of_getElem? (i := 8) rfl)) (hw _ (List.mem_of_getElem? (i := 9) rfl)) (notFace_of_selects (args := #[]) (mvT X27.warm (hw _ (List.mem_of_getElem? (i := 11) rfl)))) (hw _ (List.mem_of_getElem? (i := 11) rfl)) (hw _ (List.mem_of_getElem? (i := 10) rfl)) (by decide) E_r (rm2 l Z a0 hw [] r (1 : Int32) od h0 n0 E_r F_ordinal_r hod) (hw _ (List.mem_of_getElem? (i := 12) rfl)) (hw _ (List.mem_of_getElem? (i := 6) rfl)) (by decide) (W := 0) (by decide) rfl (argsL := [(.int (1 : Int32))]) pd_2 rfl at_60 rfl (Nat.le_of_eq rfl) (by decide) (by decide) ?_
        rintro _ T28 h29 X28 ⟨rfl, eh29⟩
        rw [eh29] at X28
        show OG p e below s n0 room_1.cells room_1.slots (Q0 Z i0 i1 rN rE rP r od bw h0) (T28.setTop (mkF m 63 #[.val (.int i0), .val (.int i1), .val (.ref r), .val (.int ed), .val (.int got), .val (.int (1 : Int32)), .unset, .unset] [(.int (FE (1 : Int32) od))]))
        refine OG.istoreV X28 at_63 (l' := fun z => #[.val (.int i0), .val (.int i1), .val (.ref r), .val (.int ed), .val (.int got), .val (.int (1 : Int32)), .val (.int z), .unset]) (fun _ => rfl) ?_
        intro ae hae
        refine OG.dconst1 X28 at_65 ?_
        refine OG.aloadN X28 at_66 rfl rfl ?_
        refine OG.callV X28 (hw _ (List.mem_of_getElem? (i := 22) rfl)) (hw _ (List.mem_of_getElem? (i := 23) rfl)) (notFace_of_selects (args := #[]) (mvT X28.warm (hw _ (List.mem_of_getElem? (i := 25) rfl)))) (hw _ (List.mem_of_getElem? (i := 25) rfl)) (hw _ (List.mem_of_getElem? (i := 24) rfl)) (by decide) E_r (rm4 l Z a0 hw [] r bw h0 n0 F_b_r) (hw _ (List.mem_of_getElem? (i := 26) rfl)) (hw _ (List.mem_of_getElem? (i := 6) rfl)) (by decide) (W := 2) (by decide) rfl (argsL := []) pd_3 rfl at_67 rfl (Nat.le_of_eq rfl) (by decide) (by decide) ?_
        rintro _ T30 h31 X30 ⟨rfl, eh31⟩
        rw [eh31] at X30
        show OG p e below s n0 room_1.cells room_1.slots (Q0 Z i0 i1 rN rE rP r od bw h0) (T30.setTop (mkF m 70 #[.val (.int i0), .val (.int i1), .val (.ref r), .val (.int ed), .val (.int got), .val (.int (1 : Int32)), .val (.int ae), .unset] [(.double bw), (.double FP.dconst1)]))
        refine OG.dcmp X30 at_70 ?_
        refine OG.if_ge_f X30 at_71 (by rw [h3]; decide +kernel) ?_
        refine OG.iconst X30 at_74 (z := (1 : Int32)) rfl ?_
        refine OG.goto X30 at_75 (pc' := 79) (by decide) ?_
        refine OG.istore X30 at_79 (l' := #[.val (.int i0), .val (.int i1), .val (.ref r), .val (.int ed), .val (.int got), .val (.int (1 : Int32)), .val (.int ae), .val (.int (1 : Int32))]) rfl ?_
        refine OG.iload X30 at_81 rfl ?_
        refine OG.iload X30 at_83 rfl ?_
        refine OG.icmp_ne_f X30 at_85 (by rw [hae, h2]; rfl) ?_
        refine OG.iconst X30 at_88 (z := (1 : Int32)) rfl ?_
        refine OG.goto X30 at_89 (pc' := 93) (by decide) ?_
        exact OG.retN X30 (t := .boolean) at_93 (by simp) (by decide) (by decide) rfl
      · intro c32
        refine OG.aloadN X27 at_35 rfl rfl ?_
        refine OG.getS X27 (host := "") (Or.inl (hw _ (List.mem_of_getElem? (i := 29) rfl))) Via.refl S_POINT_TO_POINT at_36 ?_
        intro T32 X32
        refine OG.acmp_ne_f X32 at_39 (pc' := 46) (by decide) h1 ?_
        refine OG.iconst X32 at_42 (z := (1 : Int32)) rfl ?_
        refine OG.goto X32 at_43 (pc' := 47) (by decide) ?_
        refine OG.istore X32 at_47 (l' := #[.val (.int i0), .val (.int i1), .val (.ref r), .val (.int ed), .val (.int got), .val (.int (1 : Int32)), .unset, .unset]) rfl ?_
        refine OG.iload X32 at_49 rfl ?_
        refine OG.iload X32 at_51 rfl ?_
        refine OG.icmp_eq_t X32 at_53 (pc' := 58) (by decide) (by rw [hgot, h2]; rfl) ?_
        refine OG.aloadN X32 at_58 rfl rfl ?_
        refine OG.iconst X32 at_59 (z := (1 : Int32)) rfl ?_
        refine OG.callV X32 (hw _ (List.mem_of_getElem? (i := 8) rfl)) (hw _ (List.mem_of_getElem? (i := 9) rfl)) (notFace_of_selects (args := #[]) (mvT X32.warm (hw _ (List.mem_of_getElem? (i := 11) rfl)))) (hw _ (List.mem_of_getElem? (i := 11) rfl)) (hw _ (List.mem_of_getElem? (i := 10) rfl)) (by decide) E_r (rm2 l Z a0 hw [] r (1 : Int32) od h0 n0 E_r F_ordinal_r hod) (hw _ (List.mem_of_getElem? (i := 12) rfl)) (hw _ (List.mem_of_getElem? (i := 6) rfl)) (by decide) (W := 0) (by decide) rfl (argsL := [(.int (1 : Int32))]) pd_2 rfl at_60 rfl (Nat.le_of_eq rfl) (by decide) (by decide) ?_
        rintro _ T33 h34 X33 ⟨rfl, eh34⟩
        rw [eh34] at X33
        show OG p e below s n0 room_1.cells room_1.slots (Q0 Z i0 i1 rN rE rP r od bw h0) (T33.setTop (mkF m 63 #[.val (.int i0), .val (.int i1), .val (.ref r), .val (.int ed), .val (.int got), .val (.int (1 : Int32)), .unset, .unset] [(.int (FE (1 : Int32) od))]))
        refine OG.istoreV X33 at_63 (l' := fun z => #[.val (.int i0), .val (.int i1), .val (.ref r), .val (.int ed), .val (.int got), .val (.int (1 : Int32)), .val (.int z), .unset]) (fun _ => rfl) ?_
        intro ae hae
        refine OG.dconst1 X33 at_65 ?_
        refine OG.aloadN X33 at_66 rfl rfl ?_
        refine OG.callV X33 (hw _ (List.mem_of_getElem? (i := 22) rfl)) (hw _ (List.mem_of_getElem? (i := 23) rfl)) (notFace_of_selects (args := #[]) (mvT X33.warm (hw _ (List.mem_of_getElem? (i := 25) rfl)))) (hw _ (List.mem_of_getElem? (i := 25) rfl)) (hw _ (List.mem_of_getElem? (i := 24) rfl)) (by decide) E_r (rm4 l Z a0 hw [] r bw h0 n0 F_b_r) (hw _ (List.mem_of_getElem? (i := 26) rfl)) (hw _ (List.mem_of_getElem? (i := 6) rfl)) (by decide) (W := 2) (by decide) rfl (argsL := []) pd_3 rfl at_67 rfl (Nat.le_of_eq rfl) (by decide) (by decide) ?_
        rintro _ T35 h36 X35 ⟨rfl, eh36⟩
        rw [eh36] at X35
        show OG p e below s n0 room_1.cells room_1.slots (Q0 Z i0 i1 rN rE rP r od bw h0) (T35.setTop (mkF m 70 #[.val (.int i0), .val (.int i1), .val (.ref r), .val (.int ed), .val (.int got), .val (.int (1 : Int32)), .val (.int ae), .unset] [(.double bw), (.double FP.dconst1)]))
        refine OG.dcmp X35 at_70 ?_
        refine OG.if_ge_f X35 at_71 (by rw [h3]; decide +kernel) ?_
        refine OG.iconst X35 at_74 (z := (1 : Int32)) rfl ?_
        refine OG.goto X35 at_75 (pc' := 79) (by decide) ?_
        refine OG.istore X35 at_79 (l' := #[.val (.int i0), .val (.int i1), .val (.ref r), .val (.int ed), .val (.int got), .val (.int (1 : Int32)), .val (.int ae), .val (.int (1 : Int32))]) rfl ?_
        refine OG.iload X35 at_81 rfl ?_
        refine OG.iload X35 at_83 rfl ?_
        refine OG.icmp_ne_f X35 at_85 (by rw [hae, h2]; rfl) ?_
        refine OG.iconst X35 at_88 (z := (1 : Int32)) rfl ?_
        refine OG.goto X35 at_89 (pc' := 93) (by decide) ?_
        exact OG.retN X35 (t := .boolean) at_93 (by simp) (by decide) (by decide) rfl
    refine OG.if_eq X1 at_8 (pc' := 15) (by decide) ?_ ?_
    · intro c8
      refine OG.iconst X1 at_15 (z := (0 : Int32)) rfl ?_
      exact hj24 _ (by rw [if_pos c8])
    · intro c8
      refine OG.iconst X1 at_11 (z := (1 : Int32)) rfl ?_
      refine OG.goto X1 at_12 (pc' := 16) (by decide) ?_
      exact hj24 _ (by rw [if_neg c8])
set_option maxRecDepth 65536 in
set_option maxHeartbeats 40000000 in
theorem comes_1 {Post : Tables → Env → Array Value → State → Outcome → State → Prop} (hpost : ∀ tb e args s v u, (limb_1_1.after args s (.returned v) u = true ∧ limb_1_2.after args s (.returned v) u = true ∧ True) → FrameEnd s (.returned v) u (Jvm.fieldLocs frame_1_writes args s ++ Jvm.arrayLocs frame_1_arrays args s ++ Jvm.staticLocs frame_1_statics s) 0 0 → Post tb e args s (.returned v) u) :
    ArmFor flags0 classFile x code maxLocals ret World_1 tables_1 room_1 Calls_1 rest_1 Pre_1 Post := by
  intro l hfl _ _ p e ha hc hk s m args below hf hA hF happ hP
  obtain ⟨hcalls, hrest, hpre⟩ := hP
  obtain ⟨-, -, -, hnamed, -, -, -, hat⟩ := (Spec.applies_iff hf).mp happ
  obtain ⟨hg, hn⟩ := and_e (Cond.before_iff.mp (show (Jvm.Cond.and given_1 narrow_1).before args s = true from hpre))
  obtain ⟨g1, g2⟩ := and_e hg
  obtain ⟨g3, g4⟩ := and_e g2
  obtain ⟨w0, w1, rfl⟩ : ∃ w0 w1 : Value, args = #[w0, w1] := by
    have hs : args.size = 2 := by simpa [Cond.value, given_1] using g1
    obtain ⟨L⟩ := args
    match L, hs with
    | [w0, w1], _ => exact ⟨w0, w1, rfl⟩
  have hw := fun d (hd : d ∈ tables_1) => atoms_spec (ws := Jvm.Cond.code x code maxLocals ret :: tables_1) hat d (List.mem_cons_of_mem _ hd)
  have hfit : Fit s := fun {y c} hc i hi => by
    obtain ⟨ha, rfl⟩ := Array.getElem?_eq_some_iff.mp hc
    have q := List.all_eq_true.mp ((Array.all_eq_true_iff_forall_mem.mp hF) _ (Array.getElem_mem ha)) i (List.mem_range.mpr hi)
    simpa [Array.getElem?_eq_getElem hi] using q
  obtain ⟨i0, ei0⟩ := is_v g3
  obtain rfl : w0 = (.int i0) := Option.some.inj ei0
  obtain ⟨i1, ei1⟩ := is_v g4
  obtain rfl : w1 = (.int i1) := Option.some.inj ei1
  obtain ⟨n0, hn⟩ := and_e hn
  obtain ⟨n1, hn⟩ := and_e hn
  obtain ⟨n2, hn⟩ := and_e hn
  obtain ⟨n3, hn⟩ := and_e hn
  obtain ⟨n4, hn⟩ := and_e hn
  obtain ⟨n5, hn⟩ := and_e hn
  obtain ⟨n6, hn⟩ := and_e hn
  obtain ⟨n7, hn⟩ := and_e hn
  have n8 := hn
  obtain ⟨r_NONE, ev_NONE⟩ := exa_v n0
  have E_NONE := Exa.start ev_NONE n0
  have S_NONE := Sta.start ev_NONE (Or.inr ⟨(hw _ (List.mem_of_getElem? (i := 6) rfl)), (hw _ (List.mem_of_getElem? (i := 7) rfl))⟩)
  obtain ⟨r_POINT_TO_POINT, ev_POINT_TO_POINT⟩ := exa_v n3
  have E_POINT_TO_POINT := Exa.start ev_POINT_TO_POINT n3
  have S_POINT_TO_POINT := Sta.start ev_POINT_TO_POINT (Or.inr ⟨(hw _ (List.mem_of_getElem? (i := 6) rfl)), (hw _ (List.mem_of_getElem? (i := 30) rfl))⟩)
  obtain ⟨r_END_TO_END, ev_END_TO_END⟩ := exa_v n6
  have E_END_TO_END := Exa.start ev_END_TO_END n6
  have S_END_TO_END := Sta.start ev_END_TO_END (Or.inr ⟨(hw _ (List.mem_of_getElem? (i := 6) rfl)), (hw _ (List.mem_of_getElem? (i := 32) rfl))⟩)
  have O_NONE_ordinal := Fld.start ((fld_at ev_NONE).symm.trans (own_eqI n1))
  have O_POINT_TO_POINT_ordinal := Fld.start ((fld_at ev_POINT_TO_POINT).symm.trans (own_eqI n4))
  have O_END_TO_END_ordinal := Fld.start ((fld_at ev_END_TO_END).symm.trans (own_eqI n7))
  have B_NONE := Fld.start ((fld_at ev_NONE).symm.trans (own_eqD n2))
  have B_POINT_TO_POINT := Fld.start ((fld_at ev_POINT_TO_POINT).symm.trans (own_eqD n5))
  have B_END_TO_END := Fld.start ((fld_at ev_END_TO_END).symm.trans (own_eqD n8))
  have hEN : ¬ r_END_TO_END = r_NONE := Fld.ne O_END_TO_END_ordinal O_NONE_ordinal (by decide)
  have hPN : ¬ r_POINT_TO_POINT = r_NONE := Fld.ne O_POINT_TO_POINT_ordinal O_NONE_ordinal (by decide)
  have hEP : ¬ r_END_TO_END = r_POINT_TO_POINT := Fld.ne O_END_TO_END_ordinal O_POINT_TO_POINT_ordinal (by decide)
  obtain ⟨r, od, bw, hr, hEr, hOr, hBr, hod, hcase⟩ : ∃ (r : Addr) (od : Int32) (bw : UInt64), (if ((i0 &&& 2147483647) % 3) = 0 then r_NONE else if ((i0 &&& 2147483647) % 3) = 1 then r_END_TO_END else r_POINT_TO_POINT) = r ∧ Exa s s.heap r "com/example/wardmap/wardmap/model/Encryption" ∧ Fld s s.heap r "java/lang/Enum" "ordinal" "I" (.int od) ∧ Fld s s.heap r "com/example/wardmap/wardmap/model/Encryption" "bandwidthFactor" "D" (.double bw) ∧ (od = 0 ∨ od = 1 ∨ od = 2) ∧ ((r = r_NONE ∧ od = 0 ∧ bw = (4607182418800017408 : Int64).toUInt64) ∨ (r = r_END_TO_END ∧ od = 1 ∧ bw = (4607668807559773422 : Int64).toUInt64) ∨ (r = r_POINT_TO_POINT ∧ od = 2 ∧ bw = (4607745368753438720 : Int64).toUInt64)) := by
    rcases own_k i0 with q | q | q
    · exact ⟨r_NONE, 0, _, by rw [if_pos q], E_NONE, O_NONE_ordinal, B_NONE, Or.inl rfl, Or.inl ⟨rfl, rfl, rfl⟩⟩
    · exact ⟨r_END_TO_END, 1, _, by rw [if_neg (by rw [q]; decide), if_pos q], E_END_TO_END, O_END_TO_END_ordinal, B_END_TO_END, Or.inr (Or.inl rfl), Or.inr (Or.inl ⟨rfl, rfl, rfl⟩)⟩
    · exact ⟨r_POINT_TO_POINT, 2, _, by rw [if_neg (by rw [q]; decide), if_neg (by rw [q]; decide)], E_POINT_TO_POINT, O_POINT_TO_POINT_ordinal, B_POINT_TO_POINT, Or.inr (Or.inr rfl), Or.inr (Or.inr ⟨rfl, rfl, rfl⟩)⟩
  obtain ⟨n, o, h1, h2, h3, _, L, rfl, ⟨rfl, N⟩, hq⟩ := rm0 l s _ hw tables_1 i0 i1 r_NONE r_END_TO_END r_POINT_TO_POINT r od bw s.heap s.heap.size (Nat.le_refl _) S_NONE S_END_TO_END S_POINT_TO_POINT hr hEr hOr hBr hod hcase hEN hPN hEP p e ha hc hk s m _ below hf ((Spec.applies_iff_loose hf).mp happ).1 ⟨rfl, State.Warmed39.refl s, rfl⟩ trivial
  refine ⟨n, _, h1, h2, h3, hpost _ _ _ _ _ _ ⟨Cond.after_iff.mpr rfl, Cond.after_iff.mpr (eq_i res_at (Term.int_eval (1)) rfl), trivial⟩ ⟨hq.1, hq.2.1, (hq.2.2.sift fun y hy => Or.inr (N y hy)).mono (by decide) (by decide)⟩⟩
theorem main_1_1 : Claimed_1_1 := comes_1 fun _ _ _ _ _ _ h hF => ⟨h.1, hF⟩
theorem main_1_2 : Claimed_1_2 := comes_1 fun _ _ _ _ _ _ h hF => ⟨h.2.1, hF⟩
end Jvm.Pilot.@@N@@
namespace Jvm.Pilot.@@N@@
open Jvm Jvm.ClassFile Sem Op Lib Jvm.Free Jvm.Stand Jvm.Pilot.@@N@@.Jvm.D
/-! MADE BY PROGRAM (witnessworld.py) out of the Statement's table words and the real class files: 12 classes; the members and pool entries that the words name. The judged class is class 1, her method 2. -/
namespace start1
open Jvm.ClassFile
def u (s : String) : CpInfo := .utf8 (stringToUtf16 s)
/-- a pool by its gaps: so many unusable entries, then the entry; so many at the end -/
def gap : Nat → List CpInfo → List CpInfo
  | 0, r => r
  | n + 1, r => .unusable :: gap n r
def poolList (es : List (Nat × CpInfo)) (last : Nat) : List CpInfo := es.foldr (fun e r => gap e.1 (e.2 :: r)) (gap last [])
def pool (es : List (Nat × CpInfo)) (last : Nat) : Array CpInfo := ⟨poolList es last⟩
def fileOf (pool : Array CpInfo) (this : Nat) (attrs : Array Attribute := #[]) (ms : Array MethodInfo := #[]) (fl : Nat := 33) (sup : Nat := 0) (ifs : Array Nat := #[]) (fds : Array FieldInfo := #[]) : ClassFile where
  minorVersion := 0
  majorVersion := 65
  constantPool := pool
  accessFlags := fl
  thisClass := this
  superClass := sup
  interfaces := ifs
  fields := fds
  methods := ms
  attributes := attrs
def plain (name : String) (sup : Option ClassId) : Class where
  name := name
  kind := .ordinary
  loader := none
  accessFlags := 33
  super := sup
  interfaces := #[]
  cf := none
  fields := #[]
  methods := #[]
  instanceTypes := #[]
  staticTypes := #[]
  resolved := #[]
  callSites := []
  init := .initialized
  statics := none
  mirror := none

def pool0 : Array CpInfo := pool [(5, u "<init>"), (0, u "()V"), (1, .class_ 10), (1, u "java/lang/Object")] 113

def k0m0 : Method := { name := "<init>", desc := "()V", sig := { parameters := [], returnType := none }, accessFlags := 1, code := none }
/-- java/lang/Object -/
def k0 : Class := { plain "java/lang/Object" none with
  accessFlags := 33
  interfaces := #[]
  cf := some (fileOf pool0 8 #[] #[{ accessFlags := 1, nameIndex := 5, descriptorIndex := 6, attributes := #[] }] 33 0 #[] #[])
  fields := #[]
  methods := #[k0m0]
  instanceTypes := #[]
  staticTypes := #[]
  resolved := Array.replicate 124 none
  statics := none }

def pool1 : Array CpInfo := pool [(2, .class_ 4), (1, u "java/lang/Object"), (0, u "<init>"), (0, u "()V"), (0, .integer 2147483647), (0, .fieldref 9 10), (0, .class_ 11), (0, .nameAndType 12 13), (0, u "com/example/wardmap/wardmap/model/Encryption"), (0, u "NONE"), (0, u "Lcom/example/wardmap/wardmap/model/Encryption;"), (0, .fieldref 9 15), (0, .nameAndType 16 13), (0, u "END_TO_END"), (0, .fieldref 9 18), (0, .nameAndType 19 13), (0, u "POINT_TO_POINT"), (0, .methodref 21 22), (0, .class_ 23), (0, .nameAndType 24 25), (0, u "com/example/wardmap/wardmap/model/EncryptionEncryptsAtPinLaw"), (0, u "pick"), (0, u "(I)Lcom/example/wardmap/wardmap/model/Encryption;"), (0, .methodref 9 27), (0, .nameAndType 28 29), (0, u "encryptsAt"), (0, u "(Z)Z"), (0, .methodref 9 31), (0, .nameAndType 32 33), (0, u "bandwidthFactor"), (0, u "()D"), (3, u "law"), (0, u "(II)Z")] 2

def k1m0 : Method := { name := "<init>", desc := "()V", sig := { parameters := [], returnType := none }, accessFlags := 2, code := none }
def k1c1 : Code := { maxStack := 2, maxLocals := 2, code := method_2_code, exceptionTable := #[], attributes := #[] }
def k1m1 : Method := { name := "pick", desc := "(I)Lcom/example/wardmap/wardmap/model/Encryption;", sig := { parameters := [.int], returnType := some (.object "com/example/wardmap/wardmap/model/Encryption") }, accessFlags := 10, code := some k1c1 }
def k1c2 : Code := { maxStack := 4, maxLocals := 8, code := code, exceptionTable := #[], attributes := #[] }
def k1m2 : Method := { name := "law", desc := "(II)Z", sig := { parameters := [.int, .int], returnType := some .boolean }, accessFlags := 9, code := some k1c2 }
/-- com/example/wardmap/wardmap/model/EncryptionEncryptsAtPinLaw -/
def k1 : Class := { plain "com/example/wardmap/wardmap/model/EncryptionEncryptsAtPinLaw" (some 0) with
  accessFlags := 49
  interfaces := #[]
  cf := some (fileOf pool1 21 #[] #[{ accessFlags := 2, nameIndex := 5, descriptorIndex := 6, attributes := #[] }, { accessFlags := 10, nameIndex := 24, descriptorIndex := 25, attributes := #[] }, { accessFlags := 9, nameIndex := 37, descriptorIndex := 38, attributes := #[] }] 49 2 #[] #[])
  fields := #[]
  methods := #[k1m0, k1m1, k1m2]
  instanceTypes := #[]
  staticTypes := #[]
  resolved := Array.replicate 41 none
  statics := none }

def pool2 : Array CpInfo := pool [(1, .class_ 2), (0, u "java/lang/constant/Constable"), (0, .class_ 4), (0, u "java/lang/Object")] 6

/-- java/lang/constant/Constable -/
def k2 : Class := { plain "java/lang/constant/Constable" (some 0) with
  accessFlags := 1537
  interfaces := #[]
  cf := some (fileOf pool2 1 #[] #[] 1537 3 #[] #[])
  fields := #[]
  methods := #[]
  instanceTypes := #[]
  staticTypes := #[]
  resolved := Array.replicate 11 none
  statics := none }

def pool3 : Array CpInfo := pool [(1, .class_ 2), (0, u "java/lang/Comparable"), (0, .class_ 4), (0, u "java/lang/Object")] 7

/-- java/lang/Comparable -/
def k3 : Class := { plain "java/lang/Comparable" (some 0) with
  accessFlags := 1537
  interfaces := #[]
  cf := some (fileOf pool3 1 #[] #[] 1537 3 #[] #[])
  fields := #[]
  methods := #[]
  instanceTypes := #[]
  staticTypes := #[]
  resolved := Array.replicate 12 none
  statics := none }

def pool4 : Array CpInfo := pool [(1, .class_ 2), (0, u "java/io/Serializable"), (0, .class_ 4), (0, u "java/lang/Object")] 2

/-- java/io/Serializable -/
def k4 : Class := { plain "java/io/Serializable" (some 0) with
  accessFlags := 1537
  interfaces := #[]
  cf := some (fileOf pool4 1 #[] #[] 1537 3 #[] #[])
  fields := #[]
  methods := #[]
  instanceTypes := #[]
  staticTypes := #[]
  resolved := Array.replicate 7 none
  statics := none }

def pool5 : Array CpInfo := pool [(2, .class_ 4), (1, u "java/lang/Enum"), (0, u "name"), (0, u "Ljava/lang/String;"), (0, .fieldref 2 8), (0, .nameAndType 9 10), (0, u "ordinal"), (0, u "I"), (1, .class_ 14), (1, u "java/lang/Object"), (4, u "hash"), (86, .class_ 108), (1, u "java/lang/Enum$EnumDesc"), (2, .class_ 112), (0, u "java/lang/constant/Constable"), (0, .class_ 114), (0, u "java/lang/Comparable"), (0, .class_ 116), (0, u "java/io/Serializable"), (9, u "()I")] 77

def k5c0 : Code := { maxStack := 1, maxLocals := 1, code := jdk_37_method_2_code, exceptionTable := #[], attributes := #[] }
def k5m0 : Method := { name := "ordinal", desc := "()I", sig := { parameters := [], returnType := some .int }, accessFlags := 17, code := some k5c0 }
/-- java/lang/Enum -/
def k5 : Class := { plain "java/lang/Enum" (some 0) with
  accessFlags := 1057
  interfaces := #[2, 3, 4]
  cf := some (fileOf pool5 2 #[.nestMembers #[106]] #[{ accessFlags := 17, nameIndex := 9, descriptorIndex := 126, attributes := #[] }] 1057 12 #[111, 113, 115] #[{ accessFlags := 18, nameIndex := 5, descriptorIndex := 6, attributes := #[] }, { accessFlags := 18, nameIndex := 9, descriptorIndex := 10, attributes := #[] }, { accessFlags := 2, nameIndex := 19, descriptorIndex := 10, attributes := #[] }])
  fields := #[{ name := "name", type := (.object "java/lang/String"), accessFlags := 18, slot := 0, constantValue := 0 }, { name := "ordinal", type := .int, accessFlags := 18, slot := 1, constantValue := 0 }, { name := "hash", type := .int, accessFlags := 2, slot := 2, constantValue := 0 }]
  methods := #[k5m0]
  instanceTypes := #[(.object "java/lang/String"), .int, .int]
  staticTypes := #[]
  resolved := Array.replicate 204 none
  statics := none }

def pool6 : Array CpInfo := pool [(1, .class_ 2), (0, u "com/example/wardmap/wardmap/model/Encryption"), (2, u "NONE"), (0, u "Lcom/example/wardmap/wardmap/model/Encryption;"), (2, u "END_TO_END"), (2, u "POINT_TO_POINT"), (2, u "$VALUES"), (0, u "[Lcom/example/wardmap/wardmap/model/Encryption;"), (6, .class_ 25), (1, u "java/lang/Enum"), (8, u "label"), (0, u "Ljava/lang/String;"), (0, .fieldref 1 37), (0, .nameAndType 38 39), (0, u "bandwidthFactor"), (0, u "D"), (24, .methodref 1 65), (0, .nameAndType 66 67), (0, u "ordinal"), (0, u "()I"), (40, u "()D"), (0, u "encryptsAt"), (0, u "(Z)Z")] 28

def k6c0 : Code := { maxStack := 2, maxLocals := 1, code := prog_29_method_6_code, exceptionTable := #[], attributes := #[] }
def k6m0 : Method := { name := "bandwidthFactor", desc := "()D", sig := { parameters := [], returnType := some .double }, accessFlags := 1, code := some k6c0 }
def k6c1 : Code := { maxStack := 4, maxLocals := 2, code := prog_29_method_7_code, exceptionTable := #[], attributes := #[] }
def k6m1 : Method := { name := "encryptsAt", desc := "(Z)Z", sig := { parameters := [.boolean], returnType := some .boolean }, accessFlags := 1, code := some k6c1 }
/-- com/example/wardmap/wardmap/model/Encryption -/
def k6 : Class := { plain "com/example/wardmap/wardmap/model/Encryption" (some 5) with
  accessFlags := 16433
  interfaces := #[]
  cf := some (fileOf pool6 1 #[] #[{ accessFlags := 1, nameIndex := 38, descriptorIndex := 108, attributes := #[] }, { accessFlags := 1, nameIndex := 109, descriptorIndex := 110, attributes := #[] }] 16433 23 #[] #[{ accessFlags := 16409, nameIndex := 5, descriptorIndex := 6, attributes := #[] }, { accessFlags := 16409, nameIndex := 9, descriptorIndex := 6, attributes := #[] }, { accessFlags := 16409, nameIndex := 12, descriptorIndex := 6, attributes := #[] }, { accessFlags := 18, nameIndex := 34, descriptorIndex := 35, attributes := #[] }, { accessFlags := 18, nameIndex := 38, descriptorIndex := 39, attributes := #[] }, { accessFlags := 4122, nameIndex := 15, descriptorIndex := 16, attributes := #[] }])
  fields := #[{ name := "NONE", type := (.object "com/example/wardmap/wardmap/model/Encryption"), accessFlags := 16409, slot := 0, constantValue := 0 }, { name := "END_TO_END", type := (.object "com/example/wardmap/wardmap/model/Encryption"), accessFlags := 16409, slot := 1, constantValue := 0 }, { name := "POINT_TO_POINT", type := (.object "com/example/wardmap/wardmap/model/Encryption"), accessFlags := 16409, slot := 2, constantValue := 0 }, { name := "label", type := (.object "java/lang/String"), accessFlags := 18, slot := 3, constantValue := 0 }, { name := "bandwidthFactor", type := .double, accessFlags := 18, slot := 4, constantValue := 0 }, { name := "$VALUES", type := (.array (.object "com/example/wardmap/wardmap/model/Encryption")), accessFlags := 4122, slot := 3, constantValue := 0 }]
  methods := #[k6m0, k6m1]
  instanceTypes := #[(.object "java/lang/String"), .int, .int, (.object "java/lang/String"), .double]
  staticTypes := #[(.object "com/example/wardmap/wardmap/model/Encryption"), (.object "com/example/wardmap/wardmap/model/Encryption"), (.object "com/example/wardmap/wardmap/model/Encryption"), (.array (.object "com/example/wardmap/wardmap/model/Encryption"))]
  resolved := Array.replicate 139 none
  statics := some 0 }

def pool7 : Array CpInfo := pool [(1, u "java/lang/Cloneable"), (0, .class_ 1), (0, u "java/lang/Object"), (0, .class_ 3)] 3

/-- java/lang/Cloneable -/
def k7 : Class := { plain "java/lang/Cloneable" (some 0) with
  accessFlags := 1537
  interfaces := #[]
  cf := some (fileOf pool7 2 #[] #[] 1537 4 #[] #[])
  fields := #[]
  methods := #[]
  instanceTypes := #[]
  staticTypes := #[]
  resolved := Array.replicate 8 none
  statics := none }

/-- the primitive byte -/
def k8 : Class := { plain "byte" none with kind := .primitive 'B', accessFlags := 0x411 }
/-- [B -/
def k9 : Class := { plain "[B" (some 0) with kind := .array 8 .byte, interfaces := #[7, 4], accessFlags := 1041 }

/-- the primitive int -/
def k10 : Class := { plain "int" none with kind := .primitive 'I', accessFlags := 0x411 }
/-- [I -/
def k11 : Class := { plain "[I" (some 0) with kind := .array 10 .int, interfaces := #[7, 4], accessFlags := 1041 }

def heap : Heap := #[{ cls := 6, slots := #[.ref 1, .ref 2, .ref 3, .null], vm := .statics 6 },
  { cls := 6, slots := #[.null, .int 0, .int 0, .null, .double 4607182418800017408], vm := .none },
  { cls := 6, slots := #[.null, .int 1, .int 0, .null, .double 4607668807559773422], vm := .none },
  { cls := 6, slots := #[.null, .int 2, .int 0, .null, .double 4607745368753438720], vm := .none }]
def classes : Array Class := #[k0, k1, k2, k3, k4, k5, k6, k7, k8, k9, k10, k11]
def interned : List (Array UInt16 × Addr) := []
def slotsUsed : Nat := 19
def theMethod : MethodId := ⟨1, 2⟩
def args0 : Array Value := #[.int 5, .int 7]
def aboutOver (below : List Frame) : State where
  vm := { classes := classes, interned := interned.toArray }
  heap := heap
  slotsUsed := slotsUsed
  threads := #[{ frames := .invoking theMethod args0 :: below }]
def below0 : List Frame := [.native { method := ⟨0, 0⟩, args := #[] }]
def about1 : State := aboutOver below0
def p0 : Program := .bare "" "" ""
def e0 : Env := launch0.env 0 0 0
theorem w_frames : about1.frames = Frame.invoking theMethod args0 :: below0 := rfl
set_option maxRecDepth 65536 in
theorem w_args : argsFit about1.vm theMethod args0 = true := by decide +kernel
set_option maxRecDepth 65536 in
theorem w_heap : heapFits about1 = true := by decide +kernel
set_option maxRecDepth 65536 in
theorem w_runnable : about1.curStatus? = some .runnable := by decide +kernel
set_option maxRecDepth 65536 in
theorem w_alone : about1.alone = true := by decide +kernel
set_option maxRecDepth 65536 in
theorem w_named : about1.methodNamed? x = some theMethod := by decide +kernel
set_option maxRecDepth 65536 in
theorem w_hears : about1.hears theMethod below0 = true := by decide +kernel
set_option maxRecDepth 65536 in
theorem w_ripe : about1.ripe theMethod args0 below0 = true := by decide +kernel
theorem w_running : about1.status = .running := rfl
set_option maxRecDepth 65536 in
theorem w_room : about1.hasRoom e0.platform room_1 = true :=
  launch0.hasRoom_least _ room_1 (by decide +kernel) (by decide +kernel) (by decide +kernel) (by decide +kernel) (by decide +kernel) (by decide +kernel)
theorem allAtoms_all (ts : List Jvm.Cond) (a : Array Jvm.Value) (st : Jvm.State) : (allAtoms ts).before a st = ts.all (fun c => c.before a st) := by
  induction ts with
  | nil => rfl
  | cons c t ih =>
    show (Jvm.Cond.and c (allAtoms t)).before a st = _
    rw [Jvm.Cond.before_and, ih, List.all_cons]
def words1 : List Jvm.Cond := Jvm.Cond.code x code maxLocals ret :: tables_1
/-- a 'code' word, met by the world's own term for the bytes: nothing is compared byte by byte -/
theorem code_word {y : MethodName} {bytes : ByteArray} {mx : Nat} {rt : Option FieldType} {a : Array Value} {s : State} {m : MethodId} {meth : Method} {c : Code} (h1 : s.methodNamed? y = some m) (h2 : s.vm.method? m = some meth) (h3 : meth.code = some c) (h4 : c.code = bytes)
    (h5 : (c.maxLocals == mx && c.exceptionTable.isEmpty && decide (c.maxStack ≤ mostOperands) && decide (meth.sig.returnType = rt) && !meth.locks && decide (parseMethodDescriptor y.desc = some meth.sig)) = true) : (Jvm.Cond.code y bytes mx rt).before a s = true := by
  simp only [Bool.and_eq_true, beq_iff_eq, Bool.not_eq_true', decide_eq_true_eq] at h5
  obtain ⟨⟨⟨⟨⟨g1, g2⟩, g3⟩, g4⟩, g5⟩, g6⟩ := h5
  simp [Cond.before, Cond.holds, Cond.value, h1, h2, h3, h4, g1, g2, g3, g4, g5, g6]
def isCode : Jvm.Cond → Bool
  | .code _ _ _ _ => true
  | _ => false
theorem all_split {L : List Jvm.Cond} {P : Jvm.Cond → Bool} (h1 : L.all (fun c => isCode c || P c) = true) (h2 : ∀ c ∈ L.filter isCode, P c = true) : L.all P = true := by
  refine List.all_eq_true.mpr fun c hc => ?_
  have h := List.all_eq_true.mp h1 c hc
  rcases Bool.eq_false_or_eq_true (isCode c) with hi | hi
  · exact h2 c (List.mem_filter.mpr ⟨hc, hi⟩)
  · simpa [hi] using h
set_option maxRecDepth 65536 in
theorem w_c0 : (Jvm.Cond.code x code maxLocals ret).before args0 about1 = true := code_word (m := ⟨1, 2⟩) (meth := k1m2) (c := k1c2) (by decide +kernel) rfl rfl rfl (by decide +kernel)
set_option maxRecDepth 65536 in
theorem w_c1 : (Jvm.Cond.code ({ cls := "com/example/wardmap/wardmap/model/EncryptionEncryptsAtPinLaw", name := "pick", desc := "(I)Lcom/example/wardmap/wardmap/model/Encryption;" } : Jvm.MethodName) method_2_code (2 : Nat) (Option.some (Jvm.ClassFile.FieldType.object "com/example/wardmap/wardmap/model/Encryption"))).before args0 about1 = true := code_word (m := ⟨1, 1⟩) (meth := k1m1) (c := k1c1) (by decide +kernel) rfl rfl rfl (by decide +kernel)
set_option maxRecDepth 65536 in
theorem w_c2 : (Jvm.Cond.code ({ cls := "com/example/wardmap/wardmap/model/Encryption", name := "encryptsAt", desc := "(Z)Z" } : Jvm.MethodName) prog_29_method_7_code (2 : Nat) (Option.some Jvm.ClassFile.FieldType.boolean)).before args0 about1 = true := code_word (m := ⟨6, 1⟩) (meth := k6m1) (c := k6c1) (by decide +kernel) rfl rfl rfl (by decide +kernel)
set_option maxRecDepth 65536 in
theorem w_c3 : (Jvm.Cond.code ({ cls := "java/lang/Enum", name := "ordinal", desc := "()I" } : Jvm.MethodName) jdk_37_method_2_code (1 : Nat) (Option.some Jvm.ClassFile.FieldType.int)).before args0 about1 = true := code_word (m := ⟨5, 0⟩) (meth := k5m0) (c := k5c0) (by decide +kernel) rfl rfl rfl (by decide +kernel)
set_option maxRecDepth 65536 in
theorem w_c4 : (Jvm.Cond.code ({ cls := "com/example/wardmap/wardmap/model/Encryption", name := "bandwidthFactor", desc := "()D" } : Jvm.MethodName) prog_29_method_6_code (1 : Nat) (Option.some Jvm.ClassFile.FieldType.double)).before args0 about1 = true := code_word (m := ⟨6, 0⟩) (meth := k6m0) (c := k6c0) (by decide +kernel) rfl rfl rfl (by decide +kernel)
def codes1 : List Jvm.Cond := [Jvm.Cond.code x code maxLocals ret, Jvm.Cond.code ({ cls := "com/example/wardmap/wardmap/model/EncryptionEncryptsAtPinLaw", name := "pick", desc := "(I)Lcom/example/wardmap/wardmap/model/Encryption;" } : Jvm.MethodName) method_2_code (2 : Nat) (Option.some (Jvm.ClassFile.FieldType.object "com/example/wardmap/wardmap/model/Encryption")), Jvm.Cond.code ({ cls := "com/example/wardmap/wardmap/model/Encryption", name := "encryptsAt", desc := "(Z)Z" } : Jvm.MethodName) prog_29_method_7_code (2 : Nat) (Option.some Jvm.ClassFile.FieldType.boolean), Jvm.Cond.code ({ cls := "java/lang/Enum", name := "ordinal", desc := "()I" } : Jvm.MethodName) jdk_37_method_2_code (1 : Nat) (Option.some Jvm.ClassFile.FieldType.int), Jvm.Cond.code ({ cls := "com/example/wardmap/wardmap/model/Encryption", name := "bandwidthFactor", desc := "()D" } : Jvm.MethodName) prog_29_method_6_code (1 : Nat) (Option.some Jvm.ClassFile.FieldType.double)]
set_option maxRecDepth 65536 in
theorem codes_eq : words1.filter isCode = codes1 := rfl
theorem w_codes : ∀ c ∈ words1.filter isCode, c.before args0 about1 = true := by
  rw [codes_eq]
  intro c hc
  simp only [codes1, List.mem_cons, List.not_mem_nil, or_false] at hc
  rcases hc with rfl | rfl | rfl | rfl | rfl
  · exact w_c0
  · exact w_c1
  · exact w_c2
  · exact w_c3
  · exact w_c4
set_option maxRecDepth 65536 in
theorem w_t1 : (words1.take 24).all (fun c => isCode c || c.before args0 about1) = true := by decide +kernel
set_option maxRecDepth 65536 in
theorem w_t2 : (words1.drop 24).all (fun c => isCode c || c.before args0 about1) = true := by decide +kernel
theorem w_tables : (allAtoms (Jvm.Cond.code x code maxLocals ret :: tables_1)).before args0 about1 = true := by
  rw [allAtoms_all]
  show words1.all (fun c => c.before args0 about1) = true
  refine all_split ?_ w_codes
  rw [← List.take_append_drop 24 words1, List.all_append, w_t1, w_t2]
  rfl
set_option maxRecDepth 65536 in
theorem w_case : (Jvm.Cond.and given_1 narrow_1).before args0 about1 = true := by decide +kernel
theorem w_applies : (headSpec (Jvm.Cond.code x code maxLocals ret :: tables_1) room_1).applies x e0.platform about1 = true :=
  (Spec.applies_iff w_frames).mpr ⟨w_running, w_runnable, w_alone, w_named, w_hears, w_ripe, w_room, w_tables⟩
theorem atStart : AtStart classFile x code maxLocals ret World_1 tables_1 room_1 Calls_1 rest_1 Pre_1 launch0 p0 e0 about1 theMethod args0 below0 :=
  ⟨lists_1, trivial, launch0.admits_env _ _ _, launch0.least_env, fairChoices_fair.cas, fairChoices_fair.clock, w_frames, w_args, w_heap, w_applies, trivial, trivial, w_case⟩
end start1
theorem witness_1 : WitnessClaimed_1 := ⟨start1.p0, start1.e0, start1.about1, start1.theMethod, start1.args0, start1.below0, start1.atStart⟩
end Jvm.Pilot.@@N@@
