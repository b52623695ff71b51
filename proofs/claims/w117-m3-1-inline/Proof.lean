import JvmDerived
import JvmDerived.Pilot.@@N@@Statement
import JvmDerived.Pilot.@@N@@Code
set_option linter.unusedVariables false
set_option linter.unusedSimpArgs false
namespace Jvm.RoadKit
open Sem ClassFile Op Lib Jvm.Stand Jvm.Free Jvm.LawKit
section New
variable {p : Program} {l : Launch} {e : Env} {R : Room} {s : State} {m : MethodId} {args : Array Value} {below : List Frame} {meth : Method} {c : Code} {T : State} {locs : List Loc} {cells slots : Nat}
theorem retI (X : Stand p l e R s m args below meth c T locs cells slots) (hx : p.tables.exec = Jvm.exec) {pc : Nat} {Ls : Array Slot} {z : Int32} {rest : List Value} (hret : meth.sig.returnType = some .int) (hd : decode c.code pc = .ok (.ireturn, 1)) {fs : List Frame}
    (hl : ∀ (f : JFrame) (acts : List Action), f.method = m → f.locked = none → f.entered = [] → (doReturn e (T.setTop f) acts (some (.int z))).1 = T.setFrames fs) : Steps p.tables e below (T.setTop (mkF m pc Ls (.int z :: rest))) (T.setFrames fs) := by
  have hm' : T.vm.method? m = some meth := X.method'
  have hn : narrow .int (.int z) = .int z := rfl
  show Steps p.tables e below (T.setTop { method := m, pc := pc, locals := Ls, stack := _ :: rest, locked := none }) _
  jvm_step X.here [X.here.top, hx, hd, hm', hret, hn]
  first | (intro acts; rw [hl _ acts rfl rfl rfl]) | rw [hl _ _ rfl rfl rfl]
  exact Steps.refl _
end New
section OwnKit
/-- where the walk of a body stands: the body's own facts, the heap, and that nothing old was written -/
def OS (B : ByteArray) (mL : Nat) (own nm : String) (rt : Option FieldType) (Z : State) (n0 : Nat) (p : Program) (l : Launch) (e : Env) (R : Room) (s : State) (m : MethodId) (args : Array Value) (below : List Frame) (meth : Method) (c : Code) (T : State) (h : Heap) (cells slots : Nat) : Prop :=
  (p.tables.exec = Jvm.exec ∧ c.code = B ∧ c.maxLocals = mL ∧ s.vm.findClass own = some m.cls ∧ meth.name = nm ∧ meth.sig.returnType = rt ∧ meth.locks = false ∧ Z.Warmed39 s.vm) ∧ T.heap = h ∧ ∃ locs, Fr n0 locs ∧ Stand p l e R s m args below meth c T locs cells slots
/-- from here the body comes to its end, with what Q says -/
def OG (p : Program) (e : Env) (below : List Frame) (s : State) (n0 rc rs : Nat) (Q : Option Value → Heap → Prop) (A : State) : Prop :=
  ∃ s₂ o, Steps p.tables e below A s₂ ∧ s₂.status = .running ∧ Ended s₂ below o ∧ ∃ v L, o = .returned v ∧ (Q v s₂.heap ∧ Fr n0 L) ∧ FrameEnd s o s₂ L rc rs
/-- a body's contract -/
def OM (l : Launch) (y : MethodName) (B : ByteArray) (mL : Nat) (rt : Option FieldType) (rm : Room) (ws : List Cond) (Z : State) (as' : Array Value) (h0 : Heap) (n0 : Nat) (Q : Option Value → Heap → Prop) : Prop :=
  MetFree l y (head1 (Cond.code y B mL rt :: ws) rm) (fun a U => a = as' ∧ Z.Warmed39 U.vm ∧ U.heap = h0) (fun _ _ _ _ _ => True) (fun _ U o U' => ∃ v L, o = .returned v ∧ (Q v U'.heap ∧ Fr n0 L) ∧ FrameEnd U o U' L rm.cells rm.slots)
variable {p : Program} {l : Launch} {e : Env} {R : Room} {s : State} {m : MethodId} {args : Array Value} {below : List Frame} {meth : Method} {c : Code} {T : State} {cells slots : Nat} {Z : State} {h : Heap} {n0 : Nat} {B : ByteArray} {mL : Nat} {own nm : String} {rt : Option FieldType} {rc rs : Nat} {Q : Option Value → Heap → Prop} {pc : Nat} {Ls : Array Slot} {st : List Value} {a0 : Array Value}
theorem OG.pre {A A' : State} (h : ∀ t, Steps p.tables e below A' t → Steps p.tables e below A t) (k : OG p e below s n0 rc rs Q A') : OG p e below s n0 rc rs Q A := by
  obtain ⟨s₂, o, h1, r⟩ := k; exact ⟨s₂, o, h _ h1, r⟩
theorem OM.of {y : MethodName} {rm : Room} {ws : List Cond} {as' : Array Value} {h0 : Heap} (hp : plainFor y = true) (hef : ∀ m, entryFrame m as' mL = mkF m 0 Ls []) (body : ∀ p e s m below meth c T, OS B mL y.cls y.name rt Z n0 p l e rm s m as' below meth c T h0 0 0 → OG p e below s n0 rm.cells rm.slots Q (T.setTop (mkF m 0 Ls []))) : OM l y B mL rt rm ws Z as' h0 n0 Q := by
  refine MetFree.of_bodySF hp hisR ?_
  intro p e s m args below meth c s₁ Bd hml0 hP hK
  obtain ⟨rfl, hZ, hh⟩ := hP
  have X0 : Stand p l e rm s m args below meth c s₁ [] 0 0 := Stand.of_body Bd
  have e0 : s₁.heap = h0 := by rw [← hh, Bd.state]; rfl
  have q := body p e s m below meth c s₁ ⟨⟨Bd.exec, Bd.bytes, hml0, findClass_of_methodNamed Bd.named, (name_of_methodNamed Bd.named Bd.method).1, Bd.returns, BodyLoose.notSynchronized Bd, hZ⟩, e0, [], Fr.nil n0, X0⟩
  rw [hef]; exact q
theorem OM.weak {y : MethodName} {rm : Room} {ws : List Cond} {as' : Array Value} {h0 : Heap} {Q' : Option Value → Heap → Prop} (hM : OM l y B mL rt rm ws Z as' h0 n0 Q) (hq : ∀ v h, Q v h → Q' v h) : OM l y B mL rt rm ws Z as' h0 n0 Q' := by
  intro p e ha hc hk s m args below hf happ hP hK
  obtain ⟨n, o, h1, h2, h3, v, L, h4, h5, h6⟩ := hM p e ha hc hk s m args below hf happ hP hK
  exact ⟨n, o, h1, h2, h3, v, L, h4, ⟨hq _ _ h5.1, h5.2⟩, h6⟩
theorem OS.heap (X : OS B mL own nm rt Z n0 p l e R s m args below meth c T h cells slots) : T.heap = h := X.2.1
theorem OS.warm (X : OS B mL own nm rt Z n0 p l e R s m args below meth c T h cells slots) : Z.Warmed39 s.vm := X.1.2.2.2.2.2.2.2
theorem OS.more {k n : Nat} (X : OS B mL own nm rt Z n0 p l e R s m args below meth c T h cells slots) (h1 : cells ≤ k) (h2 : slots ≤ n) : OS B mL own nm rt Z n0 p l e R s m args below meth c T h k n := by
  obtain ⟨h0, e1, locs, N, Y⟩ := X
  exact ⟨h0, e1, locs, N, { Y with same := Y.same.mono h1 h2 }⟩

theorem OG.iload (X : OS B mL own nm rt Z n0 p l e R s m args below meth c T h cells slots) {k : Nat} {v : Int32} (hd : decode B pc = .ok (.iload k, 2)) (hl : Ls[k]? = some (.val (.int v))) (g : OG p e below s n0 rc rs Q (T.setTop (mkF m (pc + 2) Ls (.int v :: st)))) : OG p e below s n0 rc rs Q (T.setTop (mkF m pc Ls st)) := by
  obtain ⟨⟨hx, hby, -⟩, -, locs, -, Y⟩ := X
  exact OG.pre (fun _ k => XS.iload Y.here hx rfl (hb hby hd) hl k) g
theorem OG.iloadN (X : OS B mL own nm rt Z n0 p l e R s m args below meth c T h cells slots) {k : Fin 4} {v : Int32} (hd : decode B pc = .ok (.iload_n k, 1)) (hl : Ls[k.val]? = some (.val (.int v))) (g : OG p e below s n0 rc rs Q (T.setTop (mkF m (pc + 1) Ls (.int v :: st)))) : OG p e below s n0 rc rs Q (T.setTop (mkF m pc Ls st)) := by
  obtain ⟨⟨hx, hby, -⟩, -, locs, -, Y⟩ := X
  exact OG.pre (fun _ k => XS.iloadN Y.here hx rfl (hb hby hd) hl k) g
theorem OG.lload (X : OS B mL own nm rt Z n0 p l e R s m args below meth c T h cells slots) {k : Nat} {v : Int64} (hd : decode B pc = .ok (.lload k, 2)) (hl : Ls[k]? = some (.val (.long v))) (g : OG p e below s n0 rc rs Q (T.setTop (mkF m (pc + 2) Ls (.long v :: st)))) : OG p e below s n0 rc rs Q (T.setTop (mkF m pc Ls st)) := by
  obtain ⟨⟨hx, hby, -⟩, -, locs, -, Y⟩ := X
  exact OG.pre (fun _ k => XS.lload Y.here hx rfl (hb hby hd) hl k) g
theorem OG.lloadN (X : OS B mL own nm rt Z n0 p l e R s m args below meth c T h cells slots) {k : Fin 4} {v : Int64} (hd : decode B pc = .ok (.lload_n k, 1)) (hl : Ls[k.val]? = some (.val (.long v))) (g : OG p e below s n0 rc rs Q (T.setTop (mkF m (pc + 1) Ls (.long v :: st)))) : OG p e below s n0 rc rs Q (T.setTop (mkF m pc Ls st)) := by
  obtain ⟨⟨hx, hby, -⟩, -, locs, -, Y⟩ := X
  exact OG.pre (fun _ k => XS.lloadN Y.here hx rfl (hb hby hd) hl k) g
theorem OG.aload (X : OS B mL own nm rt Z n0 p l e R s m args below meth c T h cells slots) {k : Nat} {v : Value} (hd : decode B pc = .ok (.aload k, 2)) (hl : Ls[k]? = some (.val v)) (hv : v.isRef = true) (g : OG p e below s n0 rc rs Q (T.setTop (mkF m (pc + 2) Ls (v :: st)))) : OG p e below s n0 rc rs Q (T.setTop (mkF m pc Ls st)) := by
  obtain ⟨⟨hx, hby, -⟩, -, locs, -, Y⟩ := X
  exact OG.pre (fun _ k => XS.aload Y.here hx rfl (hb hby hd) hl hv k) g
theorem OG.aloadN (X : OS B mL own nm rt Z n0 p l e R s m args below meth c T h cells slots) {k : Fin 4} {v : Value} (hd : decode B pc = .ok (.aload_n k, 1)) (hl : Ls[k.val]? = some (.val v)) (hv : v.isRef = true) (g : OG p e below s n0 rc rs Q (T.setTop (mkF m (pc + 1) Ls (v :: st)))) : OG p e below s n0 rc rs Q (T.setTop (mkF m pc Ls st)) := by
  obtain ⟨⟨hx, hby, -⟩, -, locs, -, Y⟩ := X
  exact OG.pre (fun _ k => XS.aloadN Y.here hx rfl (hb hby hd) hl hv k) g
theorem OG.istore (X : OS B mL own nm rt Z n0 p l e R s m args below meth c T h cells slots) {k : Nat} {v : Int32} {l' : Array Slot} (hd : decode B pc = .ok (.istore k, 2)) (hl : storeLocals Ls k (.int v) = some l') (g : OG p e below s n0 rc rs Q (T.setTop (mkF m (pc + 2) l' st))) : OG p e below s n0 rc rs Q (T.setTop (mkF m pc Ls (.int v :: st))) := by
  obtain ⟨⟨hx, hby, -⟩, -, locs, -, Y⟩ := X
  exact OG.pre (fun _ k => XS.istore Y.here hx rfl (hb hby hd) rfl hl k) g
theorem OG.istoreV (X : OS B mL own nm rt Z n0 p l e R s m args below meth c T h cells slots) {k : Nat} {v : Int32} {l' : Int32 → Array Slot} (hd : decode B pc = .ok (.istore k, 2)) (hl : ∀ z, storeLocals Ls k (.int z) = some (l' z)) (g : ∀ z, z = v → OG p e below s n0 rc rs Q (T.setTop (mkF m (pc + 2) (l' z) st))) : OG p e below s n0 rc rs Q (T.setTop (mkF m pc Ls (.int v :: st))) := by
  obtain ⟨⟨hx, hby, -⟩, -, locs, -, Y⟩ := X
  exact OG.pre (fun _ k => XS.istore Y.here hx rfl (hb hby hd) rfl (hl v) k) (g v rfl)
theorem OG.istoreN (X : OS B mL own nm rt Z n0 p l e R s m args below meth c T h cells slots) {k : Fin 4} {v : Int32} {l' : Array Slot} (hd : decode B pc = .ok (.istore_n k, 1)) (hl : storeLocals Ls k.val (.int v) = some l') (g : OG p e below s n0 rc rs Q (T.setTop (mkF m (pc + 1) l' st))) : OG p e below s n0 rc rs Q (T.setTop (mkF m pc Ls (.int v :: st))) := by
  obtain ⟨⟨hx, hby, -⟩, -, locs, -, Y⟩ := X
  exact OG.pre (fun _ k => XS.istoreN Y.here hx rfl (hb hby hd) rfl hl k) g
theorem OG.istoreNV (X : OS B mL own nm rt Z n0 p l e R s m args below meth c T h cells slots) {k : Fin 4} {v : Int32} {l' : Int32 → Array Slot} (hd : decode B pc = .ok (.istore_n k, 1)) (hl : ∀ z, storeLocals Ls k.val (.int z) = some (l' z)) (g : ∀ z, z = v → OG p e below s n0 rc rs Q (T.setTop (mkF m (pc + 1) (l' z) st))) : OG p e below s n0 rc rs Q (T.setTop (mkF m pc Ls (.int v :: st))) := by
  obtain ⟨⟨hx, hby, -⟩, -, locs, -, Y⟩ := X
  exact OG.pre (fun _ k => XS.istoreN Y.here hx rfl (hb hby hd) rfl (hl v) k) (g v rfl)
theorem OG.lstore (X : OS B mL own nm rt Z n0 p l e R s m args below meth c T h cells slots) {k : Nat} {v : Int64} {l' : Array Slot} (hd : decode B pc = .ok (.lstore k, 2)) (hl : storeLocals Ls k (.long v) = some l') (g : OG p e below s n0 rc rs Q (T.setTop (mkF m (pc + 2) l' st))) : OG p e below s n0 rc rs Q (T.setTop (mkF m pc Ls (.long v :: st))) := by
  obtain ⟨⟨hx, hby, -⟩, -, locs, -, Y⟩ := X
  exact OG.pre (fun _ k => XS.lstore Y.here hx rfl (hb hby hd) rfl hl k) g
theorem OG.lstoreV (X : OS B mL own nm rt Z n0 p l e R s m args below meth c T h cells slots) {k : Nat} {v : Int64} {l' : Int64 → Array Slot} (hd : decode B pc = .ok (.lstore k, 2)) (hl : ∀ z, storeLocals Ls k (.long z) = some (l' z)) (g : ∀ z, z = v → OG p e below s n0 rc rs Q (T.setTop (mkF m (pc + 2) (l' z) st))) : OG p e below s n0 rc rs Q (T.setTop (mkF m pc Ls (.long v :: st))) := by
  obtain ⟨⟨hx, hby, -⟩, -, locs, -, Y⟩ := X
  exact OG.pre (fun _ k => XS.lstore Y.here hx rfl (hb hby hd) rfl (hl v) k) (g v rfl)
theorem OG.lstoreN (X : OS B mL own nm rt Z n0 p l e R s m args below meth c T h cells slots) {k : Fin 4} {v : Int64} {l' : Array Slot} (hd : decode B pc = .ok (.lstore_n k, 1)) (hl : storeLocals Ls k.val (.long v) = some l') (g : OG p e below s n0 rc rs Q (T.setTop (mkF m (pc + 1) l' st))) : OG p e below s n0 rc rs Q (T.setTop (mkF m pc Ls (.long v :: st))) := by
  obtain ⟨⟨hx, hby, -⟩, -, locs, -, Y⟩ := X
  exact OG.pre (fun _ k => XS.lstoreN Y.here hx rfl (hb hby hd) rfl hl k) g
theorem OG.lstoreNV (X : OS B mL own nm rt Z n0 p l e R s m args below meth c T h cells slots) {k : Fin 4} {v : Int64} {l' : Int64 → Array Slot} (hd : decode B pc = .ok (.lstore_n k, 1)) (hl : ∀ z, storeLocals Ls k.val (.long z) = some (l' z)) (g : ∀ z, z = v → OG p e below s n0 rc rs Q (T.setTop (mkF m (pc + 1) (l' z) st))) : OG p e below s n0 rc rs Q (T.setTop (mkF m pc Ls (.long v :: st))) := by
  obtain ⟨⟨hx, hby, -⟩, -, locs, -, Y⟩ := X
  exact OG.pre (fun _ k => XS.lstoreN Y.here hx rfl (hb hby hd) rfl (hl v) k) (g v rfl)
theorem OG.astore (X : OS B mL own nm rt Z n0 p l e R s m args below meth c T h cells slots) {k : Nat} {v : Value} {l' : Array Slot} (hd : decode B pc = .ok (.astore k, 2)) (hv : v.isRef = true) (hl : storeLocals Ls k v = some l') (g : OG p e below s n0 rc rs Q (T.setTop (mkF m (pc + 2) l' st))) : OG p e below s n0 rc rs Q (T.setTop (mkF m pc Ls (v :: st))) := by
  obtain ⟨⟨hx, hby, -⟩, -, locs, -, Y⟩ := X
  exact OG.pre (fun _ k => XS.astore Y.here hx rfl (hb hby hd) rfl hv hl k) g
theorem OG.astoreN (X : OS B mL own nm rt Z n0 p l e R s m args below meth c T h cells slots) {k : Fin 4} {v : Value} {l' : Array Slot} (hd : decode B pc = .ok (.astore_n k, 1)) (hv : v.isRef = true) (hl : storeLocals Ls k.val v = some l') (g : OG p e below s n0 rc rs Q (T.setTop (mkF m (pc + 1) l' st))) : OG p e below s n0 rc rs Q (T.setTop (mkF m pc Ls (v :: st))) := by
  obtain ⟨⟨hx, hby, -⟩, -, locs, -, Y⟩ := X
  exact OG.pre (fun _ k => XS.astoreN Y.here hx rfl (hb hby hd) rfl hv hl k) g
theorem OG.iconst (X : OS B mL own nm rt Z n0 p l e R s m args below meth c T h cells slots) {i : Int} {z : Int32} (hd : decode B pc = .ok (.iconst i, 1)) (hz : Int32.ofInt i = z) (g : OG p e below s n0 rc rs Q (T.setTop (mkF m (pc + 1) Ls (.int z :: st)))) : OG p e below s n0 rc rs Q (T.setTop (mkF m pc Ls st)) := by
  obtain ⟨⟨hx, hby, -⟩, -, locs, -, Y⟩ := X
  subst hz
  exact OG.pre (fun _ k => XS.iconst Y.here hx rfl (hb hby hd) k) g
theorem OG.bipush (X : OS B mL own nm rt Z n0 p l e R s m args below meth c T h cells slots) {i : Int} {z : Int32} (hd : decode B pc = .ok (.bipush i, 2)) (hz : (Int8.ofInt i).toInt32 = z) (g : OG p e below s n0 rc rs Q (T.setTop (mkF m (pc + 2) Ls (.int z :: st)))) : OG p e below s n0 rc rs Q (T.setTop (mkF m pc Ls st)) := by
  obtain ⟨⟨hx, hby, -⟩, -, locs, -, Y⟩ := X
  subst hz
  exact OG.pre (fun _ k => XS.bipush Y.here hx rfl (hb hby hd) k) g
theorem OG.sipush (X : OS B mL own nm rt Z n0 p l e R s m args below meth c T h cells slots) {i : Int} {z : Int32} (hd : decode B pc = .ok (.sipush i, 3)) (hz : (Int16.ofInt i).toInt32 = z) (g : OG p e below s n0 rc rs Q (T.setTop (mkF m (pc + 3) Ls (.int z :: st)))) : OG p e below s n0 rc rs Q (T.setTop (mkF m pc Ls st)) := by
  obtain ⟨⟨hx, hby, -⟩, -, locs, -, Y⟩ := X
  subst hz
  exact OG.pre (fun _ k => XS.sipush Y.here hx rfl (hb hby hd) k) g
theorem OG.lconst (X : OS B mL own nm rt Z n0 p l e R s m args below meth c T h cells slots) {k : Fin 2} {z : Int64} (hd : decode B pc = .ok (.lconst k, 1)) (hz : Int64.ofNat k = z) (g : OG p e below s n0 rc rs Q (T.setTop (mkF m (pc + 1) Ls (.long z :: st)))) : OG p e below s n0 rc rs Q (T.setTop (mkF m pc Ls st)) := by
  obtain ⟨⟨hx, hby, -⟩, -, locs, -, Y⟩ := X
  subst hz
  exact OG.pre (fun _ q => XS.lconst Y.here hx rfl (hb hby hd) q) g
theorem OG.aconstNull (X : OS B mL own nm rt Z n0 p l e R s m args below meth c T h cells slots)  (hd : decode B pc = .ok (.aconst_null, 1))  (g : OG p e below s n0 rc rs Q (T.setTop (mkF m (pc + 1) Ls (.null :: st)))) : OG p e below s n0 rc rs Q (T.setTop (mkF m pc Ls st)) := by
  obtain ⟨⟨hx, hby, -⟩, -, locs, -, Y⟩ := X
  exact OG.pre (fun _ k => XS.aconstNull Y.here hx rfl (hb hby hd)  k) g
theorem OG.iadd (X : OS B mL own nm rt Z n0 p l e R s m args below meth c T h cells slots) {x y : Int32} (hd : decode B pc = .ok (.iadd, 1))  (g : OG p e below s n0 rc rs Q (T.setTop (mkF m (pc + 1) Ls (.int (x + y) :: st)))) : OG p e below s n0 rc rs Q (T.setTop (mkF m pc Ls (.int y :: .int x :: st))) := by
  obtain ⟨⟨hx, hby, -⟩, -, locs, -, Y⟩ := X
  exact OG.pre (fun _ k => XS.iadd Y.here hx rfl (hb hby hd) rfl k) g
theorem OG.isub (X : OS B mL own nm rt Z n0 p l e R s m args below meth c T h cells slots) {x y : Int32} (hd : decode B pc = .ok (.isub, 1))  (g : OG p e below s n0 rc rs Q (T.setTop (mkF m (pc + 1) Ls (.int (x - y) :: st)))) : OG p e below s n0 rc rs Q (T.setTop (mkF m pc Ls (.int y :: .int x :: st))) := by
  obtain ⟨⟨hx, hby, -⟩, -, locs, -, Y⟩ := X
  exact OG.pre (fun _ k => XS.isub Y.here hx rfl (hb hby hd) rfl k) g
theorem OG.imul (X : OS B mL own nm rt Z n0 p l e R s m args below meth c T h cells slots) {x y : Int32} (hd : decode B pc = .ok (.imul, 1))  (g : OG p e below s n0 rc rs Q (T.setTop (mkF m (pc + 1) Ls (.int (x * y) :: st)))) : OG p e below s n0 rc rs Q (T.setTop (mkF m pc Ls (.int y :: .int x :: st))) := by
  obtain ⟨⟨hx, hby, -⟩, -, locs, -, Y⟩ := X
  exact OG.pre (fun _ k => XS.imul Y.here hx rfl (hb hby hd) rfl k) g
theorem OG.iand (X : OS B mL own nm rt Z n0 p l e R s m args below meth c T h cells slots) {x y : Int32} (hd : decode B pc = .ok (.iand, 1))  (g : OG p e below s n0 rc rs Q (T.setTop (mkF m (pc + 1) Ls (.int (x &&& y) :: st)))) : OG p e below s n0 rc rs Q (T.setTop (mkF m pc Ls (.int y :: .int x :: st))) := by
  obtain ⟨⟨hx, hby, -⟩, -, locs, -, Y⟩ := X
  exact OG.pre (fun _ k => XS.iand Y.here hx rfl (hb hby hd) rfl k) g
theorem OG.ior (X : OS B mL own nm rt Z n0 p l e R s m args below meth c T h cells slots) {x y : Int32} (hd : decode B pc = .ok (.ior, 1))  (g : OG p e below s n0 rc rs Q (T.setTop (mkF m (pc + 1) Ls (.int (x ||| y) :: st)))) : OG p e below s n0 rc rs Q (T.setTop (mkF m pc Ls (.int y :: .int x :: st))) := by
  obtain ⟨⟨hx, hby, -⟩, -, locs, -, Y⟩ := X
  exact OG.pre (fun _ k => XS.ior Y.here hx rfl (hb hby hd) rfl k) g
theorem OG.ixor (X : OS B mL own nm rt Z n0 p l e R s m args below meth c T h cells slots) {x y : Int32} (hd : decode B pc = .ok (.ixor, 1))  (g : OG p e below s n0 rc rs Q (T.setTop (mkF m (pc + 1) Ls (.int (x ^^^ y) :: st)))) : OG p e below s n0 rc rs Q (T.setTop (mkF m pc Ls (.int y :: .int x :: st))) := by
  obtain ⟨⟨hx, hby, -⟩, -, locs, -, Y⟩ := X
  exact OG.pre (fun _ k => XS.ixor Y.here hx rfl (hb hby hd) rfl k) g
theorem OG.ishl (X : OS B mL own nm rt Z n0 p l e R s m args below meth c T h cells slots) {x y : Int32} (hd : decode B pc = .ok (.ishl, 1))  (g : OG p e below s n0 rc rs Q (T.setTop (mkF m (pc + 1) Ls (.int (x <<< (y &&& 31)) :: st)))) : OG p e below s n0 rc rs Q (T.setTop (mkF m pc Ls (.int y :: .int x :: st))) := by
  obtain ⟨⟨hx, hby, -⟩, -, locs, -, Y⟩ := X
  exact OG.pre (fun _ k => XS.ishl Y.here hx rfl (hb hby hd) rfl k) g
theorem OG.ishr (X : OS B mL own nm rt Z n0 p l e R s m args below meth c T h cells slots) {x y : Int32} (hd : decode B pc = .ok (.ishr, 1))  (g : OG p e below s n0 rc rs Q (T.setTop (mkF m (pc + 1) Ls (.int (x >>> (y &&& 31)) :: st)))) : OG p e below s n0 rc rs Q (T.setTop (mkF m pc Ls (.int y :: .int x :: st))) := by
  obtain ⟨⟨hx, hby, -⟩, -, locs, -, Y⟩ := X
  exact OG.pre (fun _ k => XS.ishr Y.here hx rfl (hb hby hd) rfl k) g
theorem OG.iushr (X : OS B mL own nm rt Z n0 p l e R s m args below meth c T h cells slots) {x y : Int32} (hd : decode B pc = .ok (.iushr, 1))  (g : OG p e below s n0 rc rs Q (T.setTop (mkF m (pc + 1) Ls (.int ((x.toUInt32 >>> (y &&& 31).toUInt32).toInt32) :: st)))) : OG p e below s n0 rc rs Q (T.setTop (mkF m pc Ls (.int y :: .int x :: st))) := by
  obtain ⟨⟨hx, hby, -⟩, -, locs, -, Y⟩ := X
  exact OG.pre (fun _ k => XS.iushr Y.here hx rfl (hb hby hd) rfl k) g
theorem OG.ladd (X : OS B mL own nm rt Z n0 p l e R s m args below meth c T h cells slots) {x y : Int64} (hd : decode B pc = .ok (.ladd, 1))  (g : OG p e below s n0 rc rs Q (T.setTop (mkF m (pc + 1) Ls (.long (x + y) :: st)))) : OG p e below s n0 rc rs Q (T.setTop (mkF m pc Ls (.long y :: .long x :: st))) := by
  obtain ⟨⟨hx, hby, -⟩, -, locs, -, Y⟩ := X
  exact OG.pre (fun _ k => XS.ladd Y.here hx rfl (hb hby hd) rfl k) g
theorem OG.lsub (X : OS B mL own nm rt Z n0 p l e R s m args below meth c T h cells slots) {x y : Int64} (hd : decode B pc = .ok (.lsub, 1))  (g : OG p e below s n0 rc rs Q (T.setTop (mkF m (pc + 1) Ls (.long (x - y) :: st)))) : OG p e below s n0 rc rs Q (T.setTop (mkF m pc Ls (.long y :: .long x :: st))) := by
  obtain ⟨⟨hx, hby, -⟩, -, locs, -, Y⟩ := X
  exact OG.pre (fun _ k => XS.lsub Y.here hx rfl (hb hby hd) rfl k) g
theorem OG.lmul (X : OS B mL own nm rt Z n0 p l e R s m args below meth c T h cells slots) {x y : Int64} (hd : decode B pc = .ok (.lmul, 1))  (g : OG p e below s n0 rc rs Q (T.setTop (mkF m (pc + 1) Ls (.long (x * y) :: st)))) : OG p e below s n0 rc rs Q (T.setTop (mkF m pc Ls (.long y :: .long x :: st))) := by
  obtain ⟨⟨hx, hby, -⟩, -, locs, -, Y⟩ := X
  exact OG.pre (fun _ k => XS.lmul Y.here hx rfl (hb hby hd) rfl k) g
theorem OG.land (X : OS B mL own nm rt Z n0 p l e R s m args below meth c T h cells slots) {x y : Int64} (hd : decode B pc = .ok (.land, 1))  (g : OG p e below s n0 rc rs Q (T.setTop (mkF m (pc + 1) Ls (.long (x &&& y) :: st)))) : OG p e below s n0 rc rs Q (T.setTop (mkF m pc Ls (.long y :: .long x :: st))) := by
  obtain ⟨⟨hx, hby, -⟩, -, locs, -, Y⟩ := X
  exact OG.pre (fun _ k => XS.land Y.here hx rfl (hb hby hd) rfl k) g
theorem OG.lor (X : OS B mL own nm rt Z n0 p l e R s m args below meth c T h cells slots) {x y : Int64} (hd : decode B pc = .ok (.lor, 1))  (g : OG p e below s n0 rc rs Q (T.setTop (mkF m (pc + 1) Ls (.long (x ||| y) :: st)))) : OG p e below s n0 rc rs Q (T.setTop (mkF m pc Ls (.long y :: .long x :: st))) := by
  obtain ⟨⟨hx, hby, -⟩, -, locs, -, Y⟩ := X
  exact OG.pre (fun _ k => XS.lor Y.here hx rfl (hb hby hd) rfl k) g
theorem OG.lxor (X : OS B mL own nm rt Z n0 p l e R s m args below meth c T h cells slots) {x y : Int64} (hd : decode B pc = .ok (.lxor, 1))  (g : OG p e below s n0 rc rs Q (T.setTop (mkF m (pc + 1) Ls (.long (x ^^^ y) :: st)))) : OG p e below s n0 rc rs Q (T.setTop (mkF m pc Ls (.long y :: .long x :: st))) := by
  obtain ⟨⟨hx, hby, -⟩, -, locs, -, Y⟩ := X
  exact OG.pre (fun _ k => XS.lxor Y.here hx rfl (hb hby hd) rfl k) g
theorem OG.lshl (X : OS B mL own nm rt Z n0 p l e R s m args below meth c T h cells slots) {x : Int64} {y : Int32} (hd : decode B pc = .ok (.lshl, 1))  (g : OG p e below s n0 rc rs Q (T.setTop (mkF m (pc + 1) Ls (.long (x <<< (y &&& 0x3f).toInt64) :: st)))) : OG p e below s n0 rc rs Q (T.setTop (mkF m pc Ls (.int y :: .long x :: st))) := by
  obtain ⟨⟨hx, hby, -⟩, -, locs, -, Y⟩ := X
  exact OG.pre (fun _ k => XS.lshl Y.here hx rfl (hb hby hd) rfl k) g
theorem OG.lshr (X : OS B mL own nm rt Z n0 p l e R s m args below meth c T h cells slots) {x : Int64} {y : Int32} (hd : decode B pc = .ok (.lshr, 1))  (g : OG p e below s n0 rc rs Q (T.setTop (mkF m (pc + 1) Ls (.long (x >>> (y &&& 0x3f).toInt64) :: st)))) : OG p e below s n0 rc rs Q (T.setTop (mkF m pc Ls (.int y :: .long x :: st))) := by
  obtain ⟨⟨hx, hby, -⟩, -, locs, -, Y⟩ := X
  exact OG.pre (fun _ k => XS.lshr Y.here hx rfl (hb hby hd) rfl k) g
theorem OG.lushr (X : OS B mL own nm rt Z n0 p l e R s m args below meth c T h cells slots) {x : Int64} {y : Int32} (hd : decode B pc = .ok (.lushr, 1))  (g : OG p e below s n0 rc rs Q (T.setTop (mkF m (pc + 1) Ls (.long ((x.toUInt64 >>> (y &&& 0x3f).toInt64.toUInt64).toInt64) :: st)))) : OG p e below s n0 rc rs Q (T.setTop (mkF m pc Ls (.int y :: .long x :: st))) := by
  obtain ⟨⟨hx, hby, -⟩, -, locs, -, Y⟩ := X
  exact OG.pre (fun _ k => XS.lushr Y.here hx rfl (hb hby hd) rfl k) g
theorem OG.idiv (X : OS B mL own nm rt Z n0 p l e R s m args below meth c T h cells slots) {x y : Int32} (hd : decode B pc = .ok (.idiv, 1)) (hy : y ≠ 0) (g : OG p e below s n0 rc rs Q (T.setTop (mkF m (pc + 1) Ls (.int (x / y) :: st)))) : OG p e below s n0 rc rs Q (T.setTop (mkF m pc Ls (.int y :: .int x :: st))) := by
  obtain ⟨⟨hx, hby, -⟩, -, locs, -, Y⟩ := X
  exact OG.pre (fun _ k => XS.idiv Y.here hx rfl (hb hby hd) rfl hy k) g
theorem OG.ldiv (X : OS B mL own nm rt Z n0 p l e R s m args below meth c T h cells slots) {x y : Int64} (hd : decode B pc = .ok (.ldiv, 1)) (hy : y ≠ 0) (g : OG p e below s n0 rc rs Q (T.setTop (mkF m (pc + 1) Ls (.long (x / y) :: st)))) : OG p e below s n0 rc rs Q (T.setTop (mkF m pc Ls (.long y :: .long x :: st))) := by
  obtain ⟨⟨hx, hby, -⟩, -, locs, -, Y⟩ := X
  exact OG.pre (fun _ k => XS.ldiv Y.here hx rfl (hb hby hd) rfl hy k) g
theorem OG.irem (X : OS B mL own nm rt Z n0 p l e R s m args below meth c T h cells slots) {x y : Int32} (hd : decode B pc = .ok (.irem, 1)) (hy : y ≠ 0) (g : OG p e below s n0 rc rs Q (T.setTop (mkF m (pc + 1) Ls (.int (x % y) :: st)))) : OG p e below s n0 rc rs Q (T.setTop (mkF m pc Ls (.int y :: .int x :: st))) := by
  obtain ⟨⟨hx, hby, -⟩, -, locs, -, Y⟩ := X
  exact OG.pre (fun _ k => iremM Y hx rfl (hb hby hd) rfl hy k) g
theorem OG.lrem (X : OS B mL own nm rt Z n0 p l e R s m args below meth c T h cells slots) {x y : Int64} (hd : decode B pc = .ok (.lrem, 1)) (hy : y ≠ 0) (g : OG p e below s n0 rc rs Q (T.setTop (mkF m (pc + 1) Ls (.long (x - x / y * y) :: st)))) : OG p e below s n0 rc rs Q (T.setTop (mkF m pc Ls (.long y :: .long x :: st))) := by
  obtain ⟨⟨hx, hby, -⟩, -, locs, -, Y⟩ := X
  exact OG.pre (fun _ k => XS.lrem Y.here hx rfl (hb hby hd) rfl hy k) g
theorem OG.ineg (X : OS B mL own nm rt Z n0 p l e R s m args below meth c T h cells slots) {x : Int32} (hd : decode B pc = .ok (.ineg, 1))  (g : OG p e below s n0 rc rs Q (T.setTop (mkF m (pc + 1) Ls (.int (-x) :: st)))) : OG p e below s n0 rc rs Q (T.setTop (mkF m pc Ls (.int x :: st))) := by
  obtain ⟨⟨hx, hby, -⟩, -, locs, -, Y⟩ := X
  exact OG.pre (fun _ k => XS.ineg Y.here hx rfl (hb hby hd) rfl k) g
theorem OG.lneg (X : OS B mL own nm rt Z n0 p l e R s m args below meth c T h cells slots) {x : Int64} (hd : decode B pc = .ok (.lneg, 1))  (g : OG p e below s n0 rc rs Q (T.setTop (mkF m (pc + 1) Ls (.long (-x) :: st)))) : OG p e below s n0 rc rs Q (T.setTop (mkF m pc Ls (.long x :: st))) := by
  obtain ⟨⟨hx, hby, -⟩, -, locs, -, Y⟩ := X
  exact OG.pre (fun _ k => XS.lneg Y.here hx rfl (hb hby hd) rfl k) g
theorem OG.i2l (X : OS B mL own nm rt Z n0 p l e R s m args below meth c T h cells slots) {x : Int32} (hd : decode B pc = .ok (.i2l, 1))  (g : OG p e below s n0 rc rs Q (T.setTop (mkF m (pc + 1) Ls (.long (x.toInt64) :: st)))) : OG p e below s n0 rc rs Q (T.setTop (mkF m pc Ls (.int x :: st))) := by
  obtain ⟨⟨hx, hby, -⟩, -, locs, -, Y⟩ := X
  exact OG.pre (fun _ k => XS.i2l Y.here hx rfl (hb hby hd) rfl k) g
theorem OG.l2i (X : OS B mL own nm rt Z n0 p l e R s m args below meth c T h cells slots) {x : Int64} (hd : decode B pc = .ok (.l2i, 1))  (g : OG p e below s n0 rc rs Q (T.setTop (mkF m (pc + 1) Ls (.int (x.toInt32) :: st)))) : OG p e below s n0 rc rs Q (T.setTop (mkF m pc Ls (.long x :: st))) := by
  obtain ⟨⟨hx, hby, -⟩, -, locs, -, Y⟩ := X
  exact OG.pre (fun _ k => XS.l2i Y.here hx rfl (hb hby hd) rfl k) g
theorem OG.i2b (X : OS B mL own nm rt Z n0 p l e R s m args below meth c T h cells slots) {x : Int32} (hd : decode B pc = .ok (.i2b, 1))  (g : OG p e below s n0 rc rs Q (T.setTop (mkF m (pc + 1) Ls (.int (x.toInt8.toInt32) :: st)))) : OG p e below s n0 rc rs Q (T.setTop (mkF m pc Ls (.int x :: st))) := by
  obtain ⟨⟨hx, hby, -⟩, -, locs, -, Y⟩ := X
  exact OG.pre (fun _ k => XS.i2b Y.here hx rfl (hb hby hd) rfl k) g
theorem OG.i2s (X : OS B mL own nm rt Z n0 p l e R s m args below meth c T h cells slots) {x : Int32} (hd : decode B pc = .ok (.i2s, 1))  (g : OG p e below s n0 rc rs Q (T.setTop (mkF m (pc + 1) Ls (.int (x.toInt16.toInt32) :: st)))) : OG p e below s n0 rc rs Q (T.setTop (mkF m pc Ls (.int x :: st))) := by
  obtain ⟨⟨hx, hby, -⟩, -, locs, -, Y⟩ := X
  exact OG.pre (fun _ k => XS.i2s Y.here hx rfl (hb hby hd) rfl k) g
theorem OG.i2c (X : OS B mL own nm rt Z n0 p l e R s m args below meth c T h cells slots) {x : Int32} (hd : decode B pc = .ok (.i2c, 1))  (g : OG p e below s n0 rc rs Q (T.setTop (mkF m (pc + 1) Ls (.int (x.toUInt32.toUInt16.toUInt32.toInt32) :: st)))) : OG p e below s n0 rc rs Q (T.setTop (mkF m pc Ls (.int x :: st))) := by
  obtain ⟨⟨hx, hby, -⟩, -, locs, -, Y⟩ := X
  exact OG.pre (fun _ k => XS.i2c Y.here hx rfl (hb hby hd) rfl k) g
theorem OG.lcmp (X : OS B mL own nm rt Z n0 p l e R s m args below meth c T h cells slots) {x y : Int64} (hd : decode B pc = .ok (.lcmp, 1))  (g : OG p e below s n0 rc rs Q (T.setTop (mkF m (pc + 1) Ls (.int (lcmpW x y) :: st)))) : OG p e below s n0 rc rs Q (T.setTop (mkF m pc Ls (.long y :: .long x :: st))) := by
  obtain ⟨⟨hx, hby, -⟩, -, locs, -, Y⟩ := X
  exact OG.pre (fun _ k => XS.lcmp Y.here hx rfl (hb hby hd) rfl k) g
theorem OG.dup (X : OS B mL own nm rt Z n0 p l e R s m args below meth c T h cells slots) {x : Value} (hd : decode B pc = .ok (.dup, 1)) (hc : x.category = 1) (g : OG p e below s n0 rc rs Q (T.setTop (mkF m (pc + 1) Ls (x :: x :: st)))) : OG p e below s n0 rc rs Q (T.setTop (mkF m pc Ls (x :: st))) := by
  obtain ⟨⟨hx, hby, -⟩, -, locs, -, Y⟩ := X
  exact OG.pre (fun _ k => XS.dup Y.here hx rfl (hb hby hd) rfl hc k) g
theorem OG.pop (X : OS B mL own nm rt Z n0 p l e R s m args below meth c T h cells slots) {x : Value} (hd : decode B pc = .ok (.pop, 1)) (hc : x.category = 1) (g : OG p e below s n0 rc rs Q (T.setTop (mkF m (pc + 1) Ls st))) : OG p e below s n0 rc rs Q (T.setTop (mkF m pc Ls (x :: st))) := by
  obtain ⟨⟨hx, hby, -⟩, -, locs, -, Y⟩ := X
  exact OG.pre (fun _ k => XS.pop Y.here hx rfl (hb hby hd) rfl hc k) g
theorem OG.dupX1 (X : OS B mL own nm rt Z n0 p l e R s m args below meth c T h cells slots) {x y : Value} (hd : decode B pc = .ok (.dup_x1, 1)) (hc : x.category = 1) (hc' : y.category = 1) (g : OG p e below s n0 rc rs Q (T.setTop (mkF m (pc + 1) Ls (x :: y :: x :: st)))) : OG p e below s n0 rc rs Q (T.setTop (mkF m pc Ls (x :: y :: st))) := by
  obtain ⟨⟨hx, hby, -⟩, -, locs, -, Y⟩ := X
  exact OG.pre (fun _ k => XS.dupX1 Y.here hx rfl (hb hby hd) rfl hc hc' k) g
theorem OG.dup2 (X : OS B mL own nm rt Z n0 p l e R s m args below meth c T h cells slots) {x y : Value} (hd : decode B pc = .ok (.dup2, 1)) (hc : x.category = 1) (hc' : y.category = 1) (g : OG p e below s n0 rc rs Q (T.setTop (mkF m (pc + 1) Ls (x :: y :: x :: y :: st)))) : OG p e below s n0 rc rs Q (T.setTop (mkF m pc Ls (x :: y :: st))) := by
  obtain ⟨⟨hx, hby, -⟩, -, locs, -, Y⟩ := X
  exact OG.pre (fun _ k => Jvm.Free.XT.dup2 Y.here hx rfl (hb hby hd) rfl hc hc' k) g
theorem OG.iinc (X : OS B mL own nm rt Z n0 p l e R s m args below meth c T h cells slots) {k : Nat} {i : Int} {x z : Int32} {l' : Array Slot} (hd : decode B pc = .ok (.iinc k i, 3)) (hl : Ls[k]? = some (.val (.int x))) (hz : Int32.ofInt i = z) (hl' : storeLocals Ls k (.int (x + z)) = some l') (g : OG p e below s n0 rc rs Q (T.setTop (mkF m (pc + 3) l' st))) : OG p e below s n0 rc rs Q (T.setTop (mkF m pc Ls st)) := by
  obtain ⟨⟨hx, hby, -⟩, -, locs, -, Y⟩ := X
  subst hz
  exact OG.pre (fun _ q => XS.iinc Y.here hx rfl (hb hby hd) hl hl' q) g
theorem OG.goto (X : OS B mL own nm rt Z n0 p l e R s m args below meth c T h cells slots) {o : Int} {pc' : Nat} (hd : decode B pc = .ok (.goto o, 3)) (hp : 0 ≤ (pc : Int) + o ∧ ((pc : Int) + o).toNat = pc') (g : OG p e below s n0 rc rs Q (T.setTop (mkF m pc' Ls st))) : OG p e below s n0 rc rs Q (T.setTop (mkF m pc Ls st)) := by
  obtain ⟨⟨hx, hby, -⟩, -, locs, -, Y⟩ := X
  exact OG.pre (fun _ q => XS.goto Y.here hx rfl (pc0 := pc) rfl (hb hby hd) hp.1 hp.2 q) g
theorem OG.icmp_lt_t (X : OS B mL own nm rt Z n0 p l e R s m args below meth c T h cells slots) {x y : Int32} {o : Int} {pc' : Nat} (hd : decode B pc = .ok (.if_icmp .lt o, 3)) (hp : 0 ≤ (pc : Int) + o ∧ ((pc : Int) + o).toNat = pc') (hq : x < y) (g : OG p e below s n0 rc rs Q (T.setTop (mkF m pc' Ls st))) : OG p e below s n0 rc rs Q (T.setTop (mkF m pc Ls (.int y :: .int x :: st))) := by
  obtain ⟨⟨hx, hby, -⟩, -, locs, -, Y⟩ := X
  exact OG.pre (fun _ q => XS.icmpYes Y.here hx rfl (pc0 := pc) rfl (hb hby hd) rfl (tlt hq).1 hp.1 hp.2 q) g
theorem OG.icmp_lt_f (X : OS B mL own nm rt Z n0 p l e R s m args below meth c T h cells slots) {x y : Int32} {o : Int} (hd : decode B pc = .ok (.if_icmp .lt o, 3)) (hq : ¬ x < y) (g : OG p e below s n0 rc rs Q (T.setTop (mkF m (pc + 3) Ls st))) : OG p e below s n0 rc rs Q (T.setTop (mkF m pc Ls (.int y :: .int x :: st))) := by
  obtain ⟨⟨hx, hby, -⟩, -, locs, -, Y⟩ := X
  exact OG.pre (fun _ q => XS.icmpNo Y.here hx rfl (hb hby hd) rfl (flt hq).1 q) g
theorem OG.icmp_lt (X : OS B mL own nm rt Z n0 p l e R s m args below meth c T h cells slots) {x y : Int32} {o : Int} {pc' : Nat} (hd : decode B pc = .ok (.if_icmp .lt o, 3)) (hp : 0 ≤ (pc : Int) + o ∧ ((pc : Int) + o).toNat = pc') (g1 : x < y → OG p e below s n0 rc rs Q (T.setTop (mkF m pc' Ls st))) (g2 : ¬ x < y → OG p e below s n0 rc rs Q (T.setTop (mkF m (pc + 3) Ls st))) : OG p e below s n0 rc rs Q (T.setTop (mkF m pc Ls (.int y :: .int x :: st))) :=
  if hq : x < y then OG.icmp_lt_t X hd hp hq (g1 hq) else OG.icmp_lt_f X hd hq (g2 hq)
theorem OG.if_lt_t (X : OS B mL own nm rt Z n0 p l e R s m args below meth c T h cells slots) {x : Int32} {o : Int} {pc' : Nat} (hd : decode B pc = .ok (.ifCond .lt o, 3)) (hp : 0 ≤ (pc : Int) + o ∧ ((pc : Int) + o).toNat = pc') (hq : x < 0) (g : OG p e below s n0 rc rs Q (T.setTop (mkF m pc' Ls st))) : OG p e below s n0 rc rs Q (T.setTop (mkF m pc Ls (.int x :: st))) := by
  obtain ⟨⟨hx, hby, -⟩, -, locs, -, Y⟩ := X
  exact OG.pre (fun _ q => XS.ifYes Y.here hx rfl (pc0 := pc) rfl (hb hby hd) rfl ((if0 _ _).trans (tlt hq).1) hp.1 hp.2 q) g
theorem OG.if_lt_f (X : OS B mL own nm rt Z n0 p l e R s m args below meth c T h cells slots) {x : Int32} {o : Int} (hd : decode B pc = .ok (.ifCond .lt o, 3)) (hq : ¬ x < 0) (g : OG p e below s n0 rc rs Q (T.setTop (mkF m (pc + 3) Ls st))) : OG p e below s n0 rc rs Q (T.setTop (mkF m pc Ls (.int x :: st))) := by
  obtain ⟨⟨hx, hby, -⟩, -, locs, -, Y⟩ := X
  exact OG.pre (fun _ q => XS.ifNo Y.here hx rfl (hb hby hd) rfl ((if0 _ _).trans (flt hq).1) q) g
theorem OG.if_lt (X : OS B mL own nm rt Z n0 p l e R s m args below meth c T h cells slots) {x : Int32} {o : Int} {pc' : Nat} (hd : decode B pc = .ok (.ifCond .lt o, 3)) (hp : 0 ≤ (pc : Int) + o ∧ ((pc : Int) + o).toNat = pc') (g1 : x < 0 → OG p e below s n0 rc rs Q (T.setTop (mkF m pc' Ls st))) (g2 : ¬ x < 0 → OG p e below s n0 rc rs Q (T.setTop (mkF m (pc + 3) Ls st))) : OG p e below s n0 rc rs Q (T.setTop (mkF m pc Ls (.int x :: st))) :=
  if hq : x < 0 then OG.if_lt_t X hd hp hq (g1 hq) else OG.if_lt_f X hd hq (g2 hq)
theorem OG.ifl_lt_t (X : OS B mL own nm rt Z n0 p l e R s m args below meth c T h cells slots) {x y : Int64} {o : Int} {pc' : Nat} (hd : decode B pc = .ok (.ifCond .lt o, 3)) (hp : 0 ≤ (pc : Int) + o ∧ ((pc : Int) + o).toNat = pc') (hq : x < y) (g : OG p e below s n0 rc rs Q (T.setTop (mkF m pc' Ls st))) : OG p e below s n0 rc rs Q (T.setTop (mkF m pc Ls (.int (lcmpW x y) :: st))) := by
  obtain ⟨⟨hx, hby, -⟩, -, locs, -, Y⟩ := X
  exact OG.pre (fun _ q => XS.ifYes Y.here hx rfl (pc0 := pc) rfl (hb hby hd) rfl ((if0 _ _).trans (tlt ((lw_lt x y).mpr hq)).1) hp.1 hp.2 q) g
theorem OG.ifl_lt_f (X : OS B mL own nm rt Z n0 p l e R s m args below meth c T h cells slots) {x y : Int64} {o : Int} (hd : decode B pc = .ok (.ifCond .lt o, 3)) (hq : ¬ x < y) (g : OG p e below s n0 rc rs Q (T.setTop (mkF m (pc + 3) Ls st))) : OG p e below s n0 rc rs Q (T.setTop (mkF m pc Ls (.int (lcmpW x y) :: st))) := by
  obtain ⟨⟨hx, hby, -⟩, -, locs, -, Y⟩ := X
  exact OG.pre (fun _ q => XS.ifNo Y.here hx rfl (hb hby hd) rfl ((if0 _ _).trans (flt (fun q => hq ((lw_lt x y).mp q))).1) q) g
theorem OG.ifl_lt (X : OS B mL own nm rt Z n0 p l e R s m args below meth c T h cells slots) {x y : Int64} {o : Int} {pc' : Nat} (hd : decode B pc = .ok (.ifCond .lt o, 3)) (hp : 0 ≤ (pc : Int) + o ∧ ((pc : Int) + o).toNat = pc') (g1 : x < y → OG p e below s n0 rc rs Q (T.setTop (mkF m pc' Ls st))) (g2 : ¬ x < y → OG p e below s n0 rc rs Q (T.setTop (mkF m (pc + 3) Ls st))) : OG p e below s n0 rc rs Q (T.setTop (mkF m pc Ls (.int (lcmpW x y) :: st))) :=
  if hq : x < y then OG.ifl_lt_t X hd hp hq (g1 hq) else OG.ifl_lt_f X hd hq (g2 hq)
theorem OG.icmp_ge_t (X : OS B mL own nm rt Z n0 p l e R s m args below meth c T h cells slots) {x y : Int32} {o : Int} {pc' : Nat} (hd : decode B pc = .ok (.if_icmp .ge o, 3)) (hp : 0 ≤ (pc : Int) + o ∧ ((pc : Int) + o).toNat = pc') (hq : ¬ x < y) (g : OG p e below s n0 rc rs Q (T.setTop (mkF m pc' Ls st))) : OG p e below s n0 rc rs Q (T.setTop (mkF m pc Ls (.int y :: .int x :: st))) := by
  obtain ⟨⟨hx, hby, -⟩, -, locs, -, Y⟩ := X
  exact OG.pre (fun _ q => XS.icmpYes Y.here hx rfl (pc0 := pc) rfl (hb hby hd) rfl (flt hq).2.1 hp.1 hp.2 q) g
theorem OG.icmp_ge_f (X : OS B mL own nm rt Z n0 p l e R s m args below meth c T h cells slots) {x y : Int32} {o : Int} (hd : decode B pc = .ok (.if_icmp .ge o, 3)) (hq : x < y) (g : OG p e below s n0 rc rs Q (T.setTop (mkF m (pc + 3) Ls st))) : OG p e below s n0 rc rs Q (T.setTop (mkF m pc Ls (.int y :: .int x :: st))) := by
  obtain ⟨⟨hx, hby, -⟩, -, locs, -, Y⟩ := X
  exact OG.pre (fun _ q => XS.icmpNo Y.here hx rfl (hb hby hd) rfl (tlt hq).2.1 q) g
theorem OG.icmp_ge (X : OS B mL own nm rt Z n0 p l e R s m args below meth c T h cells slots) {x y : Int32} {o : Int} {pc' : Nat} (hd : decode B pc = .ok (.if_icmp .ge o, 3)) (hp : 0 ≤ (pc : Int) + o ∧ ((pc : Int) + o).toNat = pc') (g1 : ¬ x < y → OG p e below s n0 rc rs Q (T.setTop (mkF m pc' Ls st))) (g2 : x < y → OG p e below s n0 rc rs Q (T.setTop (mkF m (pc + 3) Ls st))) : OG p e below s n0 rc rs Q (T.setTop (mkF m pc Ls (.int y :: .int x :: st))) :=
  if hq : x < y then OG.icmp_ge_f X hd hq (g2 hq) else OG.icmp_ge_t X hd hp hq (g1 hq)
theorem OG.if_ge_t (X : OS B mL own nm rt Z n0 p l e R s m args below meth c T h cells slots) {x : Int32} {o : Int} {pc' : Nat} (hd : decode B pc = .ok (.ifCond .ge o, 3)) (hp : 0 ≤ (pc : Int) + o ∧ ((pc : Int) + o).toNat = pc') (hq : ¬ x < 0) (g : OG p e below s n0 rc rs Q (T.setTop (mkF m pc' Ls st))) : OG p e below s n0 rc rs Q (T.setTop (mkF m pc Ls (.int x :: st))) := by
  obtain ⟨⟨hx, hby, -⟩, -, locs, -, Y⟩ := X
  exact OG.pre (fun _ q => XS.ifYes Y.here hx rfl (pc0 := pc) rfl (hb hby hd) rfl ((if0 _ _).trans (flt hq).2.1) hp.1 hp.2 q) g
theorem OG.if_ge_f (X : OS B mL own nm rt Z n0 p l e R s m args below meth c T h cells slots) {x : Int32} {o : Int} (hd : decode B pc = .ok (.ifCond .ge o, 3)) (hq : x < 0) (g : OG p e below s n0 rc rs Q (T.setTop (mkF m (pc + 3) Ls st))) : OG p e below s n0 rc rs Q (T.setTop (mkF m pc Ls (.int x :: st))) := by
  obtain ⟨⟨hx, hby, -⟩, -, locs, -, Y⟩ := X
  exact OG.pre (fun _ q => XS.ifNo Y.here hx rfl (hb hby hd) rfl ((if0 _ _).trans (tlt hq).2.1) q) g
theorem OG.if_ge (X : OS B mL own nm rt Z n0 p l e R s m args below meth c T h cells slots) {x : Int32} {o : Int} {pc' : Nat} (hd : decode B pc = .ok (.ifCond .ge o, 3)) (hp : 0 ≤ (pc : Int) + o ∧ ((pc : Int) + o).toNat = pc') (g1 : ¬ x < 0 → OG p e below s n0 rc rs Q (T.setTop (mkF m pc' Ls st))) (g2 : x < 0 → OG p e below s n0 rc rs Q (T.setTop (mkF m (pc + 3) Ls st))) : OG p e below s n0 rc rs Q (T.setTop (mkF m pc Ls (.int x :: st))) :=
  if hq : x < 0 then OG.if_ge_f X hd hq (g2 hq) else OG.if_ge_t X hd hp hq (g1 hq)
theorem OG.ifl_ge_t (X : OS B mL own nm rt Z n0 p l e R s m args below meth c T h cells slots) {x y : Int64} {o : Int} {pc' : Nat} (hd : decode B pc = .ok (.ifCond .ge o, 3)) (hp : 0 ≤ (pc : Int) + o ∧ ((pc : Int) + o).toNat = pc') (hq : ¬ x < y) (g : OG p e below s n0 rc rs Q (T.setTop (mkF m pc' Ls st))) : OG p e below s n0 rc rs Q (T.setTop (mkF m pc Ls (.int (lcmpW x y) :: st))) := by
  obtain ⟨⟨hx, hby, -⟩, -, locs, -, Y⟩ := X
  exact OG.pre (fun _ q => XS.ifYes Y.here hx rfl (pc0 := pc) rfl (hb hby hd) rfl ((if0 _ _).trans (flt (fun q => hq ((lw_lt x y).mp q))).2.1) hp.1 hp.2 q) g
theorem OG.ifl_ge_f (X : OS B mL own nm rt Z n0 p l e R s m args below meth c T h cells slots) {x y : Int64} {o : Int} (hd : decode B pc = .ok (.ifCond .ge o, 3)) (hq : x < y) (g : OG p e below s n0 rc rs Q (T.setTop (mkF m (pc + 3) Ls st))) : OG p e below s n0 rc rs Q (T.setTop (mkF m pc Ls (.int (lcmpW x y) :: st))) := by
  obtain ⟨⟨hx, hby, -⟩, -, locs, -, Y⟩ := X
  exact OG.pre (fun _ q => XS.ifNo Y.here hx rfl (hb hby hd) rfl ((if0 _ _).trans (tlt ((lw_lt x y).mpr hq)).2.1) q) g
theorem OG.ifl_ge (X : OS B mL own nm rt Z n0 p l e R s m args below meth c T h cells slots) {x y : Int64} {o : Int} {pc' : Nat} (hd : decode B pc = .ok (.ifCond .ge o, 3)) (hp : 0 ≤ (pc : Int) + o ∧ ((pc : Int) + o).toNat = pc') (g1 : ¬ x < y → OG p e below s n0 rc rs Q (T.setTop (mkF m pc' Ls st))) (g2 : x < y → OG p e below s n0 rc rs Q (T.setTop (mkF m (pc + 3) Ls st))) : OG p e below s n0 rc rs Q (T.setTop (mkF m pc Ls (.int (lcmpW x y) :: st))) :=
  if hq : x < y then OG.ifl_ge_f X hd hq (g2 hq) else OG.ifl_ge_t X hd hp hq (g1 hq)
theorem OG.icmp_gt_t (X : OS B mL own nm rt Z n0 p l e R s m args below meth c T h cells slots) {x y : Int32} {o : Int} {pc' : Nat} (hd : decode B pc = .ok (.if_icmp .gt o, 3)) (hp : 0 ≤ (pc : Int) + o ∧ ((pc : Int) + o).toNat = pc') (hq : y < x) (g : OG p e below s n0 rc rs Q (T.setTop (mkF m pc' Ls st))) : OG p e below s n0 rc rs Q (T.setTop (mkF m pc Ls (.int y :: .int x :: st))) := by
  obtain ⟨⟨hx, hby, -⟩, -, locs, -, Y⟩ := X
  exact OG.pre (fun _ q => XS.icmpYes Y.here hx rfl (pc0 := pc) rfl (hb hby hd) rfl (tlt hq).2.2.1 hp.1 hp.2 q) g
theorem OG.icmp_gt_f (X : OS B mL own nm rt Z n0 p l e R s m args below meth c T h cells slots) {x y : Int32} {o : Int} (hd : decode B pc = .ok (.if_icmp .gt o, 3)) (hq : ¬ y < x) (g : OG p e below s n0 rc rs Q (T.setTop (mkF m (pc + 3) Ls st))) : OG p e below s n0 rc rs Q (T.setTop (mkF m pc Ls (.int y :: .int x :: st))) := by
  obtain ⟨⟨hx, hby, -⟩, -, locs, -, Y⟩ := X
  exact OG.pre (fun _ q => XS.icmpNo Y.here hx rfl (hb hby hd) rfl (flt hq).2.2.1 q) g
theorem OG.icmp_gt (X : OS B mL own nm rt Z n0 p l e R s m args below meth c T h cells slots) {x y : Int32} {o : Int} {pc' : Nat} (hd : decode B pc = .ok (.if_icmp .gt o, 3)) (hp : 0 ≤ (pc : Int) + o ∧ ((pc : Int) + o).toNat = pc') (g1 : y < x → OG p e below s n0 rc rs Q (T.setTop (mkF m pc' Ls st))) (g2 : ¬ y < x → OG p e below s n0 rc rs Q (T.setTop (mkF m (pc + 3) Ls st))) : OG p e below s n0 rc rs Q (T.setTop (mkF m pc Ls (.int y :: .int x :: st))) :=
  if hq : y < x then OG.icmp_gt_t X hd hp hq (g1 hq) else OG.icmp_gt_f X hd hq (g2 hq)
theorem OG.if_gt_t (X : OS B mL own nm rt Z n0 p l e R s m args below meth c T h cells slots) {x : Int32} {o : Int} {pc' : Nat} (hd : decode B pc = .ok (.ifCond .gt o, 3)) (hp : 0 ≤ (pc : Int) + o ∧ ((pc : Int) + o).toNat = pc') (hq : 0 < x) (g : OG p e below s n0 rc rs Q (T.setTop (mkF m pc' Ls st))) : OG p e below s n0 rc rs Q (T.setTop (mkF m pc Ls (.int x :: st))) := by
  obtain ⟨⟨hx, hby, -⟩, -, locs, -, Y⟩ := X
  exact OG.pre (fun _ q => XS.ifYes Y.here hx rfl (pc0 := pc) rfl (hb hby hd) rfl ((if0 _ _).trans (tlt hq).2.2.1) hp.1 hp.2 q) g
theorem OG.if_gt_f (X : OS B mL own nm rt Z n0 p l e R s m args below meth c T h cells slots) {x : Int32} {o : Int} (hd : decode B pc = .ok (.ifCond .gt o, 3)) (hq : ¬ 0 < x) (g : OG p e below s n0 rc rs Q (T.setTop (mkF m (pc + 3) Ls st))) : OG p e below s n0 rc rs Q (T.setTop (mkF m pc Ls (.int x :: st))) := by
  obtain ⟨⟨hx, hby, -⟩, -, locs, -, Y⟩ := X
  exact OG.pre (fun _ q => XS.ifNo Y.here hx rfl (hb hby hd) rfl ((if0 _ _).trans (flt hq).2.2.1) q) g
theorem OG.if_gt (X : OS B mL own nm rt Z n0 p l e R s m args below meth c T h cells slots) {x : Int32} {o : Int} {pc' : Nat} (hd : decode B pc = .ok (.ifCond .gt o, 3)) (hp : 0 ≤ (pc : Int) + o ∧ ((pc : Int) + o).toNat = pc') (g1 : 0 < x → OG p e below s n0 rc rs Q (T.setTop (mkF m pc' Ls st))) (g2 : ¬ 0 < x → OG p e below s n0 rc rs Q (T.setTop (mkF m (pc + 3) Ls st))) : OG p e below s n0 rc rs Q (T.setTop (mkF m pc Ls (.int x :: st))) :=
  if hq : 0 < x then OG.if_gt_t X hd hp hq (g1 hq) else OG.if_gt_f X hd hq (g2 hq)
theorem OG.ifl_gt_t (X : OS B mL own nm rt Z n0 p l e R s m args below meth c T h cells slots) {x y : Int64} {o : Int} {pc' : Nat} (hd : decode B pc = .ok (.ifCond .gt o, 3)) (hp : 0 ≤ (pc : Int) + o ∧ ((pc : Int) + o).toNat = pc') (hq : y < x) (g : OG p e below s n0 rc rs Q (T.setTop (mkF m pc' Ls st))) : OG p e below s n0 rc rs Q (T.setTop (mkF m pc Ls (.int (lcmpW x y) :: st))) := by
  obtain ⟨⟨hx, hby, -⟩, -, locs, -, Y⟩ := X
  exact OG.pre (fun _ q => XS.ifYes Y.here hx rfl (pc0 := pc) rfl (hb hby hd) rfl ((if0 _ _).trans (tlt ((lw_gt x y).mpr hq)).2.2.1) hp.1 hp.2 q) g
theorem OG.ifl_gt_f (X : OS B mL own nm rt Z n0 p l e R s m args below meth c T h cells slots) {x y : Int64} {o : Int} (hd : decode B pc = .ok (.ifCond .gt o, 3)) (hq : ¬ y < x) (g : OG p e below s n0 rc rs Q (T.setTop (mkF m (pc + 3) Ls st))) : OG p e below s n0 rc rs Q (T.setTop (mkF m pc Ls (.int (lcmpW x y) :: st))) := by
  obtain ⟨⟨hx, hby, -⟩, -, locs, -, Y⟩ := X
  exact OG.pre (fun _ q => XS.ifNo Y.here hx rfl (hb hby hd) rfl ((if0 _ _).trans (flt (fun q => hq ((lw_gt x y).mp q))).2.2.1) q) g
theorem OG.ifl_gt (X : OS B mL own nm rt Z n0 p l e R s m args below meth c T h cells slots) {x y : Int64} {o : Int} {pc' : Nat} (hd : decode B pc = .ok (.ifCond .gt o, 3)) (hp : 0 ≤ (pc : Int) + o ∧ ((pc : Int) + o).toNat = pc') (g1 : y < x → OG p e below s n0 rc rs Q (T.setTop (mkF m pc' Ls st))) (g2 : ¬ y < x → OG p e below s n0 rc rs Q (T.setTop (mkF m (pc + 3) Ls st))) : OG p e below s n0 rc rs Q (T.setTop (mkF m pc Ls (.int (lcmpW x y) :: st))) :=
  if hq : y < x then OG.ifl_gt_t X hd hp hq (g1 hq) else OG.ifl_gt_f X hd hq (g2 hq)
theorem OG.icmp_le_t (X : OS B mL own nm rt Z n0 p l e R s m args below meth c T h cells slots) {x y : Int32} {o : Int} {pc' : Nat} (hd : decode B pc = .ok (.if_icmp .le o, 3)) (hp : 0 ≤ (pc : Int) + o ∧ ((pc : Int) + o).toNat = pc') (hq : ¬ y < x) (g : OG p e below s n0 rc rs Q (T.setTop (mkF m pc' Ls st))) : OG p e below s n0 rc rs Q (T.setTop (mkF m pc Ls (.int y :: .int x :: st))) := by
  obtain ⟨⟨hx, hby, -⟩, -, locs, -, Y⟩ := X
  exact OG.pre (fun _ q => XS.icmpYes Y.here hx rfl (pc0 := pc) rfl (hb hby hd) rfl (flt hq).2.2.2 hp.1 hp.2 q) g
theorem OG.icmp_le_f (X : OS B mL own nm rt Z n0 p l e R s m args below meth c T h cells slots) {x y : Int32} {o : Int} (hd : decode B pc = .ok (.if_icmp .le o, 3)) (hq : y < x) (g : OG p e below s n0 rc rs Q (T.setTop (mkF m (pc + 3) Ls st))) : OG p e below s n0 rc rs Q (T.setTop (mkF m pc Ls (.int y :: .int x :: st))) := by
  obtain ⟨⟨hx, hby, -⟩, -, locs, -, Y⟩ := X
  exact OG.pre (fun _ q => XS.icmpNo Y.here hx rfl (hb hby hd) rfl (tlt hq).2.2.2 q) g
theorem OG.icmp_le (X : OS B mL own nm rt Z n0 p l e R s m args below meth c T h cells slots) {x y : Int32} {o : Int} {pc' : Nat} (hd : decode B pc = .ok (.if_icmp .le o, 3)) (hp : 0 ≤ (pc : Int) + o ∧ ((pc : Int) + o).toNat = pc') (g1 : ¬ y < x → OG p e below s n0 rc rs Q (T.setTop (mkF m pc' Ls st))) (g2 : y < x → OG p e below s n0 rc rs Q (T.setTop (mkF m (pc + 3) Ls st))) : OG p e below s n0 rc rs Q (T.setTop (mkF m pc Ls (.int y :: .int x :: st))) :=
  if hq : y < x then OG.icmp_le_f X hd hq (g2 hq) else OG.icmp_le_t X hd hp hq (g1 hq)
theorem OG.if_le_t (X : OS B mL own nm rt Z n0 p l e R s m args below meth c T h cells slots) {x : Int32} {o : Int} {pc' : Nat} (hd : decode B pc = .ok (.ifCond .le o, 3)) (hp : 0 ≤ (pc : Int) + o ∧ ((pc : Int) + o).toNat = pc') (hq : ¬ 0 < x) (g : OG p e below s n0 rc rs Q (T.setTop (mkF m pc' Ls st))) : OG p e below s n0 rc rs Q (T.setTop (mkF m pc Ls (.int x :: st))) := by
  obtain ⟨⟨hx, hby, -⟩, -, locs, -, Y⟩ := X
  exact OG.pre (fun _ q => XS.ifYes Y.here hx rfl (pc0 := pc) rfl (hb hby hd) rfl ((if0 _ _).trans (flt hq).2.2.2) hp.1 hp.2 q) g
theorem OG.if_le_f (X : OS B mL own nm rt Z n0 p l e R s m args below meth c T h cells slots) {x : Int32} {o : Int} (hd : decode B pc = .ok (.ifCond .le o, 3)) (hq : 0 < x) (g : OG p e below s n0 rc rs Q (T.setTop (mkF m (pc + 3) Ls st))) : OG p e below s n0 rc rs Q (T.setTop (mkF m pc Ls (.int x :: st))) := by
  obtain ⟨⟨hx, hby, -⟩, -, locs, -, Y⟩ := X
  exact OG.pre (fun _ q => XS.ifNo Y.here hx rfl (hb hby hd) rfl ((if0 _ _).trans (tlt hq).2.2.2) q) g
theorem OG.if_le (X : OS B mL own nm rt Z n0 p l e R s m args below meth c T h cells slots) {x : Int32} {o : Int} {pc' : Nat} (hd : decode B pc = .ok (.ifCond .le o, 3)) (hp : 0 ≤ (pc : Int) + o ∧ ((pc : Int) + o).toNat = pc') (g1 : ¬ 0 < x → OG p e below s n0 rc rs Q (T.setTop (mkF m pc' Ls st))) (g2 : 0 < x → OG p e below s n0 rc rs Q (T.setTop (mkF m (pc + 3) Ls st))) : OG p e below s n0 rc rs Q (T.setTop (mkF m pc Ls (.int x :: st))) :=
  if hq : 0 < x then OG.if_le_f X hd hq (g2 hq) else OG.if_le_t X hd hp hq (g1 hq)
theorem OG.ifl_le_t (X : OS B mL own nm rt Z n0 p l e R s m args below meth c T h cells slots) {x y : Int64} {o : Int} {pc' : Nat} (hd : decode B pc = .ok (.ifCond .le o, 3)) (hp : 0 ≤ (pc : Int) + o ∧ ((pc : Int) + o).toNat = pc') (hq : ¬ y < x) (g : OG p e below s n0 rc rs Q (T.setTop (mkF m pc' Ls st))) : OG p e below s n0 rc rs Q (T.setTop (mkF m pc Ls (.int (lcmpW x y) :: st))) := by
  obtain ⟨⟨hx, hby, -⟩, -, locs, -, Y⟩ := X
  exact OG.pre (fun _ q => XS.ifYes Y.here hx rfl (pc0 := pc) rfl (hb hby hd) rfl ((if0 _ _).trans (flt (fun q => hq ((lw_gt x y).mp q))).2.2.2) hp.1 hp.2 q) g
theorem OG.ifl_le_f (X : OS B mL own nm rt Z n0 p l e R s m args below meth c T h cells slots) {x y : Int64} {o : Int} (hd : decode B pc = .ok (.ifCond .le o, 3)) (hq : y < x) (g : OG p e below s n0 rc rs Q (T.setTop (mkF m (pc + 3) Ls st))) : OG p e below s n0 rc rs Q (T.setTop (mkF m pc Ls (.int (lcmpW x y) :: st))) := by
  obtain ⟨⟨hx, hby, -⟩, -, locs, -, Y⟩ := X
  exact OG.pre (fun _ q => XS.ifNo Y.here hx rfl (hb hby hd) rfl ((if0 _ _).trans (tlt ((lw_gt x y).mpr hq)).2.2.2) q) g
theorem OG.ifl_le (X : OS B mL own nm rt Z n0 p l e R s m args below meth c T h cells slots) {x y : Int64} {o : Int} {pc' : Nat} (hd : decode B pc = .ok (.ifCond .le o, 3)) (hp : 0 ≤ (pc : Int) + o ∧ ((pc : Int) + o).toNat = pc') (g1 : ¬ y < x → OG p e below s n0 rc rs Q (T.setTop (mkF m pc' Ls st))) (g2 : y < x → OG p e below s n0 rc rs Q (T.setTop (mkF m (pc + 3) Ls st))) : OG p e below s n0 rc rs Q (T.setTop (mkF m pc Ls (.int (lcmpW x y) :: st))) :=
  if hq : y < x then OG.ifl_le_f X hd hq (g2 hq) else OG.ifl_le_t X hd hp hq (g1 hq)
theorem OG.icmp_eq_t (X : OS B mL own nm rt Z n0 p l e R s m args below meth c T h cells slots) {x y : Int32} {o : Int} {pc' : Nat} (hd : decode B pc = .ok (.if_icmp .eq o, 3)) (hp : 0 ≤ (pc : Int) + o ∧ ((pc : Int) + o).toNat = pc') (hq : x = y) (g : OG p e below s n0 rc rs Q (T.setTop (mkF m pc' Ls st))) : OG p e below s n0 rc rs Q (T.setTop (mkF m pc Ls (.int y :: .int x :: st))) := by
  obtain ⟨⟨hx, hby, -⟩, -, locs, -, Y⟩ := X
  exact OG.pre (fun _ q => XS.icmpYes Y.here hx rfl (pc0 := pc) rfl (hb hby hd) rfl (teq hq).1 hp.1 hp.2 q) g
theorem OG.icmp_eq_f (X : OS B mL own nm rt Z n0 p l e R s m args below meth c T h cells slots) {x y : Int32} {o : Int} (hd : decode B pc = .ok (.if_icmp .eq o, 3)) (hq : ¬ x = y) (g : OG p e below s n0 rc rs Q (T.setTop (mkF m (pc + 3) Ls st))) : OG p e below s n0 rc rs Q (T.setTop (mkF m pc Ls (.int y :: .int x :: st))) := by
  obtain ⟨⟨hx, hby, -⟩, -, locs, -, Y⟩ := X
  exact OG.pre (fun _ q => XS.icmpNo Y.here hx rfl (hb hby hd) rfl (feq hq).1 q) g
theorem OG.icmp_eq (X : OS B mL own nm rt Z n0 p l e R s m args below meth c T h cells slots) {x y : Int32} {o : Int} {pc' : Nat} (hd : decode B pc = .ok (.if_icmp .eq o, 3)) (hp : 0 ≤ (pc : Int) + o ∧ ((pc : Int) + o).toNat = pc') (g1 : x = y → OG p e below s n0 rc rs Q (T.setTop (mkF m pc' Ls st))) (g2 : ¬ x = y → OG p e below s n0 rc rs Q (T.setTop (mkF m (pc + 3) Ls st))) : OG p e below s n0 rc rs Q (T.setTop (mkF m pc Ls (.int y :: .int x :: st))) :=
  if hq : x = y then OG.icmp_eq_t X hd hp hq (g1 hq) else OG.icmp_eq_f X hd hq (g2 hq)
theorem OG.if_eq_t (X : OS B mL own nm rt Z n0 p l e R s m args below meth c T h cells slots) {x : Int32} {o : Int} {pc' : Nat} (hd : decode B pc = .ok (.ifCond .eq o, 3)) (hp : 0 ≤ (pc : Int) + o ∧ ((pc : Int) + o).toNat = pc') (hq : x = 0) (g : OG p e below s n0 rc rs Q (T.setTop (mkF m pc' Ls st))) : OG p e below s n0 rc rs Q (T.setTop (mkF m pc Ls (.int x :: st))) := by
  obtain ⟨⟨hx, hby, -⟩, -, locs, -, Y⟩ := X
  exact OG.pre (fun _ q => XS.ifYes Y.here hx rfl (pc0 := pc) rfl (hb hby hd) rfl ((if0 _ _).trans (teq hq).1) hp.1 hp.2 q) g
theorem OG.if_eq_f (X : OS B mL own nm rt Z n0 p l e R s m args below meth c T h cells slots) {x : Int32} {o : Int} (hd : decode B pc = .ok (.ifCond .eq o, 3)) (hq : ¬ x = 0) (g : OG p e below s n0 rc rs Q (T.setTop (mkF m (pc + 3) Ls st))) : OG p e below s n0 rc rs Q (T.setTop (mkF m pc Ls (.int x :: st))) := by
  obtain ⟨⟨hx, hby, -⟩, -, locs, -, Y⟩ := X
  exact OG.pre (fun _ q => XS.ifNo Y.here hx rfl (hb hby hd) rfl ((if0 _ _).trans (feq hq).1) q) g
theorem OG.if_eq (X : OS B mL own nm rt Z n0 p l e R s m args below meth c T h cells slots) {x : Int32} {o : Int} {pc' : Nat} (hd : decode B pc = .ok (.ifCond .eq o, 3)) (hp : 0 ≤ (pc : Int) + o ∧ ((pc : Int) + o).toNat = pc') (g1 : x = 0 → OG p e below s n0 rc rs Q (T.setTop (mkF m pc' Ls st))) (g2 : ¬ x = 0 → OG p e below s n0 rc rs Q (T.setTop (mkF m (pc + 3) Ls st))) : OG p e below s n0 rc rs Q (T.setTop (mkF m pc Ls (.int x :: st))) :=
  if hq : x = 0 then OG.if_eq_t X hd hp hq (g1 hq) else OG.if_eq_f X hd hq (g2 hq)
theorem OG.ifl_eq_t (X : OS B mL own nm rt Z n0 p l e R s m args below meth c T h cells slots) {x y : Int64} {o : Int} {pc' : Nat} (hd : decode B pc = .ok (.ifCond .eq o, 3)) (hp : 0 ≤ (pc : Int) + o ∧ ((pc : Int) + o).toNat = pc') (hq : x = y) (g : OG p e below s n0 rc rs Q (T.setTop (mkF m pc' Ls st))) : OG p e below s n0 rc rs Q (T.setTop (mkF m pc Ls (.int (lcmpW x y) :: st))) := by
  obtain ⟨⟨hx, hby, -⟩, -, locs, -, Y⟩ := X
  exact OG.pre (fun _ q => XS.ifYes Y.here hx rfl (pc0 := pc) rfl (hb hby hd) rfl ((if0 _ _).trans (teq ((lw_eq x y).mpr hq)).1) hp.1 hp.2 q) g
theorem OG.ifl_eq_f (X : OS B mL own nm rt Z n0 p l e R s m args below meth c T h cells slots) {x y : Int64} {o : Int} (hd : decode B pc = .ok (.ifCond .eq o, 3)) (hq : ¬ x = y) (g : OG p e below s n0 rc rs Q (T.setTop (mkF m (pc + 3) Ls st))) : OG p e below s n0 rc rs Q (T.setTop (mkF m pc Ls (.int (lcmpW x y) :: st))) := by
  obtain ⟨⟨hx, hby, -⟩, -, locs, -, Y⟩ := X
  exact OG.pre (fun _ q => XS.ifNo Y.here hx rfl (hb hby hd) rfl ((if0 _ _).trans (feq (fun q => hq ((lw_eq x y).mp q))).1) q) g
theorem OG.ifl_eq (X : OS B mL own nm rt Z n0 p l e R s m args below meth c T h cells slots) {x y : Int64} {o : Int} {pc' : Nat} (hd : decode B pc = .ok (.ifCond .eq o, 3)) (hp : 0 ≤ (pc : Int) + o ∧ ((pc : Int) + o).toNat = pc') (g1 : x = y → OG p e below s n0 rc rs Q (T.setTop (mkF m pc' Ls st))) (g2 : ¬ x = y → OG p e below s n0 rc rs Q (T.setTop (mkF m (pc + 3) Ls st))) : OG p e below s n0 rc rs Q (T.setTop (mkF m pc Ls (.int (lcmpW x y) :: st))) :=
  if hq : x = y then OG.ifl_eq_t X hd hp hq (g1 hq) else OG.ifl_eq_f X hd hq (g2 hq)
theorem OG.icmp_ne_t (X : OS B mL own nm rt Z n0 p l e R s m args below meth c T h cells slots) {x y : Int32} {o : Int} {pc' : Nat} (hd : decode B pc = .ok (.if_icmp .ne o, 3)) (hp : 0 ≤ (pc : Int) + o ∧ ((pc : Int) + o).toNat = pc') (hq : ¬ x = y) (g : OG p e below s n0 rc rs Q (T.setTop (mkF m pc' Ls st))) : OG p e below s n0 rc rs Q (T.setTop (mkF m pc Ls (.int y :: .int x :: st))) := by
  obtain ⟨⟨hx, hby, -⟩, -, locs, -, Y⟩ := X
  exact OG.pre (fun _ q => XS.icmpYes Y.here hx rfl (pc0 := pc) rfl (hb hby hd) rfl (feq hq).2 hp.1 hp.2 q) g
theorem OG.icmp_ne_f (X : OS B mL own nm rt Z n0 p l e R s m args below meth c T h cells slots) {x y : Int32} {o : Int} (hd : decode B pc = .ok (.if_icmp .ne o, 3)) (hq : x = y) (g : OG p e below s n0 rc rs Q (T.setTop (mkF m (pc + 3) Ls st))) : OG p e below s n0 rc rs Q (T.setTop (mkF m pc Ls (.int y :: .int x :: st))) := by
  obtain ⟨⟨hx, hby, -⟩, -, locs, -, Y⟩ := X
  exact OG.pre (fun _ q => XS.icmpNo Y.here hx rfl (hb hby hd) rfl (teq hq).2 q) g
theorem OG.icmp_ne (X : OS B mL own nm rt Z n0 p l e R s m args below meth c T h cells slots) {x y : Int32} {o : Int} {pc' : Nat} (hd : decode B pc = .ok (.if_icmp .ne o, 3)) (hp : 0 ≤ (pc : Int) + o ∧ ((pc : Int) + o).toNat = pc') (g1 : ¬ x = y → OG p e below s n0 rc rs Q (T.setTop (mkF m pc' Ls st))) (g2 : x = y → OG p e below s n0 rc rs Q (T.setTop (mkF m (pc + 3) Ls st))) : OG p e below s n0 rc rs Q (T.setTop (mkF m pc Ls (.int y :: .int x :: st))) :=
  if hq : x = y then OG.icmp_ne_f X hd hq (g2 hq) else OG.icmp_ne_t X hd hp hq (g1 hq)
theorem OG.if_ne_t (X : OS B mL own nm rt Z n0 p l e R s m args below meth c T h cells slots) {x : Int32} {o : Int} {pc' : Nat} (hd : decode B pc = .ok (.ifCond .ne o, 3)) (hp : 0 ≤ (pc : Int) + o ∧ ((pc : Int) + o).toNat = pc') (hq : ¬ x = 0) (g : OG p e below s n0 rc rs Q (T.setTop (mkF m pc' Ls st))) : OG p e below s n0 rc rs Q (T.setTop (mkF m pc Ls (.int x :: st))) := by
  obtain ⟨⟨hx, hby, -⟩, -, locs, -, Y⟩ := X
  exact OG.pre (fun _ q => XS.ifYes Y.here hx rfl (pc0 := pc) rfl (hb hby hd) rfl ((if0 _ _).trans (feq hq).2) hp.1 hp.2 q) g
theorem OG.if_ne_f (X : OS B mL own nm rt Z n0 p l e R s m args below meth c T h cells slots) {x : Int32} {o : Int} (hd : decode B pc = .ok (.ifCond .ne o, 3)) (hq : x = 0) (g : OG p e below s n0 rc rs Q (T.setTop (mkF m (pc + 3) Ls st))) : OG p e below s n0 rc rs Q (T.setTop (mkF m pc Ls (.int x :: st))) := by
  obtain ⟨⟨hx, hby, -⟩, -, locs, -, Y⟩ := X
  exact OG.pre (fun _ q => XS.ifNo Y.here hx rfl (hb hby hd) rfl ((if0 _ _).trans (teq hq).2) q) g
theorem OG.if_ne (X : OS B mL own nm rt Z n0 p l e R s m args below meth c T h cells slots) {x : Int32} {o : Int} {pc' : Nat} (hd : decode B pc = .ok (.ifCond .ne o, 3)) (hp : 0 ≤ (pc : Int) + o ∧ ((pc : Int) + o).toNat = pc') (g1 : ¬ x = 0 → OG p e below s n0 rc rs Q (T.setTop (mkF m pc' Ls st))) (g2 : x = 0 → OG p e below s n0 rc rs Q (T.setTop (mkF m (pc + 3) Ls st))) : OG p e below s n0 rc rs Q (T.setTop (mkF m pc Ls (.int x :: st))) :=
  if hq : x = 0 then OG.if_ne_f X hd hq (g2 hq) else OG.if_ne_t X hd hp hq (g1 hq)
theorem OG.ifl_ne_t (X : OS B mL own nm rt Z n0 p l e R s m args below meth c T h cells slots) {x y : Int64} {o : Int} {pc' : Nat} (hd : decode B pc = .ok (.ifCond .ne o, 3)) (hp : 0 ≤ (pc : Int) + o ∧ ((pc : Int) + o).toNat = pc') (hq : ¬ x = y) (g : OG p e below s n0 rc rs Q (T.setTop (mkF m pc' Ls st))) : OG p e below s n0 rc rs Q (T.setTop (mkF m pc Ls (.int (lcmpW x y) :: st))) := by
  obtain ⟨⟨hx, hby, -⟩, -, locs, -, Y⟩ := X
  exact OG.pre (fun _ q => XS.ifYes Y.here hx rfl (pc0 := pc) rfl (hb hby hd) rfl ((if0 _ _).trans (feq (fun q => hq ((lw_eq x y).mp q))).2) hp.1 hp.2 q) g
theorem OG.ifl_ne_f (X : OS B mL own nm rt Z n0 p l e R s m args below meth c T h cells slots) {x y : Int64} {o : Int} (hd : decode B pc = .ok (.ifCond .ne o, 3)) (hq : x = y) (g : OG p e below s n0 rc rs Q (T.setTop (mkF m (pc + 3) Ls st))) : OG p e below s n0 rc rs Q (T.setTop (mkF m pc Ls (.int (lcmpW x y) :: st))) := by
  obtain ⟨⟨hx, hby, -⟩, -, locs, -, Y⟩ := X
  exact OG.pre (fun _ q => XS.ifNo Y.here hx rfl (hb hby hd) rfl ((if0 _ _).trans (teq ((lw_eq x y).mpr hq)).2) q) g
theorem OG.ifl_ne (X : OS B mL own nm rt Z n0 p l e R s m args below meth c T h cells slots) {x y : Int64} {o : Int} {pc' : Nat} (hd : decode B pc = .ok (.ifCond .ne o, 3)) (hp : 0 ≤ (pc : Int) + o ∧ ((pc : Int) + o).toNat = pc') (g1 : ¬ x = y → OG p e below s n0 rc rs Q (T.setTop (mkF m pc' Ls st))) (g2 : x = y → OG p e below s n0 rc rs Q (T.setTop (mkF m (pc + 3) Ls st))) : OG p e below s n0 rc rs Q (T.setTop (mkF m pc Ls (.int (lcmpW x y) :: st))) :=
  if hq : x = y then OG.ifl_ne_f X hd hq (g2 hq) else OG.ifl_ne_t X hd hp hq (g1 hq)
theorem OG.ifnullYes (X : OS B mL own nm rt Z n0 p l e R s m args below meth c T h cells slots)  {o : Int} {pc' : Nat} (hd : decode B pc = .ok (.ifnull o, 3)) (hp : 0 ≤ (pc : Int) + o ∧ ((pc : Int) + o).toNat = pc') (g : OG p e below s n0 rc rs Q (T.setTop (mkF m pc' Ls st))) : OG p e below s n0 rc rs Q (T.setTop (mkF m pc Ls (.null :: st))) := by
  obtain ⟨⟨hx, hby, -⟩, -, locs, -, Y⟩ := X
  exact OG.pre (fun _ q => XS.ifnullYes Y.here hx rfl (pc0 := pc) rfl (hb hby hd) rfl hp.1 hp.2 q) g
theorem OG.ifnonnullYes (X : OS B mL own nm rt Z n0 p l e R s m args below meth c T h cells slots) {a : Addr} {o : Int} {pc' : Nat} (hd : decode B pc = .ok (.ifnonnull o, 3)) (hp : 0 ≤ (pc : Int) + o ∧ ((pc : Int) + o).toNat = pc') (g : OG p e below s n0 rc rs Q (T.setTop (mkF m pc' Ls st))) : OG p e below s n0 rc rs Q (T.setTop (mkF m pc Ls (.ref a :: st))) := by
  obtain ⟨⟨hx, hby, -⟩, -, locs, -, Y⟩ := X
  exact OG.pre (fun _ q => XS.ifnonnullYes Y.here hx rfl (pc0 := pc) rfl (hb hby hd) rfl hp.1 hp.2 q) g
theorem OG.ifnullNo (X : OS B mL own nm rt Z n0 p l e R s m args below meth c T h cells slots) {a : Addr} {o : Int} (hd : decode B pc = .ok (.ifnull o, 3)) (g : OG p e below s n0 rc rs Q (T.setTop (mkF m (pc + 3) Ls st))) : OG p e below s n0 rc rs Q (T.setTop (mkF m pc Ls (.ref a :: st))) := by
  obtain ⟨⟨hx, hby, -⟩, -, locs, -, Y⟩ := X
  exact OG.pre (fun _ q => XS.ifnullNo Y.here hx rfl (hb hby hd) rfl q) g
theorem OG.ifnonnullNo (X : OS B mL own nm rt Z n0 p l e R s m args below meth c T h cells slots)  {o : Int} (hd : decode B pc = .ok (.ifnonnull o, 3)) (g : OG p e below s n0 rc rs Q (T.setTop (mkF m (pc + 3) Ls st))) : OG p e below s n0 rc rs Q (T.setTop (mkF m pc Ls (.null :: st))) := by
  obtain ⟨⟨hx, hby, -⟩, -, locs, -, Y⟩ := X
  exact OG.pre (fun _ q => XS.ifnonnullNo Y.here hx rfl (hb hby hd) rfl q) g
theorem OG.acmp_eq_t (X : OS B mL own nm rt Z n0 p l e R s m args below meth c T h cells slots) {x y : Addr} {o : Int} {pc' : Nat} (hd : decode B pc = .ok (.if_acmp .eq o, 3)) (hp : 0 ≤ (pc : Int) + o ∧ ((pc : Int) + o).toNat = pc') (hq : x = y) (g : OG p e below s n0 rc rs Q (T.setTop (mkF m pc' Ls st))) : OG p e below s n0 rc rs Q (T.setTop (mkF m pc Ls (.ref y :: .ref x :: st))) := by
  obtain ⟨⟨hx, hby, -⟩, -, locs, -, Y⟩ := X
  exact OG.pre (fun _ q => RoadKit.acmp Y hx rfl rfl rfl (pc0 := pc) (pc' := pc') (same := true) rfl (hb hby hd) rfl (decide_eq_true (congrArg Value.ref hq)) hp.1 (by simp [acV, hp.2]) q) g
theorem OG.acmp_eq_f (X : OS B mL own nm rt Z n0 p l e R s m args below meth c T h cells slots) {x y : Addr} {o : Int} {pc' : Nat} (hd : decode B pc = .ok (.if_acmp .eq o, 3)) (hp : 0 ≤ (pc : Int) + o ∧ ((pc : Int) + o).toNat = pc') (hq : ¬ x = y) (g : OG p e below s n0 rc rs Q (T.setTop (mkF m (pc + 3) Ls st))) : OG p e below s n0 rc rs Q (T.setTop (mkF m pc Ls (.ref y :: .ref x :: st))) := by
  obtain ⟨⟨hx, hby, -⟩, -, locs, -, Y⟩ := X
  exact OG.pre (fun _ q => RoadKit.acmp Y hx rfl rfl rfl (pc0 := pc) (pc' := (pc + 3)) (same := false) rfl (hb hby hd) rfl (decide_eq_false fun q => hq (Value.ref.inj q)) hp.1 (by simp [acV]) q) g
theorem OG.acmp_ne_f (X : OS B mL own nm rt Z n0 p l e R s m args below meth c T h cells slots) {x y : Addr} {o : Int} {pc' : Nat} (hd : decode B pc = .ok (.if_acmp .ne o, 3)) (hp : 0 ≤ (pc : Int) + o ∧ ((pc : Int) + o).toNat = pc') (hq : x = y) (g : OG p e below s n0 rc rs Q (T.setTop (mkF m (pc + 3) Ls st))) : OG p e below s n0 rc rs Q (T.setTop (mkF m pc Ls (.ref y :: .ref x :: st))) := by
  obtain ⟨⟨hx, hby, -⟩, -, locs, -, Y⟩ := X
  exact OG.pre (fun _ q => RoadKit.acmp Y hx rfl rfl rfl (pc0 := pc) (pc' := (pc + 3)) (same := true) rfl (hb hby hd) rfl (decide_eq_true (congrArg Value.ref hq)) hp.1 (by simp [acV]) q) g
theorem OG.acmp_ne_t (X : OS B mL own nm rt Z n0 p l e R s m args below meth c T h cells slots) {x y : Addr} {o : Int} {pc' : Nat} (hd : decode B pc = .ok (.if_acmp .ne o, 3)) (hp : 0 ≤ (pc : Int) + o ∧ ((pc : Int) + o).toNat = pc') (hq : ¬ x = y) (g : OG p e below s n0 rc rs Q (T.setTop (mkF m pc' Ls st))) : OG p e below s n0 rc rs Q (T.setTop (mkF m pc Ls (.ref y :: .ref x :: st))) := by
  obtain ⟨⟨hx, hby, -⟩, -, locs, -, Y⟩ := X
  exact OG.pre (fun _ q => RoadKit.acmp Y hx rfl rfl rfl (pc0 := pc) (pc' := pc') (same := false) rfl (hb hby hd) rfl (decide_eq_false fun q => hq (Value.ref.inj q)) hp.1 (by simp [acV, hp.2]) q) g
theorem OG.acmp_eq (X : OS B mL own nm rt Z n0 p l e R s m args below meth c T h cells slots) {x y : Addr} {o : Int} {pc' : Nat} (hd : decode B pc = .ok (.if_acmp .eq o, 3)) (hp : 0 ≤ (pc : Int) + o ∧ ((pc : Int) + o).toNat = pc') (g1 : x = y → OG p e below s n0 rc rs Q (T.setTop (mkF m pc' Ls st))) (g2 : ¬ x = y → OG p e below s n0 rc rs Q (T.setTop (mkF m (pc + 3) Ls st))) : OG p e below s n0 rc rs Q (T.setTop (mkF m pc Ls (.ref y :: .ref x :: st))) :=
  if hq : x = y then OG.acmp_eq_t X hd hp hq (g1 hq) else OG.acmp_eq_f X hd hp hq (g2 hq)
theorem OG.acmp_ne (X : OS B mL own nm rt Z n0 p l e R s m args below meth c T h cells slots) {x y : Addr} {o : Int} {pc' : Nat} (hd : decode B pc = .ok (.if_acmp .ne o, 3)) (hp : 0 ≤ (pc : Int) + o ∧ ((pc : Int) + o).toNat = pc') (g1 : x = y → OG p e below s n0 rc rs Q (T.setTop (mkF m (pc + 3) Ls st))) (g2 : ¬ x = y → OG p e below s n0 rc rs Q (T.setTop (mkF m pc' Ls st))) : OG p e below s n0 rc rs Q (T.setTop (mkF m pc Ls (.ref y :: .ref x :: st))) :=
  if hq : x = y then OG.acmp_ne_f X hd hp hq (g1 hq) else OG.acmp_ne_t X hd hp hq (g2 hq)
theorem OG.retI {z : Int32} (X : OS B mL own nm (some .int) Z n0 p l e R s m args below meth c T h cells slots) (hd : decode B pc = .ok (.ireturn, 1))  (hc : cells ≤ rc) (hs : slots ≤ rs) (hQ : Q (some (.int z)) h) : OG p e below s n0 rc rs Q (T.setTop (mkF m pc Ls (.int z :: st))) := by
  obtain ⟨⟨hx, hby, -, -, -, hrt, hlk, -⟩, eT, locs, N, Y⟩ := X
  obtain ⟨fs, hr, hrun, hended, hW, hsame⟩ := Y.leave (v := (some (.int z))) (fun q => by first | rfl | (rw [hrt] at q; cases q)) hlk
  refine ⟨_, _, ?_, hrun, hended, _, _, rfl, ⟨?_, N⟩, ⟨_, rfl⟩, hW, hsame.mono hc hs⟩
  · exact Jvm.RoadKit.retI Y hx hrt (hb hby hd) hr
  · show Q _ T.heap
    rw [eT]; exact hQ
theorem OG.retN {z : Int32} {t : FieldType} (X : OS B mL own nm (some t) Z n0 p l e R s m args below meth c T h cells slots) (hd : decode B pc = .ok (.ireturn, 1)) (ht : t = .boolean ∨ t = .byte ∨ t = .char ∨ t = .short) (hc : cells ≤ rc) (hs : slots ≤ rs) (hQ : Q (some (.int (nar t z))) h) : OG p e below s n0 rc rs Q (T.setTop (mkF m pc Ls (.int z :: st))) := by
  obtain ⟨⟨hx, hby, -, -, -, hrt, hlk, -⟩, eT, locs, N, Y⟩ := X
  obtain ⟨fs, hr, hrun, hended, hW, hsame⟩ := Y.leave (v := (some (.int (nar t z)))) (fun q => by first | rfl | (rw [hrt] at q; cases q)) hlk
  refine ⟨_, _, ?_, hrun, hended, _, _, rfl, ⟨?_, N⟩, ⟨_, rfl⟩, hW, hsame.mono hc hs⟩
  · exact Jvm.RoadKit.retN Y hx (t := t) hrt ht (hb hby hd) hr
  · show Q _ T.heap
    rw [eT]; exact hQ
theorem OG.retJ {z : Int64} (X : OS B mL own nm (some .long) Z n0 p l e R s m args below meth c T h cells slots) (hd : decode B pc = .ok (.lreturn, 1))  (hc : cells ≤ rc) (hs : slots ≤ rs) (hQ : Q (some (.long z)) h) : OG p e below s n0 rc rs Q (T.setTop (mkF m pc Ls (.long z :: st))) := by
  obtain ⟨⟨hx, hby, -, -, -, hrt, hlk, -⟩, eT, locs, N, Y⟩ := X
  obtain ⟨fs, hr, hrun, hended, hW, hsame⟩ := Y.leave (v := (some (.long z))) (fun q => by first | rfl | (rw [hrt] at q; cases q)) hlk
  refine ⟨_, _, ?_, hrun, hended, _, _, rfl, ⟨?_, N⟩, ⟨_, rfl⟩, hW, hsame.mono hc hs⟩
  · exact Jvm.RoadKit.retOut (t := .long) Y hx hrt rfl (Or.inr (Or.inl ⟨rfl, rfl, _, rfl⟩)) (hb hby hd) hr
  · show Q _ T.heap
    rw [eT]; exact hQ
theorem OG.retD {z : UInt64} (X : OS B mL own nm (some .double) Z n0 p l e R s m args below meth c T h cells slots) (hd : decode B pc = .ok (.dreturn, 1))  (hc : cells ≤ rc) (hs : slots ≤ rs) (hQ : Q (some (.double z)) h) : OG p e below s n0 rc rs Q (T.setTop (mkF m pc Ls (.double z :: st))) := by
  obtain ⟨⟨hx, hby, -, -, -, hrt, hlk, -⟩, eT, locs, N, Y⟩ := X
  obtain ⟨fs, hr, hrun, hended, hW, hsame⟩ := Y.leave (v := (some (.double z))) (fun q => by first | rfl | (rw [hrt] at q; cases q)) hlk
  refine ⟨_, _, ?_, hrun, hended, _, _, rfl, ⟨?_, N⟩, ⟨_, rfl⟩, hW, hsame.mono hc hs⟩
  · exact Jvm.RoadKit.retOut (t := .double) Y hx hrt rfl (Or.inr (Or.inr (Or.inl ⟨rfl, rfl, _, rfl⟩))) (hb hby hd) hr
  · show Q _ T.heap
    rw [eT]; exact hQ
theorem OG.retA {w : Value} {t : FieldType} (X : OS B mL own nm (some t) Z n0 p l e R s m args below meth c T h cells slots) (hd : decode B pc = .ok (.areturn, 1)) (ht : t.isReference = true) (hw : w.isRef = true) (hc : cells ≤ rc) (hs : slots ≤ rs) (hQ : Q (some w) h) : OG p e below s n0 rc rs Q (T.setTop (mkF m pc Ls (w :: st))) := by
  obtain ⟨⟨hx, hby, -, -, -, hrt, hlk, -⟩, eT, locs, N, Y⟩ := X
  obtain ⟨fs, hr, hrun, hended, hW, hsame⟩ := Y.leave (v := (some w)) (fun q => by first | rfl | (rw [hrt] at q; cases q)) hlk
  refine ⟨_, _, ?_, hrun, hended, _, _, rfl, ⟨?_, N⟩, ⟨_, rfl⟩, hW, hsame.mono hc hs⟩
  · exact Jvm.RoadKit.retOut (t := t) Y hx hrt (by rcases ref_cases hw with rfl | ⟨z, rfl⟩ <;> cases t <;> rfl) (Or.inr (Or.inr (Or.inr (Or.inr ⟨rfl, ht, hw⟩)))) (hb hby hd) hr
  · show Q _ T.heap
    rw [eT]; exact hQ
theorem OG.retV  (X : OS B mL own nm none Z n0 p l e R s m args below meth c T h cells slots) (hd : decode B pc = .ok (.return_, 1))  (hc : cells ≤ rc) (hs : slots ≤ rs) (hQ : Q none h) : OG p e below s n0 rc rs Q (T.setTop (mkF m pc Ls [])) := by
  obtain ⟨⟨hx, hby, -, -, -, hrt, hlk, -⟩, eT, locs, N, Y⟩ := X
  obtain ⟨fs, hr, hrun, hended, hW, hsame⟩ := Y.leave (v := none) (fun q => by first | rfl | (rw [hrt] at q; cases q)) hlk
  refine ⟨_, _, ?_, hrun, hended, _, _, rfl, ⟨?_, N⟩, ⟨_, rfl⟩, hW, hsame.mono hc hs⟩
  · exact Y.returnOut hx hrt (hb hby hd) hr
  · show Q _ T.heap
    rw [eT]; exact hQ
theorem OG.ldcInt (X : OS B mL own nm rt Z n0 p l e R s m args below meth c T h cells slots) {index : Nat} {v : Int32} (w : (Cond.constant own index v).before a0 Z = true) (hd : decode B pc = .ok (.ldc index, 2)) (g : OG p e below s n0 rc rs Q (T.setTop (mkF m (pc + 2) Ls (.int v :: st)))) : OG p e below s n0 rc rs Q (T.setTop (mkF m pc Ls st)) := by
  obtain ⟨⟨hx, hby, -, hown, -, -, -, hZ⟩, -, locs, -, Y⟩ := X
  exact OG.pre (fun _ k => Y.ldcInt hx hown (mvT hZ w) (g := mkF m pc Ls st) rfl (hb hby hd) _ k) g
theorem OG.ldcwInt (X : OS B mL own nm rt Z n0 p l e R s m args below meth c T h cells slots) {index : Nat} {v : Int32} (w : (Cond.constant own index v).before a0 Z = true) (hd : decode B pc = .ok (.ldc_w index, 3)) (g : OG p e below s n0 rc rs Q (T.setTop (mkF m (pc + 3) Ls (.int v :: st)))) : OG p e below s n0 rc rs Q (T.setTop (mkF m pc Ls st)) := by
  obtain ⟨⟨hx, hby, -, hown, -, -, -, hZ⟩, -, locs, -, Y⟩ := X
  exact OG.pre (fun _ k => Y.ldcwInt hx hown (mvT hZ w) (g := mkF m pc Ls st) rfl (hb hby hd) _ k) g
theorem OG.ldc2Long (X : OS B mL own nm rt Z n0 p l e R s m args below meth c T h cells slots) {index : Nat} {v : Int64} (w : (Cond.constantLong own index v).before a0 Z = true) (hd : decode B pc = .ok (.ldc2_w index, 3)) (g : OG p e below s n0 rc rs Q (T.setTop (mkF m (pc + 3) Ls (.long v :: st)))) : OG p e below s n0 rc rs Q (T.setTop (mkF m pc Ls st)) := by
  obtain ⟨⟨hx, hby, -, hown, -, -, -, hZ⟩, -, locs, -, Y⟩ := X
  exact OG.pre (fun _ k => Y.ldc2Long hx hown (mvT hZ w) (g := mkF m pc Ls st) rfl (hb hby hd) _ k) g
theorem OG.getF (X : OS B mL own nm rt Z n0 p l e R s m args below meth c T h cells slots) {R0 O n d host : String} {index : Nat} (w : (Cond.fieldLink own index R0 n d).before a0 Z = true ∨ (Cond.fieldLinkNest own index R0 n d host).before a0 Z = true) (via : Via Z R0 O n d) {a : Addr} {v : Value} (F : Fld Z h a O n d v) (hd : decode B pc = .ok (.getfield index, 3)) (g : ∀ T', OS B mL own nm rt Z n0 p l e R s m args below meth c T' h cells slots → OG p e below s n0 rc rs Q (T'.setTop (mkF m (pc + 3) Ls (v :: st)))) : OG p e below s n0 rc rs Q (T.setTop (mkF m pc Ls (.ref a :: st))) := by
  obtain ⟨h0, eT, locs, N, Y⟩ := X
  have h0' := h0
  obtain ⟨hx, hby, -, hown, -, -, -, hZ⟩ := h0'
  obtain ⟨T', Y', e', stp⟩ := RoadKit.getF Y hx hZ hown w via eT F (g := mkF m pc Ls (.ref a :: st)) rfl rfl (hb hby hd)
  exact OG.pre stp (g T' ⟨h0, e', locs, N, Y'⟩)
theorem OG.getS (X : OS B mL own nm rt Z n0 p l e R s m args below meth c T h cells slots) {R0 O n d host : String} {index : Nat} (w : (Cond.fieldLink own index R0 n d).before a0 Z = true ∨ (Cond.fieldLinkNest own index R0 n d host).before a0 Z = true) (via : Via Z R0 O n d) {v : Value} (F : Sta Z h O n d v) (hd : decode B pc = .ok (.getstatic index, 3)) (g : ∀ T', OS B mL own nm rt Z n0 p l e R s m args below meth c T' h cells slots → OG p e below s n0 rc rs Q (T'.setTop (mkF m (pc + 3) Ls (v :: st)))) : OG p e below s n0 rc rs Q (T.setTop (mkF m pc Ls st)) := by
  obtain ⟨h0, eT, locs, N, Y⟩ := X
  have h0' := h0
  obtain ⟨hx, hby, -, hown, -, -, -, hZ⟩ := h0'
  obtain ⟨T', Y', e', stp⟩ := RoadKit.getS2 Y hx hZ hown w via eT F (g := mkF m pc Ls st) rfl (hb hby hd)
  exact OG.pre stp (g T' ⟨h0, e', locs, N, Y'⟩)
theorem OG.putF (X : OS B mL own nm rt Z n0 p l e R s m args below meth c T h cells slots) {R0 O n d host C : String} {index kk : Nat} {ty : FieldType} (w : (Cond.fieldLink own index R0 n d).before a0 Z = true ∨ (Cond.fieldLinkNest own index R0 n d host).before a0 Z = true) (via : Via Z R0 O n d) {a : Addr} {v old : Value} (F : Fld Z h a O n d old) (E : Exa Z h a C) (L : (Cond.lays C O n d).before a0 Z = true ∨ ((Cond.laysFinal C O n d).before a0 Z = true ∧ own = O ∧ nm = "<init>")) (wi : (Cond.instantiable C kk).before a0 Z = true) (hty : parseFieldDescriptor d = some ty) (hn : narrow ty v = v) (hf : fits ty v = true) (hd : decode B pc = .ok (.putfield index, 3)) (ge : n0 ≤ a) (g : ∀ T' h', OS B mL own nm rt Z n0 p l e R s m args below meth c T' h' cells slots → Wr h h' a (slotOf Z O n d) v → OG p e below s n0 rc rs Q (T'.setTop (mkF m (pc + 3) Ls st))) : OG p e below s n0 rc rs Q (T.setTop (mkF m pc Ls (v :: .ref a :: st))) := by
  obtain ⟨h0, eT, locs, N, Y⟩ := X
  have h0' := h0
  obtain ⟨hx, hby, -, hown, hnm, -, -, hZ⟩ := h0'
  obtain ⟨T', h', Y', e', W, stp⟩ := RoadKit.putF Y hx hZ hown w via eT F E (L.imp id fun q => ⟨q.1, q.2.1, hnm.trans q.2.2⟩) wi hty hn hf (g := mkF m pc Ls (v :: .ref a :: st)) rfl rfl (hb hby hd)
  exact OG.pre stp (g T' h' ⟨h0, e', _, Fr.snoc Y' N ge, Y'⟩ W)
theorem OG.putFN (X : OS B mL own nm rt Z n0 p l e R s m args below meth c T h cells slots) {R0 O n d C : String} {index kk : Nat} {ty : FieldType} (w : (Cond.fieldLink own index R0 n d).before a0 Z = true) (via : Via Z R0 O n d) {a : Addr} {v v' old : Value} (F : Fld Z h a O n d old) (E : Exa Z h a C) (L : (Cond.lays C O n d).before a0 Z = true ∨ ((Cond.laysFinal C O n d).before a0 Z = true ∧ own = O ∧ nm = "<init>")) (wi : (Cond.instantiable C kk).before a0 Z = true) (hty : parseFieldDescriptor d = some ty) (hn : narrow ty v = v') (hf : fits ty v' = true) (hd : decode B pc = .ok (.putfield index, 3)) (ge : n0 ≤ a) (g : ∀ T' h', OS B mL own nm rt Z n0 p l e R s m args below meth c T' h' cells slots → Wr h h' a (slotOf Z O n d) v' → OG p e below s n0 rc rs Q (T'.setTop (mkF m (pc + 3) Ls st))) : OG p e below s n0 rc rs Q (T.setTop (mkF m pc Ls (v :: .ref a :: st))) := by
  obtain ⟨h0, eT, locs, N, Y⟩ := X
  have h0' := h0
  obtain ⟨hx, hby, -, hown, hnm, -, -, hZ⟩ := h0'
  obtain ⟨T', h', Y', e', W, stp⟩ := RoadKit.putFN Y hx hZ hown w via eT F E (L.imp id fun q => ⟨q.1, q.2.1, hnm.trans q.2.2⟩) wi hty hn hf (g := mkF m pc Ls (v :: .ref a :: st)) rfl rfl (hb hby hd)
  exact OG.pre stp (g T' h' ⟨h0, e', _, Fr.snoc Y' N ge, Y'⟩ W)
theorem OG.newO (X : OS B mL own nm rt Z n0 p l e R s m args below meth c T h cells slots) {C : String} {index n : Nat} (w : (Cond.classLink own index C).before a0 Z = true) (wi : (Cond.instantiable C n).before a0 Z = true) (wz : (Cond.initialized C).before a0 Z = true) (hd : decode B pc = .ok (.new index, 3)) (hc : cells + 1 ≤ R.cells) (hl : slots + n ≤ R.slots) (g : ∀ T' h' a, a = h.size → OS B mL own nm rt Z n0 p l e R s m args below meth c T' h' (cells + 1) (slots + n) → Ext h h' → Exa Z h' a C → (∀ {O nm d : String} {ty : FieldType}, Laid Z a0 C O nm d → parseFieldDescriptor d = some ty → Fld Z h' a O nm d (defaultValue ty)) → OG p e below s n0 rc rs Q (T'.setTop (mkF m (pc + 3) Ls (.ref a :: st)))) : OG p e below s n0 rc rs Q (T.setTop (mkF m pc Ls st)) := by
  obtain ⟨h0, eT, locs, N, Y⟩ := X
  have h0' := h0
  obtain ⟨hx, hby, -, hown, hnm, -, -, hZ⟩ := h0'
  obtain ⟨T', h', Y', e', E', A', D', -, stp⟩ := RoadKit.newO Y hx hZ hown w wi wz eT (g := mkF m pc Ls st) rfl (hb hby hd) hc hl
  exact OG.pre stp (g T' h' _ rfl ⟨h0, e', _, N, Y'⟩ E' A' D')
theorem OG.newP (X : OS B mL own nm rt Z n0 p l e R s m args below meth c T h cells slots) {aty : ArrayType} (w : (Cond.arrayClass (newarray.typeOf aty)).before a0 Z = true) {n : Int32} (hd : decode B pc = .ok (.newarray aty, 2)) (hn : ¬ n < 0) {cap : Nat} (hcap : n.toNatClampNeg ≤ cap) (hb8 : cap * 8 ≤ 536870912) (hc : cells + 1 ≤ R.cells) (hl : slots + cap ≤ R.slots) (g : ∀ T' h' a, a = h.size → OS B mL own nm rt Z n0 p l e R s m args below meth c T' h' (cells + 1) (slots + cap) → Ext h h' → (∃ cA, Arr Z h' a (newA cA (newarray.typeOf aty) n) (newarray.typeOf aty)) → OG p e below s n0 rc rs Q (T'.setTop (mkF m (pc + 2) Ls (.ref a :: st)))) : OG p e below s n0 rc rs Q (T.setTop (mkF m pc Ls (.int n :: st))) := by
  obtain ⟨h0, eT, locs, N, Y⟩ := X
  have h0' := h0
  obtain ⟨hx, hby, -, hown, hnm, -, -, hZ⟩ := h0'
  obtain ⟨T', h', cA, Y', e', E', A', stp⟩ := RoadKit.newP Y hx hZ w eT (g := mkF m pc Ls (.int n :: st)) rfl (hb hby hd) rfl hn hcap hb8 hc hl
  exact OG.pre stp (g T' h' _ rfl ⟨h0, e', _, N, Y'⟩ E' ⟨cA, A'⟩)
/-- an array of ints, bytes, chars, booleans: its length and what it holds -/
def Ia (Z : State) (h : Heap) (a : Addr) (ty : FieldType) (n : Nat) (f : Nat → Int32) : Prop := ∃ cl : Cell, Arr Z h a cl ty ∧ cl.slots.size = n ∧ n < 2 ^ 31 ∧ ∀ i, i < n → cl.slots[i]? = some (.int (f i))
variable {a b : Addr} {h' : Heap} {ty : FieldType} {n : Nat} {f : Nat → Int32} {sl : Nat} {v : Value} {wl : List Addr}
theorem Ia.lt (F : Ia Z h a ty n f) : a < h.size := by obtain ⟨c, A, -⟩ := F; exact A.lt
theorem Ia.ext (F : Ia Z h a ty n f) (E : Ext h h') : Ia Z h' a ty n f := by obtain ⟨c, A, r⟩ := F; exact ⟨c, A.ext E, r⟩
theorem Ia.other (F : Ia Z h b ty n f) (W : Wr h h' a sl v) (q : b ≠ a) : Ia Z h' b ty n f := by obtain ⟨c, A, r⟩ := F; exact ⟨c, A.other W q, r⟩
theorem Ia.keep (F : Ia Z h a ty n f) (K : Keep h h' wl) (q : a ∉ wl) : Ia Z h' a ty n f := by obtain ⟨c, A, r⟩ := F; exact ⟨c, ⟨K.2.1 a c A.1 q, A.2⟩, r⟩
theorem Ia.congr {f' : Nat → Int32} (F : Ia Z h a ty n f) (q : ∀ i, i < n → f i = f' i) : Ia Z h a ty n f' := by obtain ⟨c, A, r1, r2, r3⟩ := F; exact ⟨c, A, r1, r2, fun i hi => by rw [← q i hi]; exact r3 i hi⟩
theorem Ia.len (F : Ia Z h a ty n f) : n < 2 ^ 31 := by obtain ⟨c, A, r1, r2, r3⟩ := F; exact r2
theorem Ia.new {cA : ClassId} {k : Int32} (A : Arr Z h a (newA cA ty k) ty) (q : ¬ k < 0) (hk : k.toNatClampNeg = n) (hty : defaultValue ty = .int 0) : Ia Z h a ty n (fun _ => 0) := by
  subst hk
  refine ⟨_, A, sz_new _ _ _, ?_, fun i hi => ?_⟩
  · have := k.toInt_lt; simp only [Int32.toNatClampNeg]; omega
  · simp [newA, hi, hty]
theorem Ia.set {j : Nat} {x : Int32} (F : Ia Z h a ty n f) (W : Wr h h' a j (.int x)) : Ia Z h' a ty n (fun i => if i = j then x else f i) := by
  obtain ⟨c, A, r1, r2, r3⟩ := F
  refine ⟨_, A.same W, by rw [sz_set]; exact r1, r2, fun i hi => ?_⟩
  by_cases q : i = j
  · subst q; simp [Cell.setSlot, r1, hi]
  · have := r3 i hi
    simp only [Cell.setSlot, if_neg q]
    rw [Array.getElem?_setIfInBounds_ne (fun u => q u.symm)]; exact this
theorem idx32 {j : Int32} {n : Nat} (h1 : 0 ≤ j.toInt) (h2 : j.toInt < n) : ¬ (j < 0 ∨ n ≤ j.toNatClampNeg) := by
  have e0 : (0 : Int32).toInt = 0 := rfl
  simp only [Int32.lt_iff_toInt_lt, Int32.toNatClampNeg, e0]; omega
theorem len32 {n : Nat} (h : n < 2 ^ 31) : n.toInt32.toInt = n := Int32.toInt_ofNat_small h
theorem OG.iaload (X : OS B mL own nm rt Z n0 p l e R s m args below meth c T h cells slots) {a : Addr} {n : Nat} {f : Nat → Int32} (F : Ia Z h a .int n f) {j : Int32} (hj : 0 ≤ j.toInt ∧ j.toInt < n) (hd : decode B pc = .ok (.iaload, 1)) (g : OG p e below s n0 rc rs Q (T.setTop (mkF m (pc + 1) Ls (.int (f j.toInt.toNat) :: st)))) : OG p e below s n0 rc rs Q (T.setTop (mkF m pc Ls (.int j :: .ref a :: st))) := by
  obtain ⟨⟨hx, hby, -, -, -, -, -, hZ⟩, eT, locs, -, Y⟩ := X
  obtain ⟨cl, A, r1, r2, r3⟩ := F
  have hi := idx32 hj.1 hj.2
  have hq : j.toInt.toNat < n := by omega
  exact OG.pre (fun _ k => Y.iaload hx (j := j) (v := .int (f j.toInt.toNat)) (by rw [eT]; exact A.1) (State.isArrayOf_alike hZ.alike A.2.1) A.2.2 (by rw [r1]; exact hi) (r3 _ hq) (g := mkF m pc Ls (.int j :: .ref a :: st)) rfl rfl (hb hby hd) _ k) g
theorem OG.baload (X : OS B mL own nm rt Z n0 p l e R s m args below meth c T h cells slots) {a : Addr} {n : Nat} {f : Nat → Int32} (F : Ia Z h a .byte n f) {j : Int32} (hj : 0 ≤ j.toInt ∧ j.toInt < n) (hd : decode B pc = .ok (.baload, 1)) (g : OG p e below s n0 rc rs Q (T.setTop (mkF m (pc + 1) Ls (.int (f j.toInt.toNat) :: st)))) : OG p e below s n0 rc rs Q (T.setTop (mkF m pc Ls (.int j :: .ref a :: st))) := by
  obtain ⟨⟨hx, hby, -, -, -, -, -, hZ⟩, eT, locs, -, Y⟩ := X
  obtain ⟨cl, A, r1, r2, r3⟩ := F
  have hi := idx32 hj.1 hj.2
  have hq : j.toInt.toNat < n := by omega
  exact OG.pre (fun _ k => Y.baloadBytes hx (j := j) (v := .int (f j.toInt.toNat)) (by rw [eT]; exact A.1) (State.isArrayOf_alike hZ.alike A.2.1) A.2.2 (by rw [r1]; exact hi) (r3 _ hq) (g := mkF m pc Ls (.int j :: .ref a :: st)) rfl rfl (hb hby hd) _ k) g
theorem OG.zaload (X : OS B mL own nm rt Z n0 p l e R s m args below meth c T h cells slots) {a : Addr} {n : Nat} {f : Nat → Int32} (F : Ia Z h a .boolean n f) {j : Int32} (hj : 0 ≤ j.toInt ∧ j.toInt < n) (hd : decode B pc = .ok (.baload, 1)) (g : OG p e below s n0 rc rs Q (T.setTop (mkF m (pc + 1) Ls (.int (f j.toInt.toNat) :: st)))) : OG p e below s n0 rc rs Q (T.setTop (mkF m pc Ls (.int j :: .ref a :: st))) := by
  obtain ⟨⟨hx, hby, -, -, -, -, -, hZ⟩, eT, locs, -, Y⟩ := X
  obtain ⟨cl, A, r1, r2, r3⟩ := F
  have hi := idx32 hj.1 hj.2
  have hq : j.toInt.toNat < n := by omega
  exact OG.pre (fun _ k => Y.baloadBooleans hx (j := j) (v := .int (f j.toInt.toNat)) (by rw [eT]; exact A.1) (State.isArrayOf_alike hZ.alike A.2.1) A.2.2 (by rw [r1]; exact hi) (r3 _ hq) (g := mkF m pc Ls (.int j :: .ref a :: st)) rfl rfl (hb hby hd) _ k) g
theorem OG.caload (X : OS B mL own nm rt Z n0 p l e R s m args below meth c T h cells slots) {a : Addr} {n : Nat} {f : Nat → Int32} (F : Ia Z h a .char n f) {j : Int32} (hj : 0 ≤ j.toInt ∧ j.toInt < n) (hd : decode B pc = .ok (.caload, 1)) (g : OG p e below s n0 rc rs Q (T.setTop (mkF m (pc + 1) Ls (.int (f j.toInt.toNat) :: st)))) : OG p e below s n0 rc rs Q (T.setTop (mkF m pc Ls (.int j :: .ref a :: st))) := by
  obtain ⟨⟨hx, hby, -, -, -, -, -, hZ⟩, eT, locs, -, Y⟩ := X
  obtain ⟨cl, A, r1, r2, r3⟩ := F
  have hi := idx32 hj.1 hj.2
  have hq : j.toInt.toNat < n := by omega
  exact OG.pre (fun _ k => Y.caload hx (j := j) (v := .int (f j.toInt.toNat)) (by rw [eT]; exact A.1) (State.isArrayOf_alike hZ.alike A.2.1) A.2.2 (by rw [r1]; exact hi) (r3 _ hq) (g := mkF m pc Ls (.int j :: .ref a :: st)) rfl rfl (hb hby hd) _ k) g
theorem OG.saload (X : OS B mL own nm rt Z n0 p l e R s m args below meth c T h cells slots) {a : Addr} {n : Nat} {f : Nat → Int32} (F : Ia Z h a .short n f) {j : Int32} (hj : 0 ≤ j.toInt ∧ j.toInt < n) (hd : decode B pc = .ok (.saload, 1)) (g : OG p e below s n0 rc rs Q (T.setTop (mkF m (pc + 1) Ls (.int (f j.toInt.toNat) :: st)))) : OG p e below s n0 rc rs Q (T.setTop (mkF m pc Ls (.int j :: .ref a :: st))) := by
  obtain ⟨⟨hx, hby, -, -, -, -, -, hZ⟩, eT, locs, -, Y⟩ := X
  obtain ⟨cl, A, r1, r2, r3⟩ := F
  have hi := idx32 hj.1 hj.2
  have hq : j.toInt.toNat < n := by omega
  exact OG.pre (fun _ k => Y.saload hx (j := j) (v := .int (f j.toInt.toNat)) (by rw [eT]; exact A.1) (State.isArrayOf_alike hZ.alike A.2.1) A.2.2 (by rw [r1]; exact hi) (r3 _ hq) (g := mkF m pc Ls (.int j :: .ref a :: st)) rfl rfl (hb hby hd) _ k) g
theorem OG.arraylength (X : OS B mL own nm rt Z n0 p l e R s m args below meth c T h cells slots) {a : Addr} {ty : FieldType} {n : Nat} {f : Nat → Int32} (F : Ia Z h a ty n f) {z : Int32} (hz : z.toInt = n) (hd : decode B pc = .ok (.arraylength, 1)) (g : OG p e below s n0 rc rs Q (T.setTop (mkF m (pc + 1) Ls (.int z :: st)))) : OG p e below s n0 rc rs Q (T.setTop (mkF m pc Ls (.ref a :: st))) := by
  obtain ⟨⟨hx, hby, -, -, -, -, -, hZ⟩, eT, locs, -, Y⟩ := X
  obtain ⟨cl, A, r1, r2, r3⟩ := F
  have ez : cl.slots.size.toInt32 = z := by rw [← Int32.toInt_inj, r1, len32 r2, hz]
  exact OG.pre (fun _ k => Y.arraylength hx (by rw [eT]; exact A.1) (State.isArrayOf_alike hZ.alike A.2.1) (g := mkF m pc Ls (.ref a :: st)) rfl rfl (hb hby hd) _ (by rw [ez]; exact k)) g
theorem OG.iastore (X : OS B mL own nm rt Z n0 p l e R s m args below meth c T h cells slots) {a : Addr} {n : Nat} {f : Nat → Int32} (F : Ia Z h a .int n f) {j x : Int32} (hj : 0 ≤ j.toInt ∧ j.toInt < n) (hd : decode B pc = .ok (.iastore, 1)) (ge : n0 ≤ a) (g : ∀ T' h', OS B mL own nm rt Z n0 p l e R s m args below meth c T' h' cells slots → Wr h h' a j.toInt.toNat (.int (x)) → Ia Z h' a .int n (fun i => if i = j.toInt.toNat then x else f i) → OG p e below s n0 rc rs Q (T'.setTop (mkF m (pc + 1) Ls st))) : OG p e below s n0 rc rs Q (T.setTop (mkF m pc Ls (.int x :: .int j :: .ref a :: st))) := by
  obtain ⟨h0, eT, locs, N, Y⟩ := X
  have h0' := h0
  obtain ⟨hx, hby, -, hown, hnm, -, -, hZ⟩ := h0'
  have F' := F
  obtain ⟨cl, A, r1, r2, r3⟩ := F'
  obtain ⟨T', h', Y', e', W, stp⟩ := RoadKit.stI Y hx hZ eT A (j := j) (by rw [r1]; exact idx32 hj.1 hj.2) (g := mkF m pc Ls (.int x :: .int j :: .ref a :: st)) rfl rfl (hb hby hd)
  exact OG.pre stp (g T' h' ⟨h0, e', _, Fr.snoc Y' N ge, Y'⟩ W (F.set W))
theorem OG.bastore (X : OS B mL own nm rt Z n0 p l e R s m args below meth c T h cells slots) {a : Addr} {n : Nat} {f : Nat → Int32} (F : Ia Z h a .byte n f) {j x : Int32} (hj : 0 ≤ j.toInt ∧ j.toInt < n) (hd : decode B pc = .ok (.bastore, 1)) (ge : n0 ≤ a) (g : ∀ T' h', OS B mL own nm rt Z n0 p l e R s m args below meth c T' h' cells slots → Wr h h' a j.toInt.toNat (.int (x.toInt8.toInt32)) → Ia Z h' a .byte n (fun i => if i = j.toInt.toNat then x.toInt8.toInt32 else f i) → OG p e below s n0 rc rs Q (T'.setTop (mkF m (pc + 1) Ls st))) : OG p e below s n0 rc rs Q (T.setTop (mkF m pc Ls (.int x :: .int j :: .ref a :: st))) := by
  obtain ⟨h0, eT, locs, N, Y⟩ := X
  have h0' := h0
  obtain ⟨hx, hby, -, hown, hnm, -, -, hZ⟩ := h0'
  have F' := F
  obtain ⟨cl, A, r1, r2, r3⟩ := F'
  obtain ⟨T', h', Y', e', W, stp⟩ := RoadKit.stB Y hx hZ eT A (j := j) (by rw [r1]; exact idx32 hj.1 hj.2) (g := mkF m pc Ls (.int x :: .int j :: .ref a :: st)) rfl rfl (hb hby hd)
  exact OG.pre stp (g T' h' ⟨h0, e', _, Fr.snoc Y' N ge, Y'⟩ W (F.set W))
theorem OG.castore (X : OS B mL own nm rt Z n0 p l e R s m args below meth c T h cells slots) {a : Addr} {n : Nat} {f : Nat → Int32} (F : Ia Z h a .char n f) {j x : Int32} (hj : 0 ≤ j.toInt ∧ j.toInt < n) (hd : decode B pc = .ok (.castore, 1)) (ge : n0 ≤ a) (g : ∀ T' h', OS B mL own nm rt Z n0 p l e R s m args below meth c T' h' cells slots → Wr h h' a j.toInt.toNat (.int (x.toUInt32.toUInt16.toUInt32.toInt32)) → Ia Z h' a .char n (fun i => if i = j.toInt.toNat then x.toUInt32.toUInt16.toUInt32.toInt32 else f i) → OG p e below s n0 rc rs Q (T'.setTop (mkF m (pc + 1) Ls st))) : OG p e below s n0 rc rs Q (T.setTop (mkF m pc Ls (.int x :: .int j :: .ref a :: st))) := by
  obtain ⟨h0, eT, locs, N, Y⟩ := X
  have h0' := h0
  obtain ⟨hx, hby, -, hown, hnm, -, -, hZ⟩ := h0'
  have F' := F
  obtain ⟨cl, A, r1, r2, r3⟩ := F'
  obtain ⟨T', h', Y', e', W, stp⟩ := RoadKit.stC Y hx hZ eT A (j := j) (by rw [r1]; exact idx32 hj.1 hj.2) (g := mkF m pc Ls (.int x :: .int j :: .ref a :: st)) rfl rfl (hb hby hd)
  exact OG.pre stp (g T' h' ⟨h0, e', _, Fr.snoc Y' N ge, Y'⟩ W (F.set W))
theorem OG.zastore (X : OS B mL own nm rt Z n0 p l e R s m args below meth c T h cells slots) {a : Addr} {n : Nat} {f : Nat → Int32} (F : Ia Z h a .boolean n f) {j x : Int32} (hj : 0 ≤ j.toInt ∧ j.toInt < n) (hd : decode B pc = .ok (.bastore, 1)) (ge : n0 ≤ a) (g : ∀ T' h', OS B mL own nm rt Z n0 p l e R s m args below meth c T' h' cells slots → Wr h h' a j.toInt.toNat (.int (x &&& 1)) → Ia Z h' a .boolean n (fun i => if i = j.toInt.toNat then x &&& 1 else f i) → OG p e below s n0 rc rs Q (T'.setTop (mkF m (pc + 1) Ls st))) : OG p e below s n0 rc rs Q (T.setTop (mkF m pc Ls (.int x :: .int j :: .ref a :: st))) := by
  obtain ⟨h0, eT, locs, N, Y⟩ := X
  have h0' := h0
  obtain ⟨hx, hby, -, hown, hnm, -, -, hZ⟩ := h0'
  have F' := F
  obtain ⟨cl, A, r1, r2, r3⟩ := F'
  obtain ⟨T', h', Y', e', W, stp⟩ := RoadKit.stZ Y hx hZ eT A (j := j) (by rw [r1]; exact idx32 hj.1 hj.2) (g := mkF m pc Ls (.int x :: .int j :: .ref a :: st)) rfl rfl (hb hby hd)
  exact OG.pre stp (g T' h' ⟨h0, e', _, Fr.snoc Y' N ge, Y'⟩ W (F.set W))
theorem OG.callS (X : OS B mL own nm rt Z n0 p l e R s m args below meth c T h cells slots) {y : MethodName} {index : Nat} {Bc : ByteArray} {mc : Nat} {rtc : Option FieldType} {rmc : Room} {asc : Array Value} {Qc : Option Value → Heap → Prop} (w1 : (Cond.methodLink own index y).before a0 Z = true) (w2 : (Cond.static y).before a0 Z = true) (hy : y.cls ≠ "java/lang/invoke/MethodHandle" ∧ y.cls ≠ "java/lang/invoke/VarHandle") (hM : OM l y Bc mc rtc rmc [] Z asc h n0 Qc) (wc : (Cond.code y Bc mc rtc).before a0 Z = true) (wz : (Cond.initialized y.cls).before a0 Z = true) (hfr : rmc.frames + 1 ≤ R.frames) {W : Nat} (hlo : W + (mc + 11) + rmc.locals ≤ R.locals) (hsz : Ls.size = mL) {argsL : List Value} {ps : List FieldType} {rr : Option FieldType} (hpd : parseMethodDescriptor y.desc = some ⟨ps, rr⟩) (hlen : argsL.length = ps.length) (hd : decode B pc = .ok (.invokestatic index, 3)) (has : argsL.toArray = asc) (hW : (st.map fun v => v.category).sum ≤ W) (hcl : cells + rmc.cells ≤ R.cells) (hsl : slots + rmc.slots ≤ R.slots) (g : ∀ v T' h', OS B mL own nm rt Z n0 p l e R s m args below meth c T' h' (cells + rmc.cells) (slots + rmc.slots) → Qc v h' → OG p e below s n0 rc rs Q (T'.setTop (mkF m (pc + 3) Ls (v.toList ++ st)))) : OG p e below s n0 rc rs Q (T.setTop (mkF m pc Ls (argsL.reverse ++ st))) := by
  obtain ⟨h0, eT, locs, N, Y⟩ := X
  have h0' := h0
  obtain ⟨hx, hby, hml, hown, hnm, -, -, hZ⟩ := h0'
  obtain ⟨_, _, ⟨T', L', k', n'⟩, -, Y', ⟨Lc, hQ, q2, q3, q4⟩, stp⟩ := Jvm.LawKit.callS Y hx (y := y) hown (mvT hZ w1) (mvT hZ w2) (mvT hZ wz) (mvT hZ wc) hy (backOf (W := W) (Z := Z) (h := h) (rm := rmc) (as' := asc) (Q := fun v hh L => Qc v hh ∧ Fr n0 L) hM hZ wc wz hfr hlo) (g := mkF m pc Ls (argsL.reverse ++ st)) rfl (by rw [hml]; exact hsz) (argsL := argsL) (rest := st) (lenOf hpd hlen) rfl (by show 2 * 0 + _ ≤ _; omega) (hb hby hd) (fun _ _ => ⟨has, eT, hcl, hsl⟩)
  dsimp only [Pt.U, Pt.locs, Pt.cells, Pt.slots] at Y' q2 q3 q4 stp hQ
  subst q2 q3 q4
  exact OG.pre stp (g _ T' _ ⟨h0, rfl, _, Fr.app N hQ.2, Y'⟩ hQ.1)

theorem OG.callC (X : OS B mL own nm rt Z n0 p l e R s m args below meth c T h cells slots) {y : MethodName} {index : Nat} {Bc : ByteArray} {mc : Nat} {rmc : Room} {asc : Array Value} {Qc : Option Value → Heap → Prop} (hy1 : y.name = "<init>") (w1 : (Cond.methodLink own index y).before a0 Z = true) (w2 : (Cond.instanceMethod y).before a0 Z = true) (hy : y.cls ≠ "java/lang/invoke/MethodHandle" ∧ y.cls ≠ "java/lang/invoke/VarHandle") {a : Addr} (hM : OM l y Bc mc none rmc [] Z asc h n0 Qc) (wc : (Cond.code y Bc mc none).before a0 Z = true) (wz : (Cond.initialized y.cls).before a0 Z = true) (hfr : rmc.frames + 1 ≤ R.frames) {W : Nat} (hlo : W + (mc + 11) + rmc.locals ≤ R.locals) (hsz : Ls.size = mL) {argsL : List Value} {ps : List FieldType} {rr : Option FieldType} (hpd : parseMethodDescriptor y.desc = some ⟨ps, rr⟩) (hlen : argsL.length = ps.length) (hd : decode B pc = .ok (.invokespecial index, 3)) (has : (Value.ref a :: argsL).toArray = asc) (hW : (st.map fun v => v.category).sum ≤ W) (hcl : cells + rmc.cells ≤ R.cells) (hsl : slots + rmc.slots ≤ R.slots) (g : ∀ v T' h', OS B mL own nm rt Z n0 p l e R s m args below meth c T' h' (cells + rmc.cells) (slots + rmc.slots) → Qc v h' → OG p e below s n0 rc rs Q (T'.setTop (mkF m (pc + 3) Ls (v.toList ++ st)))) : OG p e below s n0 rc rs Q (T.setTop (mkF m pc Ls (argsL.reverse ++ .ref a :: st))) := by
  obtain ⟨h0, eT, locs, N, Y⟩ := X
  have h0' := h0
  obtain ⟨hx, hby, hml, hown, hnm, -, -, hZ⟩ := h0'
  obtain ⟨_, _, ⟨T', L', k', n'⟩, -, Y', ⟨Lc, hQ, q2, q3, q4⟩, stp⟩ := Y.specialBack hx (y := y) hy1 hown (mvT hZ w1) (mvT hZ w2) (mvT hZ wc) hy (backOf (W := W) (Z := Z) (h := h) (rm := rmc) (as' := asc) (Q := fun v hh L => Qc v hh ∧ Fr n0 L) hM hZ wc wz hfr hlo) (g := mkF m pc Ls (argsL.reverse ++ .ref a :: st)) rfl (by rw [hml]; exact hsz) (Steps.refl _) (a := a) (argsL := argsL) (rest := st) (lenOf hpd hlen) rfl (by show 2 * 0 + _ ≤ _; omega) (hb hby hd) (fun _ _ => ⟨has, eT, hcl, hsl⟩)
  dsimp only [Pt.U, Pt.locs, Pt.cells, Pt.slots] at Y' q2 q3 q4 stp hQ
  subst q2 q3 q4
  exact OG.pre (fun _ k => stp.trans k) (g _ T' _ ⟨h0, rfl, _, Fr.app N hQ.2, Y'⟩ hQ.1)

theorem OG.callV (X : OS B mL own nm rt Z n0 p l e R s m args below meth c T h cells slots) {y : MethodName} {index : Nat} {Bc : ByteArray} {mc : Nat} {rtc : Option FieldType} {rmc : Room} {asc : Array Value} {Qc : Option Value → Heap → Prop} {z : MethodName} {C : String} (w1 : (Cond.methodLink own index y).before a0 Z = true) (w2 : (Cond.declares y).before a0 Z = true) (w3 : NotFace s y) (w4 : (Cond.selects C y z).before a0 Z = true) (w5 : (Cond.instanceMethod z).before a0 Z = true) (hy : y.cls ≠ "java/lang/invoke/MethodHandle" ∧ y.cls ≠ "java/lang/invoke/VarHandle") {a : Addr} (E : Exa Z h a C) (hM : OM l z Bc mc rtc rmc [] Z asc h n0 Qc) (wc : (Cond.code z Bc mc rtc).before a0 Z = true) (wz : (Cond.initialized z.cls).before a0 Z = true) (hfr : rmc.frames + 1 ≤ R.frames) {W : Nat} (hlo : W + (mc + 11) + rmc.locals ≤ R.locals) (hsz : Ls.size = mL) {argsL : List Value} {ps : List FieldType} {rr : Option FieldType} (hpd : parseMethodDescriptor y.desc = some ⟨ps, rr⟩) (hlen : argsL.length = ps.length) (hd : decode B pc = .ok (.invokevirtual index, 3)) (has : (Value.ref a :: argsL).toArray = asc) (hW : (st.map fun v => v.category).sum ≤ W) (hcl : cells + rmc.cells ≤ R.cells) (hsl : slots + rmc.slots ≤ R.slots) (g : ∀ v T' h', OS B mL own nm rt Z n0 p l e R s m args below meth c T' h' (cells + rmc.cells) (slots + rmc.slots) → Qc v h' → OG p e below s n0 rc rs Q (T'.setTop (mkF m (pc + 3) Ls (v.toList ++ st)))) : OG p e below s n0 rc rs Q (T.setTop (mkF m pc Ls (argsL.reverse ++ .ref a :: st))) := by
  obtain ⟨h0, eT, locs, N, Y⟩ := X
  have h0' := h0
  obtain ⟨hx, hby, hml, hown, hnm, -, -, hZ⟩ := h0'
  obtain ⟨cq, kq, qa, qb, qc⟩ := isOf hZ eT E
  obtain ⟨_, _, ⟨T', L', k', n'⟩, -, Y', ⟨Lc, hQ, q2, q3, q4⟩, stp⟩ := Y.virtualBack hx (y := y) (z := z) hown (mvT hZ w1) (mvT hZ w2) w3 (mvT hZ w4) (mvT hZ w5) hy (backOf (W := W) (Z := Z) (h := h) (rm := rmc) (as' := asc) (Q := fun v hh L => Qc v hh ∧ Fr n0 L) hM hZ wc wz hfr hlo) qa qc (g := mkF m pc Ls (argsL.reverse ++ .ref a :: st)) rfl (by rw [hml]; exact hsz) (Steps.refl _) (argsL := argsL) (rest := st) (lenOf hpd hlen) rfl (by show 2 * 0 + _ ≤ _; omega) (hb hby hd) (fun _ _ => ⟨has, eT, hcl, hsl⟩)
  dsimp only [Pt.U, Pt.locs, Pt.cells, Pt.slots] at Y' q2 q3 q4 stp hQ
  subst q2 q3 q4
  exact OG.pre (fun _ k => stp.trans k) (g _ T' _ ⟨h0, rfl, _, Fr.app N hQ.2, Y'⟩ hQ.1)

theorem selP {y y' : MethodName} {C : String} {args : Array Value} {s : State} (hc : y'.cls = y.cls) (w : (Cond.selects C y' y').before args s = true) (hp : s.PrivateAt y) (hi : (Cond.instanceMethod y).before args s = true) (hy : y.cls ≠ "java/lang/invoke/MethodHandle" ∧ y.cls ≠ "java/lang/invoke/VarHandle") : (Cond.selects y.cls y y).before args s = true := by
  obtain ⟨c2, r2, m2, q1, q2, q3, q4, kP, hkP, hkPi⟩ := Cond.selects_spec w
  exact selects_self_of_private (c := m2.cls) (by rw [← hc]; exact findClass_of_methodNamed q3) hkP hkPi hp hi hy
theorem OG.callP (X : OS B mL own nm rt Z n0 p l e R s m args below meth c T h cells slots) {y : MethodName} {index : Nat} {Bc : ByteArray} {mc : Nat} {rtc : Option FieldType} {rmc : Room} {asc : Array Value} {Qc : Option Value → Heap → Prop} {y' : MethodName} (w1 : (Cond.methodLink own index y).before a0 Z = true) (w2 : (Cond.instanceMethod y).before a0 Z = true) {C' : String} (hc' : y'.cls = y.cls) (w3 : (Cond.selects C' y' y').before a0 Z = true) (w4 : (Cond.privateMethod y).before a0 Z = true) (hy : y.cls ≠ "java/lang/invoke/MethodHandle" ∧ y.cls ≠ "java/lang/invoke/VarHandle") {C : String} {a : Addr} (E : Exa Z h a C) (hM : OM l y Bc mc rtc rmc [] Z asc h n0 Qc) (wc : (Cond.code y Bc mc rtc).before a0 Z = true) (wz : (Cond.initialized y.cls).before a0 Z = true) (hfr : rmc.frames + 1 ≤ R.frames) {W : Nat} (hlo : W + (mc + 11) + rmc.locals ≤ R.locals) (hsz : Ls.size = mL) {argsL : List Value} {ps : List FieldType} {rr : Option FieldType} (hpd : parseMethodDescriptor y.desc = some ⟨ps, rr⟩) (hlen : argsL.length = ps.length) (hd : decode B pc = .ok (.invokevirtual index, 3)) (has : (Value.ref a :: argsL).toArray = asc) (hW : (st.map fun v => v.category).sum ≤ W) (hcl : cells + rmc.cells ≤ R.cells) (hsl : slots + rmc.slots ≤ R.slots) (g : ∀ v T' h', OS B mL own nm rt Z n0 p l e R s m args below meth c T' h' (cells + rmc.cells) (slots + rmc.slots) → Qc v h' → OG p e below s n0 rc rs Q (T'.setTop (mkF m (pc + 3) Ls (v.toList ++ st)))) : OG p e below s n0 rc rs Q (T.setTop (mkF m pc Ls (argsL.reverse ++ .ref a :: st))) := by
  obtain ⟨h0, eT, locs, N, Y⟩ := X
  have h0' := h0
  obtain ⟨hx, hby, hml, hown, hnm, -, -, hZ⟩ := h0'
  obtain ⟨cq, qa, qb⟩ := E.cell
  have hpr : s.PrivateAt y := Cond.privateMethod_at (mvP hZ w4 (args := #[]))
  obtain ⟨_, _, ⟨T', L', k', n'⟩, -, Y', ⟨Lc, hQ, q2, q3, q4⟩, stp⟩ := Y.privateBack hx (y := y) hown (mvT hZ w1) (mvT hZ w2) (selP hc' (mvT hZ w3) hpr (mvT hZ w2) hy) hpr (mvT hZ wc) hy (backOf (W := W) (Z := Z) (h := h) (rm := rmc) (as' := asc) (Q := fun v hh L => Qc v hh ∧ Fr n0 L) hM hZ wc wz hfr hlo) (g := mkF m pc Ls (argsL.reverse ++ .ref a :: st)) rfl (by rw [hml]; exact hsz) (Steps.refl _) (a := a) (by rw [eT]; exact qa) qb (argsL := argsL) (rest := st) (lenOf hpd hlen) rfl (by show 2 * 0 + _ ≤ _; omega) (hb hby hd) (fun _ _ => ⟨has, eT, hcl, hsl⟩)
  dsimp only [Pt.U, Pt.locs, Pt.cells, Pt.slots] at Y' q2 q3 q4 stp hQ
  subst q2 q3 q4
  exact OG.pre (fun _ k => stp.trans k) (g _ T' _ ⟨h0, rfl, _, Fr.app N hQ.2, Y'⟩ hQ.1)

theorem OG.callU (X : OS B mL own nm rt Z n0 p l e R s m args below meth c T h cells slots) {y : MethodName} {index : Nat} {Bc : ByteArray} {mc : Nat} {rtc : Option FieldType} {rmc : Room} {asc : Array Value} {Qc : Option Value → Heap → Prop} {x : MethodName} {owner C : String} (w1 : (Cond.methodLink own index x).before a0 Z = true) (w2 : (Cond.sameMethod x.cls owner x.name x.desc).before a0 Z = true) (w3 : (Cond.declares ⟨owner, x.name, x.desc⟩).before a0 Z = true) (ho : owner ≠ "java/lang/invoke/MethodHandle" ∧ owner ≠ "java/lang/invoke/VarHandle") (w4 : (Cond.selects C x y).before a0 Z = true) (w5 : (Cond.instanceMethod y).before a0 Z = true) {a : Addr} (E : Exa Z h a C) (hM : OM l y Bc mc rtc rmc [] Z asc h n0 Qc) (wc : (Cond.code y Bc mc rtc).before a0 Z = true) (wz : (Cond.initialized y.cls).before a0 Z = true) (hfr : rmc.frames + 1 ≤ R.frames) {W : Nat} (hlo : W + (mc + 11) + rmc.locals ≤ R.locals) (hsz : Ls.size = mL) {argsL : List Value} {ps : List FieldType} {rr : Option FieldType} (hpd : parseMethodDescriptor x.desc = some ⟨ps, rr⟩) (hlen : argsL.length = ps.length) (hd : decode B pc = .ok (.invokevirtual index, 3)) (has : (Value.ref a :: argsL).toArray = asc) (hW : (st.map fun v => v.category).sum ≤ W) (hcl : cells + rmc.cells ≤ R.cells) (hsl : slots + rmc.slots ≤ R.slots) (g : ∀ v T' h', OS B mL own nm rt Z n0 p l e R s m args below meth c T' h' (cells + rmc.cells) (slots + rmc.slots) → Qc v h' → OG p e below s n0 rc rs Q (T'.setTop (mkF m (pc + 3) Ls (v.toList ++ st)))) : OG p e below s n0 rc rs Q (T.setTop (mkF m pc Ls (argsL.reverse ++ .ref a :: st))) := by
  obtain ⟨h0, eT, locs, N, Y⟩ := X
  have h0' := h0
  obtain ⟨hx, hby, hml, hown, hnm, -, -, hZ⟩ := h0'
  obtain ⟨cq, kq, qa, qb, qc⟩ := isOf hZ eT E
  obtain ⟨_, _, ⟨T', L', k', n'⟩, -, Y', ⟨Lc, hQ, q2, q3, q4⟩, stp⟩ := Y.virtualBackUp hx (x := x) (y := y) hown (mvT hZ w1) (mvT hZ w2) (mvT hZ w3) ho (mvT hZ w4) (mvT hZ w5) (backOf (W := W) (Z := Z) (h := h) (rm := rmc) (as' := asc) (Q := fun v hh L => Qc v hh ∧ Fr n0 L) hM hZ wc wz hfr hlo) qa qc (g := mkF m pc Ls (argsL.reverse ++ .ref a :: st)) rfl (by rw [hml]; exact hsz) (Steps.refl _) (argsL := argsL) (rest := st) (lenOf hpd hlen) rfl (by show 2 * 0 + _ ≤ _; omega) (hb hby hd) (fun _ _ => ⟨has, eT, hcl, hsl⟩)
  dsimp only [Pt.U, Pt.locs, Pt.cells, Pt.slots] at Y' q2 q3 q4 stp hQ
  subst q2 q3 q4
  exact OG.pre (fun _ k => stp.trans k) (g _ T' _ ⟨h0, rfl, _, Fr.app N hQ.2, Y'⟩ hQ.1)

theorem OG.tsw (X : OS B mL own nm rt Z n0 p l e R s m args below meth c T h cells slots) {dflt low high : Int} {offs : Array Int} {len : Nat} {o : Int} {i : Int32} {pc' : Nat} (hd : decode B pc = .ok (.tableswitch dflt low high offs, len)) (hin : ¬ (i.toInt < low ∨ i.toInt > high)) (hoff : offs[(i.toInt - low).toNat]? = some o) (hp : 0 ≤ (pc : Int) + o ∧ ((pc : Int) + o).toNat = pc') (g : OG p e below s n0 rc rs Q (T.setTop (mkF m pc' Ls st))) : OG p e below s n0 rc rs Q (T.setTop (mkF m pc Ls (.int i :: st))) := by
  obtain ⟨⟨hx, hby, -⟩, -, locs, -, Y⟩ := X
  exact OG.pre (fun _ k => XS.tswIn Y.here hx rfl (pc0 := pc) rfl (hb hby hd) rfl hin hoff hp.1 hp.2 k) g
theorem OG.dconst1 (X : OS B mL own nm rt Z n0 p l e R s m args below meth c T h cells slots) (hd : decode B pc = .ok (.dconst 1, 1)) (g : OG p e below s n0 rc rs Q (T.setTop (mkF m (pc + 1) Ls (.double FP.dconst1 :: st)))) : OG p e below s n0 rc rs Q (T.setTop (mkF m pc Ls st)) := by
  obtain ⟨⟨hx, hby, -⟩, -, locs, -, Y⟩ := X
  refine OG.pre (fun t k => ?_) g
  have hd' := hb hby hd
  show Steps p.tables e below (T.setTop { method := m, pc := pc, locals := Ls, stack := st, locked := none }) t
  jvm_step Y.here [Y.here.top, hx, hd']
  exact k
theorem OG.dcmp (X : OS B mL own nm rt Z n0 p l e R s m args below meth c T h cells slots) {cop : ClassFile.CmpOp} {x y : UInt64} (hd : decode B pc = .ok (.dcmp cop, 1)) (g : OG p e below s n0 rc rs Q (T.setTop (mkF m (pc + 1) Ls (.int (cmpValue (FP.dcmp x y) cop) :: st)))) : OG p e below s n0 rc rs Q (T.setTop (mkF m pc Ls (.double y :: .double x :: st))) := by
  obtain ⟨⟨hx, hby, -⟩, -, locs, -, Y⟩ := X
  refine OG.pre (fun t k => ?_) g
  have hd' := hb hby hd
  show Steps p.tables e below (T.setTop { method := m, pc := pc, locals := Ls, stack := .double y :: .double x :: st, locked := none }) t
  jvm_step Y.here [Y.here.top, hx, hd']
  exact k
theorem OG.initO (X : OS B mL own nm rt Z n0 p l e R s m args below meth c T h cells slots) {index : Nat} (w1 : (Cond.methodLink own index Lib.objectInit).before a0 Z = true) (w2 : (Cond.instanceMethod Lib.objectInit).before a0 Z = true) (w3 : (Cond.code Lib.objectInit ⟨#[0xb1]⟩ 1 none).before a0 Z = true) {a : Addr} (hd : decode B pc = .ok (.invokespecial index, 3)) (hsz : Ls.size = mL) (hf : 1 ≤ R.frames) {W : Nat} (hW : (st.map fun v => v.category).sum ≤ W) (hlo : W + 12 ≤ R.locals) (g : ∀ T', OS B mL own nm rt Z n0 p l e R s m args below meth c T' h cells slots → OG p e below s n0 rc rs Q (T'.setTop (mkF m (pc + 3) Ls st))) : OG p e below s n0 rc rs Q (T.setTop (mkF m pc Ls (.ref a :: st))) := by
  obtain ⟨h0, eT, locs, N, Y⟩ := X
  have h0' := h0
  obtain ⟨hx, hby, hml, hown, hnm, -, -, hZ⟩ := h0'
  obtain ⟨T', Y', e', stp⟩ := RoadKit.initO Y hx hZ hown w1 w2 w3 eT (g := mkF m pc Ls (.ref a :: st)) rfl (by rw [hml]; exact hsz) rfl (hb hby hd) hf (W := W) (by show 2 * 0 + _ ≤ _; omega) hlo
  exact OG.pre stp (g T' ⟨h0, e', _, N, Y'⟩)
theorem Ia.toArv (F : Ia Z h a .int n f) {z : Int32} (hz : z.toInt = n) : ∃ k, Arv Z h a k .int z ((List.range n).map fun i => .int (f i)) (.int 0) := by
  obtain ⟨c, A, r1, r2, r3⟩ := F
  refine ⟨c.cls, c, A, rfl, ?_, ?_, ?_, ?_⟩
  · rw [r1]; simp only [Int32.toNatClampNeg]; omega
  · rw [Int32.lt_iff_toInt_lt]; have : (0 : Int32).toInt = 0 := rfl
    omega
  · intro i hi; rw [r1] at hi; rw [r3 i hi]; simp [List.getD_eq_getElem?_getD, hi]
  · intro i hi; rw [r1] at hi; simp [List.getD_eq_getElem?_getD, hi, fits]
theorem Ia.ofArv {ty : FieldType} {k : ClassId} {z : Int32} {vs : List Value} (W : Arv Z h a k ty z vs (.int 0)) (hz : z.toInt = n) (H : ∀ i, i < n → vs.getD i (.int 0) = .int (f i)) : Ia Z h a ty n f := by
  obtain ⟨c, A, -, S, -, Hs, -⟩ := W
  have hs : c.slots.size = n := by rw [S]; simp only [Int32.toNatClampNeg]; omega
  exact ⟨c, A, hs, by have := z.toInt_lt; omega, fun i hi => by rw [Hs i (by rw [hs]; exact hi), H i hi]⟩
theorem OG.arraycopyI (X : OS B mL own nm rt Z n0 p l e R s m args below meth c T h cells slots) {index : Nat} (w1 : (Cond.methodLink own index Jvm.Stand.acN).before a0 Z = true) (w2 : (Cond.native Jvm.Stand.acN).before a0 Z = true) (w3 : (Cond.static Jvm.Stand.acN).before a0 Z = true) (w4 : (Cond.initialized "java/lang/System").before a0 Z = true) {a b : Addr} {n n' : Nat} {f f' : Nat → Int32} (F : Ia Z h a .int n f) (G : Ia Z h b .int n' f') {nn : Int32} {q : Nat} (hq : nn.toInt = q) (h1 : q ≤ n) (h2 : q ≤ n') (ge : n0 ≤ b) (hd : decode B pc = .ok (.invokestatic index, 3)) (hsz : Ls.size = mL) (hf : 1 ≤ R.frames) {W : Nat} (hW : (st.map fun v => v.category).sum ≤ W) (hlo : W + 18 ≤ R.locals) (g : ∀ T' h', OS B mL own nm rt Z n0 p l e R s m args below meth c T' h' cells slots → Keep h h' [b] → Ia Z h' b .int n' (fun i => if i < q then f i else f' i) → OG p e below s n0 rc rs Q (T'.setTop (mkF m (pc + 3) Ls st))) : OG p e below s n0 rc rs Q (T.setTop (mkF m pc Ls (.int nn :: .int 0 :: .ref b :: .int 0 :: .ref a :: st))) := by
  obtain ⟨h0, eT, locs, N, Y⟩ := X
  have h0' := h0
  obtain ⟨hx, hby, hml, hown, hnm, -, -, hZ⟩ := h0'
  have la := F.len
  have lb := G.len
  obtain ⟨ka, VA⟩ := F.toArv (z := n.toInt32) (len32 la)
  obtain ⟨kb, VB⟩ := G.toArv (z := n'.toInt32) (len32 lb)
  have e0 : (0 : Int32).toNatClampNeg = 0 := rfl
  have eq : nn.toNatClampNeg = q := by simp only [Int32.toNatClampNeg]; omega
  have ea : n.toInt32.toNatClampNeg = n := by simp only [Int32.toNatClampNeg, len32 la]; omega
  have eb : n'.toInt32.toNatClampNeg = n' := by simp only [Int32.toNatClampNeg, len32 lb]; omega
  have hnn : ¬ nn < 0 := by rw [Int32.lt_iff_toInt_lt]; have : (0 : Int32).toInt = 0 := rfl; omega
  obtain ⟨T', h', L, Y', e', N', K, V, stp⟩ := cpA Y hx hZ hown w1 w2 w3 w4 eT VA VB (Or.inl ⟨rfl, rfl⟩) (sp := 0) (dp := 0) (nn := nn) (by decide) (by decide) hnn (by rw [e0, eq, ea]; omega) (by rw [e0, eq, eb]; omega) rfl (by rw [e0, eq]; simp; omega) N ge (g := mkF m pc Ls (.int nn :: .int 0 :: .ref b :: .int 0 :: .ref a :: st)) rfl (by rw [hml]; exact hsz) rfl (hb hby hd) hf (W := W) (by show 2 * 0 + _ ≤ _; omega) (by exact hlo)
  refine OG.pre stp (g T' h' ⟨h0, e', L, N', Y'⟩ K (Ia.ofArv V (len32 lb) (fun i hi => ?_)))
  rw [e0, eq]
  by_cases hi2 : i < q
  · simp [List.getD_eq_getElem?_getD, List.getElem?_append, hi2, Nat.lt_of_lt_of_le hi2 h1]
  · simp [List.getD_eq_getElem?_getD, List.getElem?_append, hi2, hi, show q + (i - q) = i by omega]
def NSt (h : Heap) (ws : List Addr) : Prop := ∀ b ∈ ws, ∃ c : Cell, h[b]? = some c ∧ c.vm.isStatics = false
theorem NSt.nil {h : Heap} : NSt h [] := fun _ q => nomatch q
theorem NSt.cons {h : Heap} {ws : List Addr} {b : Addr} (q : ∃ c : Cell, h[b]? = some c ∧ c.vm.isStatics = false) (r : NSt h ws) : NSt h (b :: ws) := fun y hy => by
  rcases List.mem_cons.mp hy with rfl | hy
  · exact q
  · exact r y hy
theorem Ia.ns {h : Heap} (F : Ia Z h a ty n f) : ∃ c : Cell, h[a]? = some c ∧ c.vm.isStatics = false := by
  obtain ⟨c, A, -⟩ := F
  refine ⟨c, A.1, ?_⟩
  have q := A.2.1.1
  cases hv : c.vm <;> first | rfl | exact absurd hv (q _)
theorem Exa.ns {h : Heap} {C : String} (F : Exa Z h a C) : ∃ c : Cell, h[a]? = some c ∧ c.vm.isStatics = false := by
  obtain ⟨c, k, h1, -, -, h4, -⟩ := F; exact ⟨c, h1, h4⟩
theorem Sta.keepN {h h' : Heap} {C n d : String} {w : Value} {ws : List Addr} (F : Sta Z h C n d w) (K : Keep h h' ws) (N : NSt h ws) : Sta Z h' C n d w := by
  obtain ⟨cf, i, k, f, st, cell, h1, h2, h3, h4, h5, h6, h7⟩ := F
  refine ⟨cf, i, k, f, st, cell, h1, h2, h3, h4, K.2.1 _ _ h5 fun q => ?_, h6, h7⟩
  obtain ⟨c', q1, q2⟩ := N _ q
  rw [h5] at q1; cases q1; rw [h6] at q2; cases q2
theorem sameSelf {y y' : MethodName} {args : Array Value} {s : State} (hy : y.cls ≠ "java/lang/invoke/MethodHandle" ∧ y.cls ≠ "java/lang/invoke/VarHandle") (hc : y'.cls = y.cls) (wd : (Cond.declares y).before args s = true) (wd' : (Cond.declares y').before args s = true) (nf : NotFace s y') : (Cond.sameMethod y.cls y.cls y.name y.desc).before args s = true := by
  obtain ⟨r0, r, hn, hrm, -⟩ := Cond.declares_spec wd
  obtain ⟨r1, r', hn', -⟩ := Cond.declares_spec wd'
  obtain ⟨k, hk, hki⟩ := nf r1 hn'
  have hc1 := findClass_of_methodNamed hn
  have hc2 := findClass_of_methodNamed hn'
  rw [hc] at hc2
  have e : r0.cls = r1.cls := Option.some.inj (hc1.symm.trans hc2)
  rw [← e] at hk
  have hf := State.methodFound?_of_named hn hy
  have hn2 : s.methodNamed? ⟨y.cls, y.name, y.desc⟩ = some r0 := hn
  simp [Cond.before, Cond.holds, Cond.value, hc1, hf, hn2, hk, hki]
theorem OG.callX (X : OS B mL own nm rt Z n0 p l e R s m args below meth c T h cells slots) {y : MethodName} {index : Nat} {Bc : ByteArray} {mc : Nat} {rtc : Option FieldType} {rmc : Room} {asc : Array Value} {Qc : Option Value → Heap → Prop} {C : String} (w1 : (Cond.methodLink own index y).before a0 Z = true) (w2 : (Cond.sameMethod y.cls y.cls y.name y.desc).before a0 Z = true) (w3 : (Cond.instanceMethod y).before a0 Z = true) (w4 : (Cond.superclass own y.cls).before a0 Z = true) (hnm : y.name ≠ "<init>") {a : Addr} (E : Exa Z h a C) (hM : OM l y Bc mc rtc rmc [] Z asc h n0 Qc) (wc : (Cond.code y Bc mc rtc).before a0 Z = true) (wz : (Cond.initialized y.cls).before a0 Z = true) (hfr : rmc.frames + 1 ≤ R.frames) {W : Nat} (hlo : W + (mc + 11) + rmc.locals ≤ R.locals) (hsz : Ls.size = mL) {argsL : List Value} {ps : List FieldType} {rr : Option FieldType} (hpd : parseMethodDescriptor y.desc = some ⟨ps, rr⟩) (hlen : argsL.length = ps.length) (hd : decode B pc = .ok (.invokespecial index, 3)) (has : (Value.ref a :: argsL).toArray = asc) (hW : (st.map fun v => v.category).sum ≤ W) (hcl : cells + rmc.cells ≤ R.cells) (hsl : slots + rmc.slots ≤ R.slots) (g : ∀ v T' h', OS B mL own nm rt Z n0 p l e R s m args below meth c T' h' (cells + rmc.cells) (slots + rmc.slots) → Qc v h' → OG p e below s n0 rc rs Q (T'.setTop (mkF m (pc + 3) Ls (v.toList ++ st)))) : OG p e below s n0 rc rs Q (T.setTop (mkF m pc Ls (argsL.reverse ++ .ref a :: st))) := by
  obtain ⟨h0, eT, locs, N, Y⟩ := X
  have h0' := h0
  obtain ⟨hx, hby, hml, hown, -, -, -, hZ⟩ := h0'
  obtain ⟨_, _, ⟨T', L', k', n'⟩, -, Y', ⟨Lc, hQ, q2, q3, q4⟩, stp⟩ := superBack Y hx hZ (y := y) hown w1 w2 w3 w4 hnm (backOf (W := W) (Z := Z) (h := h) (rm := rmc) (as' := asc) (Q := fun v hh L => Qc v hh ∧ Fr n0 L) hM hZ wc wz hfr hlo) eT (Ins.self E) (g := mkF m pc Ls (argsL.reverse ++ .ref a :: st)) rfl (by rw [hml]; exact hsz) wc (argsL := argsL) (rest := st) (lenOf hpd hlen) rfl (by show 2 * 0 + _ ≤ _; omega) (hb hby hd) (fun _ _ => ⟨has, eT, hcl, hsl⟩)
  dsimp only [Pt.U, Pt.locs, Pt.cells, Pt.slots] at Y' q2 q3 q4 stp hQ
  subst q2 q3 q4
  exact OG.pre (fun _ k => stp.trans k) (g _ T' _ ⟨h0, rfl, _, Fr.app N hQ.2, Y'⟩ hQ.1)

theorem Ia.toArvB (F : Ia Z h a .byte n f) (hF : ∀ i, i < n → (f i).toInt8.toInt32 = f i) {z : Int32} (hz : z.toInt = n) : ∃ k, Arv Z h a k .byte z ((List.range n).map fun i => .int (f i)) (.int 0) := by
  obtain ⟨c, A, r1, r2, r3⟩ := F
  refine ⟨c.cls, c, A, rfl, ?_, ?_, ?_, ?_⟩
  · rw [r1]; simp only [Int32.toNatClampNeg]; omega
  · rw [Int32.lt_iff_toInt_lt]; have : (0 : Int32).toInt = 0 := rfl
    omega
  · intro i hi; rw [r1] at hi; rw [r3 i hi]; simp [List.getD_eq_getElem?_getD, hi]
  · intro i hi; rw [r1] at hi
    have q := fits_nar_byte (f i)
    rw [hF i hi] at q
    simpa [List.getD_eq_getElem?_getD, hi] using q
theorem OG.arraycopyB (X : OS B mL own nm rt Z n0 p l e R s m args below meth c T h cells slots) {index : Nat} (w1 : (Cond.methodLink own index Jvm.Stand.acN).before a0 Z = true) (w2 : (Cond.native Jvm.Stand.acN).before a0 Z = true) (w3 : (Cond.static Jvm.Stand.acN).before a0 Z = true) (w4 : (Cond.initialized "java/lang/System").before a0 Z = true) {a b : Addr} {n n' : Nat} {f f' : Nat → Int32} (F : Ia Z h a .byte n f) (G : Ia Z h b .byte n' f') (hF : ∀ i, i < n → (f i).toInt8.toInt32 = f i) (hG : ∀ i, i < n' → (f' i).toInt8.toInt32 = f' i) {nn dp : Int32} {q d : Nat} (hq : nn.toInt = q) (hdp : dp.toInt = d) (h1 : q ≤ n) (h2 : d + q ≤ n') (ge : n0 ≤ b) (hd : decode B pc = .ok (.invokestatic index, 3)) (hsz : Ls.size = mL) (hf : 1 ≤ R.frames) {W : Nat} (hW : (st.map fun v => v.category).sum ≤ W) (hlo : W + 18 ≤ R.locals) (g : ∀ T' h', OS B mL own nm rt Z n0 p l e R s m args below meth c T' h' cells slots → Keep h h' [b] → Ia Z h' b .byte n' (fun i => if d ≤ i ∧ i < d + q then f (i - d) else f' i) → OG p e below s n0 rc rs Q (T'.setTop (mkF m (pc + 3) Ls st))) : OG p e below s n0 rc rs Q (T.setTop (mkF m pc Ls (.int nn :: .int dp :: .ref b :: .int 0 :: .ref a :: st))) := by
  obtain ⟨h0, eT, locs, N, Y⟩ := X
  have h0' := h0
  obtain ⟨hx, hby, hml, hown, hnm, -, -, hZ⟩ := h0'
  have la := F.len
  have lb := G.len
  obtain ⟨ka, VA⟩ := F.toArvB hF (z := n.toInt32) (len32 la)
  obtain ⟨kb, VB⟩ := G.toArvB hG (z := n'.toInt32) (len32 lb)
  have e0 : (0 : Int32).toNatClampNeg = 0 := rfl
  have eq : nn.toNatClampNeg = q := by simp only [Int32.toNatClampNeg]; omega
  have ed : dp.toNatClampNeg = d := by simp only [Int32.toNatClampNeg]; omega
  have ea : n.toInt32.toNatClampNeg = n := by simp only [Int32.toNatClampNeg, len32 la]; omega
  have eb : n'.toInt32.toNatClampNeg = n' := by simp only [Int32.toNatClampNeg, len32 lb]; omega
  have hnn : ¬ nn < 0 := by rw [Int32.lt_iff_toInt_lt]; have : (0 : Int32).toInt = 0 := rfl; omega
  have hdd : ¬ dp < 0 := by rw [Int32.lt_iff_toInt_lt]; have : (0 : Int32).toInt = 0 := rfl; omega
  obtain ⟨T', h', L, Y', e', N', K, V, stp⟩ := cpA Y hx hZ hown w1 w2 w3 w4 eT VA VB (Or.inl ⟨rfl, rfl⟩) (sp := 0) (dp := dp) (nn := nn) (by decide) hdd hnn (by rw [e0, eq, ea]; omega) (by rw [ed, eq, eb]; omega) rfl (by rw [ed, eq]; simp; omega) N ge (g := mkF m pc Ls (.int nn :: .int dp :: .ref b :: .int 0 :: .ref a :: st)) rfl (by rw [hml]; exact hsz) rfl (hb hby hd) hf (W := W) (by show 2 * 0 + _ ≤ _; omega) (by exact hlo)
  refine OG.pre stp (g T' h' ⟨h0, e', L, N', Y'⟩ K (Ia.ofArv V (len32 lb) (fun i hi => ?_)))
  rw [e0, eq, ed]
  by_cases hi1 : i < d
  · have hc : ¬ (d ≤ i ∧ i < d + q) := by omega
    simp [List.getD_eq_getElem?_getD, List.getElem?_append, hi1, hi, hc, List.getElem?_take, Nat.lt_of_lt_of_le hi1 (show d ≤ n' by omega), show d ≤ n' by omega]
  · by_cases hi2 : i < d + q
    · have hc : (d ≤ i ∧ i < d + q) := by omega
      have m1 : min d n' = d := by omega
      simp [List.getD_eq_getElem?_getD, List.getElem?_append, hi1, hi2, hc, m1, show ¬ i < d by omega, show i - d < q by omega, show i - d < n by omega]
    · have hc : ¬ (d ≤ i ∧ i < d + q) := by omega
      have m1 : min d n' = d := by omega
      simp [List.getD_eq_getElem?_getD, List.getElem?_append, hi1, hi2, hc, hi, m1, show ¬ i - d < q by omega, show d + q + (i - d - q) = i by omega]
end OwnKit
end Jvm.RoadKit

namespace Jvm.RoadKit
open Sem ClassFile Op Lib Jvm.Stand Jvm.Free Jvm.LawKit
section OwnWide
def OGW (Z : State) (Ts : List String) (p : Program) (e : Env) (below : List Frame) (s : State) (n0 rc rs : Nat) (Q : Option Value → Heap → Prop) (A : State) : Prop :=
  ∃ s₂ o, Steps p.tables e below A s₂ ∧ s₂.status = .running ∧ Ended s₂ below o ∧ ∃ v L, o = .returned v ∧ (Q v s₂.heap ∧ Fr n0 L) ∧ ReturnedEndW s o s₂ L rc rs ∧ IB Z s₂.vm Ts
/-- a body's contract, where it may intern: the texts T0 before, Ts behind -/
def OMW (T0 Ts : List String) (l : Launch) (y : MethodName) (B : ByteArray) (mL : Nat) (rt : Option FieldType) (rm : Room) (ws : List Cond) (Z : State) (as' : Array Value) (h0 : Heap) (n0 : Nat) (Q : Option Value → Heap → Prop) : Prop :=
  MetFree l y (head1 (Cond.code y B mL rt :: ws) rm) (fun a U => a = as' ∧ Z.Warmed39 U.vm ∧ IB Z U.vm T0 ∧ U.heap = h0) (fun _ _ _ _ _ => True) (fun _ U o U' => ∃ v L, o = .returned v ∧ (Q v U'.heap ∧ Fr n0 L) ∧ ReturnedEndW U o U' L rm.cells rm.slots ∧ IB Z U'.vm Ts)
variable {p : Program} {l : Launch} {e : Env} {R : Room} {s : State} {m : MethodId} {args : Array Value} {below : List Frame} {meth : Method} {c : Code} {T : State} {cells slots : Nat} {Z : State} {h : Heap} {n0 n1 : Nat} {B : ByteArray} {mL : Nat} {own nm : String} {rt : Option FieldType} {rc rs : Nat} {Q Q' : Option Value → Heap → Prop} {pc : Nat} {Ls : Array Slot} {st : List Value} {a0 : Array Value} {Ts T0 Tc : List String}
theorem IB.of {vm vm' : Vm} (I : IB Z vm Ts) (h : vm'.interned = vm.interned) : IB Z vm' Ts := by
  obtain ⟨more, h1, h2⟩ := I; exact ⟨more, h.trans h1, h2⟩
theorem IB.mono {vm : Vm} (I : IB Z vm Ts) (h : ∀ t ∈ Ts, t ∈ Tc) : IB Z vm Tc := by
  obtain ⟨more, h1, h2⟩ := I
  exact ⟨more, h1, fun q hq => by obtain ⟨t, r1, r2⟩ := h2 q hq; exact ⟨t, h t r1, r2⟩⟩
theorem OGW.pre {A A' : State} (h : ∀ t, Steps p.tables e below A' t → Steps p.tables e below A t) (k : OGW Z Ts p e below s n0 rc rs Q A') : OGW Z Ts p e below s n0 rc rs Q A := by
  obtain ⟨s₂, o, h1, r⟩ := k; exact ⟨s₂, o, h _ h1, r⟩
theorem OGW.reb {A : State} {vm1 : Vm} {k1 : Nat} (hS : s.Since vm1 k1) (hk : ∀ v hh, Q' v hh → Q v hh ∧ k1 ≤ hh.size) (g : OGW Z Ts p e below (s.setVm vm1) n0 rc rs Q' A) : OGW Z Ts p e below s n0 rc rs Q A := by
  obtain ⟨s₂, o, h1, h2, h3, v, L, rfl, ⟨hq, N⟩, ⟨hr, hW, hB, hs⟩, hIB⟩ := g
  obtain ⟨q1, q2⟩ := hk v _ hq
  have h5 : s.Since s₂.vm s₂.heap.size := hS.trans ⟨hW, hB⟩ q2
  exact ⟨s₂, _, h1, h2, h3, v, L, rfl, ⟨q1, N⟩, ⟨hr, h5.1, h5.2, hs.setVm s.vm⟩, hIB⟩
theorem OMW.of {y : MethodName} {rm : Room} {ws : List Cond} {as' : Array Value} {h0 : Heap} (hp : plainFor y = true) (hef : ∀ m, entryFrame m as' mL = mkF m 0 Ls []) (body : ∀ p e s m below meth c T, (∀ n1, OS B mL y.cls y.name rt Z n1 p l e rm s m as' below meth c T h0 0 0) → IB Z s.vm T0 → s.heap = h0 → OGW Z Ts p e below s n0 rm.cells rm.slots Q (T.setTop (mkF m 0 Ls []))) : OMW T0 Ts l y B mL rt rm ws Z as' h0 n0 Q := by
  refine MetFree.of_bodySF hp hisR ?_
  intro p e s m args below meth c s₁ Bd hml0 hP hK
  obtain ⟨rfl, hZ, hI, hh⟩ := hP
  have X0 : Stand p l e rm s m args below meth c s₁ [] 0 0 := Stand.of_body Bd
  have e0 : s₁.heap = h0 := by rw [← hh, Bd.state]; rfl
  have q := body p e s m below meth c s₁ (fun n1 => ⟨⟨Bd.exec, Bd.bytes, hml0, findClass_of_methodNamed Bd.named, (name_of_methodNamed Bd.named Bd.method).1, Bd.returns, BodyLoose.notSynchronized Bd, hZ⟩, e0, [], Fr.nil n1, X0⟩) hI hh
  rw [hef]; exact q
theorem OS.lower (X : OS B mL own nm rt Z n1 p l e R s m args below meth c T h cells slots) (q : n0 ≤ n1) : OS B mL own nm rt Z n0 p l e R s m args below meth c T h cells slots := by
  obtain ⟨h0, e1, locs, N, Y⟩ := X
  exact ⟨h0, e1, locs, fun y hy => Nat.le_trans q (N y hy), Y⟩
theorem OMW.lower {y : MethodName} {rm : Room} {ws : List Cond} {as' : Array Value} (hM : OMW T0 Ts l y B mL rt rm ws Z as' h n1 Q) (q : n0 ≤ n1) : OMW T0 Ts l y B mL rt rm ws Z as' h n0 Q := by
  intro p e ha hc hk s m args below hf happ hP hK
  obtain ⟨n, o, h1, h2, h3, v, L, h4, h5, h6⟩ := hM p e ha hc hk s m args below hf happ hP hK
  exact ⟨n, o, h1, h2, h3, v, L, h4, ⟨h5.1, fun y hy => Nat.le_trans q (h5.2 y hy)⟩, h6⟩
theorem OGW.ldcAgain (X : OS B mL own nm rt Z n1 p l e R s m args below meth c T h cells slots) {index : Nat} {text : String} {a : Addr} (w : (Cond.stringLink own index text).before a0 Z = true) (L : Lit s own index a) (hd : decode B pc = .ok (.ldc index, 2)) (g : OGW Z Ts p e below s n0 rc rs Q (T.setTop (mkF m (pc + 2) Ls (.ref a :: st)))) : OGW Z Ts p e below s n0 rc rs Q (T.setTop (mkF m pc Ls st)) := by
  obtain ⟨⟨hx, hby, -, hown, -, -, -, hZ⟩, -, locs, -, Y⟩ := X
  exact OGW.pre (Jvm.RoadKit.ldcAgain (s := s) (vm0 := s.vm) (Z := Z) Y hx hZ hown w L (g := mkF m pc Ls st) rfl (hb hby hd)) g
theorem OGW.ldcS (X : OS B mL own nm rt Z n1 p l e R s m args below meth c T h cells slots) {index : Nat} {text : String} {vs : List Value} {z : Int32} {n : Nat} (w : (Cond.stringLink own index text).before a0 Z = true) (wS : ∀ a ∈ Bundle.stringAtoms, a.before a0 Z = true) (hs0 : s.heap.size ≤ h.size) (hn0 : s.heap.size ≤ n1) (hn1 : n0 ≤ n1) (hkeep : ∀ (b : Addr) (cl : Cell), Z.heap[b]? = some cl → s.heap[b]? = some cl) (I : IB Z s.vm T0) (hnot : text ∉ T0) (hh : Jvm.Lit.constHeld Z own index) (hcw : Jvm.Lit.compactW.before a0 Z = true)
    (ht : (∀ c ∈ text.toList, c.toNat < 256) ∧ text.toList.map (fun c => Value.int (Jvm.Lit.byteI c.toNat.toUInt16)) = vs) (hz : ¬ z < 0) (hl : z.toNatClampNeg = vs.length) (hd : decode B pc = .ok (.ldc index, 2)) (hn : 4 * text.toList.length ≤ n) (hbig : n ≤ 536870912) (hc : cells + 2 ≤ R.cells) (hl' : slots + (n + 4) ≤ R.slots)
    (g : ∀ (a b : Addr) (T' : State) (h' : Heap) (k : ClassId), OS B mL own nm rt Z n0 p l e R (s.setVm T'.vm) m args below meth c T' h' (cells + 2) (slots + (n + 4)) → Ext h h' → Exa Z h' a "java/lang/String" → Fld Z h' a "java/lang/String" "coder" "B" (.int 0) → Fld Z h' a "java/lang/String" "value" "[B" (.ref b) → Arv Z h' b k .byte z vs (.int 0) → IB Z (s.setVm T'.vm).vm (text :: T0) → Lit (s.setVm T'.vm) own index a →
      OGW Z Ts p e below (s.setVm T'.vm) n0 rc rs (fun v hh => Q v hh ∧ h'.size ≤ hh.size) (T'.setTop (mkF m (pc + 2) Ls (.ref a :: st)))) : OGW Z Ts p e below s n0 rc rs Q (T.setTop (mkF m pc Ls st)) := by
  obtain ⟨⟨hx, hby, hml, hown, hnm, hrt, hlk, hZ⟩, eT, locs, N, Y⟩ := X
  obtain ⟨a, T', h', k1, b, k, r1, r2, r3, r4, r5, r6, r7, r8, r9, r10, r11, -, -, r14, r15, r16⟩ := ldcSVL (s := s) (vm0 := s.vm) (Z := Z) Y hx hZ hown w wS eT (k0 := s.heap.size) ((State.WarmedH.refl s).since _) hs0 (fun y hy => Nat.le_trans hn0 (N y hy)) hkeep I hnot hh hcw ht hz hl (g := mkF m pc Ls st) rfl (hb hby hd) hn hbig hc hl'
  refine OGW.reb r4 (fun v hh q => ⟨q.1, Nat.le_trans r5 q.2⟩) (OGW.pre r16 (g a b T' h' k ⟨⟨hx, hby, hml, r7, hnm, hrt, hlk, r6⟩, r2, locs, fun y hy => Nat.le_trans hn1 (N y hy), r1⟩ r3 r8 r9 r10 r11 r14 r15))
theorem backOfSI {y : MethodName} {bytes : ByteArray} {maxL : Nat} {ret : Option FieldType} {rm : Room} {len W : Nat} {as' : Array Value} (hM : OMW T0 Tc l y bytes maxL ret rm [] Z as' h n0 Q) (hZ : Z.Warmed39 s.vm) (hI : IB Z s.vm T0) (wc : (Cond.code y bytes maxL ret).before a0 Z = true) (wz : (Cond.initialized y.cls).before a0 Z = true) (hf : rm.frames + 1 ≤ R.frames) (hl : W + (maxL + 11) + rm.locals ≤ R.locals) :
    BackS l R p e below s args y len W (fun A a => a = as' ∧ A.U.heap = h ∧ A.cells + rm.cells ≤ R.cells ∧ A.slots + rm.slots ≤ R.slots) (fun A _ v B => ∃ L, ((Q v B.U.heap ∧ Fr n0 L) ∧ IB Z B.U.vm Tc) ∧ B.locs = A.locs ++ L ∧ B.cells = A.cells + rm.cells ∧ B.slots = A.slots + rm.slots) := by
  refine BackS.of_freeW (bytes := bytes) (maxL := maxL) (ret := ret) (E := fun _ _ o t L k n => k = rm.cells ∧ n = rm.slots ∧ ∃ v, o = .returned v ∧ ((Q v t.heap ∧ Fr n0 L) ∧ IB Z t.vm Tc)) hM hf hl ?_ ?_ (fun _ _ _ _ _ _ _ _ _ => trivial) ?_ ?_
  · intro m meth c A a Y hp
    have hU : Z.Warmed39 A.U.vm := wtrans hZ Y.warmed
    refine ⟨?_, mv hU wc, mv hU wz, hp.2.2.1, hp.2.2.2⟩
    show (Cond.and _ .tt).before a A.U = true
    rw [Cond.before_and, mv hU wc]; rfl
  · intro m meth c A a g mk Y hp
    exact ⟨hp.1, wtrans hZ Y.warmed, hI.of (show A.U.vm.interned = _ from Y.warmed.interned_eq), hp.2.1⟩
  · rintro _ _ _ _ ⟨v, L, h1, h2, h3, h4⟩
    exact ⟨L, _, _, h3, rfl, rfl, v, h1, h2, h4⟩
  · rintro m meth c A a g mk v t L k n Y hp _ _ ⟨e1, e2, v', e3, e4⟩
    cases e3; subst e1 e2; exact ⟨L, e4, rfl, rfl, rfl⟩
theorem OGW.aconstNull (X : OS B mL own nm rt Z n1 p l e R s m args below meth c T h cells slots)  (hd : decode B pc = .ok (.aconst_null, 1))  (g : OGW Z Ts p e below s n0 rc rs Q (T.setTop (mkF m (pc + 1) Ls (.null :: st)))) : OGW Z Ts p e below s n0 rc rs Q (T.setTop (mkF m pc Ls st)) := by
  obtain ⟨⟨hx, hby, -⟩, -, locs, -, Y⟩ := X
  exact OGW.pre (fun _ k => XS.aconstNull Y.here hx rfl (hb hby hd)  k) g
theorem OGW.aload (X : OS B mL own nm rt Z n1 p l e R s m args below meth c T h cells slots) {k : Nat} {v : Value} (hd : decode B pc = .ok (.aload k, 2)) (hl : Ls[k]? = some (.val v)) (hv : v.isRef = true) (g : OGW Z Ts p e below s n0 rc rs Q (T.setTop (mkF m (pc + 2) Ls (v :: st)))) : OGW Z Ts p e below s n0 rc rs Q (T.setTop (mkF m pc Ls st)) := by
  obtain ⟨⟨hx, hby, -⟩, -, locs, -, Y⟩ := X
  exact OGW.pre (fun _ k => XS.aload Y.here hx rfl (hb hby hd) hl hv k) g
theorem OGW.aloadN (X : OS B mL own nm rt Z n1 p l e R s m args below meth c T h cells slots) {k : Fin 4} {v : Value} (hd : decode B pc = .ok (.aload_n k, 1)) (hl : Ls[k.val]? = some (.val v)) (hv : v.isRef = true) (g : OGW Z Ts p e below s n0 rc rs Q (T.setTop (mkF m (pc + 1) Ls (v :: st)))) : OGW Z Ts p e below s n0 rc rs Q (T.setTop (mkF m pc Ls st)) := by
  obtain ⟨⟨hx, hby, -⟩, -, locs, -, Y⟩ := X
  exact OGW.pre (fun _ k => XS.aloadN Y.here hx rfl (hb hby hd) hl hv k) g
theorem OGW.arraylength (X : OS B mL own nm rt Z n1 p l e R s m args below meth c T h cells slots) {a : Addr} {ty : FieldType} {n : Nat} {f : Nat → Int32} (F : Ia Z h a ty n f) {z : Int32} (hz : z.toInt = n) (hd : decode B pc = .ok (.arraylength, 1)) (g : OGW Z Ts p e below s n0 rc rs Q (T.setTop (mkF m (pc + 1) Ls (.int z :: st)))) : OGW Z Ts p e below s n0 rc rs Q (T.setTop (mkF m pc Ls (.ref a :: st))) := by
  obtain ⟨⟨hx, hby, -, -, -, -, -, hZ⟩, eT, locs, -, Y⟩ := X
  obtain ⟨cl, A, r1, r2, r3⟩ := F
  have ez : cl.slots.size.toInt32 = z := by rw [← Int32.toInt_inj, r1, len32 r2, hz]
  exact OGW.pre (fun _ k => Y.arraylength hx (by rw [eT]; exact A.1) (State.isArrayOf_alike hZ.alike A.2.1) (g := mkF m pc Ls (.ref a :: st)) rfl rfl (hb hby hd) _ (by rw [ez]; exact k)) g
theorem OGW.astore (X : OS B mL own nm rt Z n1 p l e R s m args below meth c T h cells slots) {k : Nat} {v : Value} {l' : Array Slot} (hd : decode B pc = .ok (.astore k, 2)) (hv : v.isRef = true) (hl : storeLocals Ls k v = some l') (g : OGW Z Ts p e below s n0 rc rs Q (T.setTop (mkF m (pc + 2) l' st))) : OGW Z Ts p e below s n0 rc rs Q (T.setTop (mkF m pc Ls (v :: st))) := by
  obtain ⟨⟨hx, hby, -⟩, -, locs, -, Y⟩ := X
  exact OGW.pre (fun _ k => XS.astore Y.here hx rfl (hb hby hd) rfl hv hl k) g
theorem OGW.bipush (X : OS B mL own nm rt Z n1 p l e R s m args below meth c T h cells slots) {i : Int} {z : Int32} (hd : decode B pc = .ok (.bipush i, 2)) (hz : (Int8.ofInt i).toInt32 = z) (g : OGW Z Ts p e below s n0 rc rs Q (T.setTop (mkF m (pc + 2) Ls (.int z :: st)))) : OGW Z Ts p e below s n0 rc rs Q (T.setTop (mkF m pc Ls st)) := by
  obtain ⟨⟨hx, hby, -⟩, -, locs, -, Y⟩ := X
  subst hz
  exact OGW.pre (fun _ k => XS.bipush Y.here hx rfl (hb hby hd) k) g
theorem OGW.callC (X : OS B mL own nm rt Z n1 p l e R s m args below meth c T h cells slots) {y : MethodName} {index : Nat} {Bc : ByteArray} {mc : Nat} {rmc : Room} {asc : Array Value} {Qc : Option Value → Heap → Prop} (hy1 : y.name = "<init>") (w1 : (Cond.methodLink own index y).before a0 Z = true) (w2 : (Cond.instanceMethod y).before a0 Z = true) (hy : y.cls ≠ "java/lang/invoke/MethodHandle" ∧ y.cls ≠ "java/lang/invoke/VarHandle") {a : Addr} (hM : OM l y Bc mc none rmc [] Z asc h n1 Qc) (wc : (Cond.code y Bc mc none).before a0 Z = true) (wz : (Cond.initialized y.cls).before a0 Z = true) (hfr : rmc.frames + 1 ≤ R.frames) {W : Nat} (hlo : W + (mc + 11) + rmc.locals ≤ R.locals) (hsz : Ls.size = mL) {argsL : List Value} {ps : List FieldType} {rr : Option FieldType} (hpd : parseMethodDescriptor y.desc = some ⟨ps, rr⟩) (hlen : argsL.length = ps.length) (hd : decode B pc = .ok (.invokespecial index, 3)) (has : (Value.ref a :: argsL).toArray = asc) (hW : (st.map fun v => v.category).sum ≤ W) (hcl : cells + rmc.cells ≤ R.cells) (hsl : slots + rmc.slots ≤ R.slots) (g : ∀ v T' h', OS B mL own nm rt Z n1 p l e R s m args below meth c T' h' (cells + rmc.cells) (slots + rmc.slots) → Qc v h' → OGW Z Ts p e below s n0 rc rs Q (T'.setTop (mkF m (pc + 3) Ls (v.toList ++ st)))) : OGW Z Ts p e below s n0 rc rs Q (T.setTop (mkF m pc Ls (argsL.reverse ++ .ref a :: st))) := by
  obtain ⟨h0, eT, locs, N, Y⟩ := X
  have h0' := h0
  obtain ⟨hx, hby, hml, hown, hnm, -, -, hZ⟩ := h0'
  obtain ⟨_, _, ⟨T', L', k', n'⟩, -, Y', ⟨Lc, hQ, q2, q3, q4⟩, stp⟩ := Y.specialBack hx (y := y) hy1 hown (mvT hZ w1) (mvT hZ w2) (mvT hZ wc) hy (backOf (W := W) (Z := Z) (h := h) (rm := rmc) (as' := asc) (Q := fun v hh L => Qc v hh ∧ Fr n1 L) hM hZ wc wz hfr hlo) (g := mkF m pc Ls (argsL.reverse ++ .ref a :: st)) rfl (by rw [hml]; exact hsz) (Steps.refl _) (a := a) (argsL := argsL) (rest := st) (lenOf hpd hlen) rfl (by show 2 * 0 + _ ≤ _; omega) (hb hby hd) (fun _ _ => ⟨has, eT, hcl, hsl⟩)
  dsimp only [Pt.U, Pt.locs, Pt.cells, Pt.slots] at Y' q2 q3 q4 stp hQ
  subst q2 q3 q4
  exact OGW.pre (fun _ k => stp.trans k) (g _ T' _ ⟨h0, rfl, _, Fr.app N hQ.2, Y'⟩ hQ.1)
theorem OGW.callS (X : OS B mL own nm rt Z n1 p l e R s m args below meth c T h cells slots) {y : MethodName} {index : Nat} {Bc : ByteArray} {mc : Nat} {rtc : Option FieldType} {rmc : Room} {asc : Array Value} {Qc : Option Value → Heap → Prop} (w1 : (Cond.methodLink own index y).before a0 Z = true) (w2 : (Cond.static y).before a0 Z = true) (hy : y.cls ≠ "java/lang/invoke/MethodHandle" ∧ y.cls ≠ "java/lang/invoke/VarHandle") (hM : OM l y Bc mc rtc rmc [] Z asc h n1 Qc) (wc : (Cond.code y Bc mc rtc).before a0 Z = true) (wz : (Cond.initialized y.cls).before a0 Z = true) (hfr : rmc.frames + 1 ≤ R.frames) {W : Nat} (hlo : W + (mc + 11) + rmc.locals ≤ R.locals) (hsz : Ls.size = mL) {argsL : List Value} {ps : List FieldType} {rr : Option FieldType} (hpd : parseMethodDescriptor y.desc = some ⟨ps, rr⟩) (hlen : argsL.length = ps.length) (hd : decode B pc = .ok (.invokestatic index, 3)) (has : argsL.toArray = asc) (hW : (st.map fun v => v.category).sum ≤ W) (hcl : cells + rmc.cells ≤ R.cells) (hsl : slots + rmc.slots ≤ R.slots) (g : ∀ v T' h', OS B mL own nm rt Z n1 p l e R s m args below meth c T' h' (cells + rmc.cells) (slots + rmc.slots) → Qc v h' → OGW Z Ts p e below s n0 rc rs Q (T'.setTop (mkF m (pc + 3) Ls (v.toList ++ st)))) : OGW Z Ts p e below s n0 rc rs Q (T.setTop (mkF m pc Ls (argsL.reverse ++ st))) := by
  obtain ⟨h0, eT, locs, N, Y⟩ := X
  have h0' := h0
  obtain ⟨hx, hby, hml, hown, hnm, -, -, hZ⟩ := h0'
  obtain ⟨_, _, ⟨T', L', k', n'⟩, -, Y', ⟨Lc, hQ, q2, q3, q4⟩, stp⟩ := Jvm.LawKit.callS Y hx (y := y) hown (mvT hZ w1) (mvT hZ w2) (mvT hZ wz) (mvT hZ wc) hy (backOf (W := W) (Z := Z) (h := h) (rm := rmc) (as' := asc) (Q := fun v hh L => Qc v hh ∧ Fr n1 L) hM hZ wc wz hfr hlo) (g := mkF m pc Ls (argsL.reverse ++ st)) rfl (by rw [hml]; exact hsz) (argsL := argsL) (rest := st) (lenOf hpd hlen) rfl (by show 2 * 0 + _ ≤ _; omega) (hb hby hd) (fun _ _ => ⟨has, eT, hcl, hsl⟩)
  dsimp only [Pt.U, Pt.locs, Pt.cells, Pt.slots] at Y' q2 q3 q4 stp hQ
  subst q2 q3 q4
  exact OGW.pre stp (g _ T' _ ⟨h0, rfl, _, Fr.app N hQ.2, Y'⟩ hQ.1)
theorem OGW.callV (X : OS B mL own nm rt Z n1 p l e R s m args below meth c T h cells slots) {y : MethodName} {index : Nat} {Bc : ByteArray} {mc : Nat} {rtc : Option FieldType} {rmc : Room} {asc : Array Value} {Qc : Option Value → Heap → Prop} {z : MethodName} {C : String} (w1 : (Cond.methodLink own index y).before a0 Z = true) (w2 : (Cond.declares y).before a0 Z = true) (w3 : NotFace s y) (w4 : (Cond.selects C y z).before a0 Z = true) (w5 : (Cond.instanceMethod z).before a0 Z = true) (hy : y.cls ≠ "java/lang/invoke/MethodHandle" ∧ y.cls ≠ "java/lang/invoke/VarHandle") {a : Addr} (E : Exa Z h a C) (hM : OM l z Bc mc rtc rmc [] Z asc h n1 Qc) (wc : (Cond.code z Bc mc rtc).before a0 Z = true) (wz : (Cond.initialized z.cls).before a0 Z = true) (hfr : rmc.frames + 1 ≤ R.frames) {W : Nat} (hlo : W + (mc + 11) + rmc.locals ≤ R.locals) (hsz : Ls.size = mL) {argsL : List Value} {ps : List FieldType} {rr : Option FieldType} (hpd : parseMethodDescriptor y.desc = some ⟨ps, rr⟩) (hlen : argsL.length = ps.length) (hd : decode B pc = .ok (.invokevirtual index, 3)) (has : (Value.ref a :: argsL).toArray = asc) (hW : (st.map fun v => v.category).sum ≤ W) (hcl : cells + rmc.cells ≤ R.cells) (hsl : slots + rmc.slots ≤ R.slots) (g : ∀ v T' h', OS B mL own nm rt Z n1 p l e R s m args below meth c T' h' (cells + rmc.cells) (slots + rmc.slots) → Qc v h' → OGW Z Ts p e below s n0 rc rs Q (T'.setTop (mkF m (pc + 3) Ls (v.toList ++ st)))) : OGW Z Ts p e below s n0 rc rs Q (T.setTop (mkF m pc Ls (argsL.reverse ++ .ref a :: st))) := by
  obtain ⟨h0, eT, locs, N, Y⟩ := X
  have h0' := h0
  obtain ⟨hx, hby, hml, hown, hnm, -, -, hZ⟩ := h0'
  obtain ⟨cq, kq, qa, qb, qc⟩ := isOf hZ eT E
  obtain ⟨_, _, ⟨T', L', k', n'⟩, -, Y', ⟨Lc, hQ, q2, q3, q4⟩, stp⟩ := Y.virtualBack hx (y := y) (z := z) hown (mvT hZ w1) (mvT hZ w2) w3 (mvT hZ w4) (mvT hZ w5) hy (backOf (W := W) (Z := Z) (h := h) (rm := rmc) (as' := asc) (Q := fun v hh L => Qc v hh ∧ Fr n1 L) hM hZ wc wz hfr hlo) qa qc (g := mkF m pc Ls (argsL.reverse ++ .ref a :: st)) rfl (by rw [hml]; exact hsz) (Steps.refl _) (argsL := argsL) (rest := st) (lenOf hpd hlen) rfl (by show 2 * 0 + _ ≤ _; omega) (hb hby hd) (fun _ _ => ⟨has, eT, hcl, hsl⟩)
  dsimp only [Pt.U, Pt.locs, Pt.cells, Pt.slots] at Y' q2 q3 q4 stp hQ
  subst q2 q3 q4
  exact OGW.pre (fun _ k => stp.trans k) (g _ T' _ ⟨h0, rfl, _, Fr.app N hQ.2, Y'⟩ hQ.1)
theorem OGW.castore (X : OS B mL own nm rt Z n1 p l e R s m args below meth c T h cells slots) {a : Addr} {n : Nat} {f : Nat → Int32} (F : Ia Z h a .char n f) {j x : Int32} (hj : 0 ≤ j.toInt ∧ j.toInt < n) (hd : decode B pc = .ok (.castore, 1)) (ge : n1 ≤ a) (g : ∀ T' h', OS B mL own nm rt Z n1 p l e R s m args below meth c T' h' cells slots → Wr h h' a j.toInt.toNat (.int (x.toUInt32.toUInt16.toUInt32.toInt32)) → Ia Z h' a .char n (fun i => if i = j.toInt.toNat then x.toUInt32.toUInt16.toUInt32.toInt32 else f i) → OGW Z Ts p e below s n0 rc rs Q (T'.setTop (mkF m (pc + 1) Ls st))) : OGW Z Ts p e below s n0 rc rs Q (T.setTop (mkF m pc Ls (.int x :: .int j :: .ref a :: st))) := by
  obtain ⟨h0, eT, locs, N, Y⟩ := X
  have h0' := h0
  obtain ⟨hx, hby, -, hown, hnm, -, -, hZ⟩ := h0'
  have F' := F
  obtain ⟨cl, A, r1, r2, r3⟩ := F'
  obtain ⟨T', h', Y', e', W, stp⟩ := RoadKit.stC Y hx hZ eT A (j := j) (by rw [r1]; exact idx32 hj.1 hj.2) (g := mkF m pc Ls (.int x :: .int j :: .ref a :: st)) rfl rfl (hb hby hd)
  exact OGW.pre stp (g T' h' ⟨h0, e', _, Fr.snoc Y' N ge, Y'⟩ W (F.set W))
theorem OGW.dup (X : OS B mL own nm rt Z n1 p l e R s m args below meth c T h cells slots) {x : Value} (hd : decode B pc = .ok (.dup, 1)) (hc : x.category = 1) (g : OGW Z Ts p e below s n0 rc rs Q (T.setTop (mkF m (pc + 1) Ls (x :: x :: st)))) : OGW Z Ts p e below s n0 rc rs Q (T.setTop (mkF m pc Ls (x :: st))) := by
  obtain ⟨⟨hx, hby, -⟩, -, locs, -, Y⟩ := X
  exact OGW.pre (fun _ k => XS.dup Y.here hx rfl (hb hby hd) rfl hc k) g
theorem OGW.getF (X : OS B mL own nm rt Z n1 p l e R s m args below meth c T h cells slots) {R0 O n d host : String} {index : Nat} (w : (Cond.fieldLink own index R0 n d).before a0 Z = true ∨ (Cond.fieldLinkNest own index R0 n d host).before a0 Z = true) (via : Via Z R0 O n d) {a : Addr} {v : Value} (F : Fld Z h a O n d v) (hd : decode B pc = .ok (.getfield index, 3)) (g : ∀ T', OS B mL own nm rt Z n1 p l e R s m args below meth c T' h cells slots → OGW Z Ts p e below s n0 rc rs Q (T'.setTop (mkF m (pc + 3) Ls (v :: st)))) : OGW Z Ts p e below s n0 rc rs Q (T.setTop (mkF m pc Ls (.ref a :: st))) := by
  obtain ⟨h0, eT, locs, N, Y⟩ := X
  have h0' := h0
  obtain ⟨hx, hby, -, hown, -, -, -, hZ⟩ := h0'
  obtain ⟨T', Y', e', stp⟩ := RoadKit.getF Y hx hZ hown w via eT F (g := mkF m pc Ls (.ref a :: st)) rfl rfl (hb hby hd)
  exact OGW.pre stp (g T' ⟨h0, e', locs, N, Y'⟩)
theorem OGW.getS (X : OS B mL own nm rt Z n1 p l e R s m args below meth c T h cells slots) {R0 O n d host : String} {index : Nat} (w : (Cond.fieldLink own index R0 n d).before a0 Z = true ∨ (Cond.fieldLinkNest own index R0 n d host).before a0 Z = true) (via : Via Z R0 O n d) {v : Value} (F : Sta Z h O n d v) (hd : decode B pc = .ok (.getstatic index, 3)) (g : ∀ T', OS B mL own nm rt Z n1 p l e R s m args below meth c T' h cells slots → OGW Z Ts p e below s n0 rc rs Q (T'.setTop (mkF m (pc + 3) Ls (v :: st)))) : OGW Z Ts p e below s n0 rc rs Q (T.setTop (mkF m pc Ls st)) := by
  obtain ⟨h0, eT, locs, N, Y⟩ := X
  have h0' := h0
  obtain ⟨hx, hby, -, hown, -, -, -, hZ⟩ := h0'
  obtain ⟨T', Y', e', stp⟩ := RoadKit.getS2 Y hx hZ hown w via eT F (g := mkF m pc Ls st) rfl (hb hby hd)
  exact OGW.pre stp (g T' ⟨h0, e', locs, N, Y'⟩)
theorem OGW.i2c (X : OS B mL own nm rt Z n1 p l e R s m args below meth c T h cells slots) {x : Int32} (hd : decode B pc = .ok (.i2c, 1))  (g : OGW Z Ts p e below s n0 rc rs Q (T.setTop (mkF m (pc + 1) Ls (.int (x.toUInt32.toUInt16.toUInt32.toInt32) :: st)))) : OGW Z Ts p e below s n0 rc rs Q (T.setTop (mkF m pc Ls (.int x :: st))) := by
  obtain ⟨⟨hx, hby, -⟩, -, locs, -, Y⟩ := X
  exact OGW.pre (fun _ k => XS.i2c Y.here hx rfl (hb hby hd) rfl k) g
theorem OGW.iadd (X : OS B mL own nm rt Z n1 p l e R s m args below meth c T h cells slots) {x y : Int32} (hd : decode B pc = .ok (.iadd, 1))  (g : OGW Z Ts p e below s n0 rc rs Q (T.setTop (mkF m (pc + 1) Ls (.int (x + y) :: st)))) : OGW Z Ts p e below s n0 rc rs Q (T.setTop (mkF m pc Ls (.int y :: .int x :: st))) := by
  obtain ⟨⟨hx, hby, -⟩, -, locs, -, Y⟩ := X
  exact OGW.pre (fun _ k => XS.iadd Y.here hx rfl (hb hby hd) rfl k) g
theorem OGW.iand (X : OS B mL own nm rt Z n1 p l e R s m args below meth c T h cells slots) {x y : Int32} (hd : decode B pc = .ok (.iand, 1))  (g : OGW Z Ts p e below s n0 rc rs Q (T.setTop (mkF m (pc + 1) Ls (.int (x &&& y) :: st)))) : OGW Z Ts p e below s n0 rc rs Q (T.setTop (mkF m pc Ls (.int y :: .int x :: st))) := by
  obtain ⟨⟨hx, hby, -⟩, -, locs, -, Y⟩ := X
  exact OGW.pre (fun _ k => XS.iand Y.here hx rfl (hb hby hd) rfl k) g
theorem OGW.icmp_eq_t (X : OS B mL own nm rt Z n1 p l e R s m args below meth c T h cells slots) {x y : Int32} {o : Int} {pc' : Nat} (hd : decode B pc = .ok (.if_icmp .eq o, 3)) (hp : 0 ≤ (pc : Int) + o ∧ ((pc : Int) + o).toNat = pc') (hq : x = y) (g : OGW Z Ts p e below s n0 rc rs Q (T.setTop (mkF m pc' Ls st))) : OGW Z Ts p e below s n0 rc rs Q (T.setTop (mkF m pc Ls (.int y :: .int x :: st))) := by
  obtain ⟨⟨hx, hby, -⟩, -, locs, -, Y⟩ := X
  exact OGW.pre (fun _ q => XS.icmpYes Y.here hx rfl (pc0 := pc) rfl (hb hby hd) rfl (teq hq).1 hp.1 hp.2 q) g
theorem OGW.icmp_lt_t (X : OS B mL own nm rt Z n1 p l e R s m args below meth c T h cells slots) {x y : Int32} {o : Int} {pc' : Nat} (hd : decode B pc = .ok (.if_icmp .lt o, 3)) (hp : 0 ≤ (pc : Int) + o ∧ ((pc : Int) + o).toNat = pc') (hq : x < y) (g : OGW Z Ts p e below s n0 rc rs Q (T.setTop (mkF m pc' Ls st))) : OGW Z Ts p e below s n0 rc rs Q (T.setTop (mkF m pc Ls (.int y :: .int x :: st))) := by
  obtain ⟨⟨hx, hby, -⟩, -, locs, -, Y⟩ := X
  exact OGW.pre (fun _ q => XS.icmpYes Y.here hx rfl (pc0 := pc) rfl (hb hby hd) rfl (tlt hq).1 hp.1 hp.2 q) g
theorem OGW.icmp_lt_f (X : OS B mL own nm rt Z n1 p l e R s m args below meth c T h cells slots) {x y : Int32} {o : Int} (hd : decode B pc = .ok (.if_icmp .lt o, 3)) (hq : ¬ x < y) (g : OGW Z Ts p e below s n0 rc rs Q (T.setTop (mkF m (pc + 3) Ls st))) : OGW Z Ts p e below s n0 rc rs Q (T.setTop (mkF m pc Ls (.int y :: .int x :: st))) := by
  obtain ⟨⟨hx, hby, -⟩, -, locs, -, Y⟩ := X
  exact OGW.pre (fun _ q => XS.icmpNo Y.here hx rfl (hb hby hd) rfl (flt hq).1 q) g
theorem OGW.icmp_lt (X : OS B mL own nm rt Z n1 p l e R s m args below meth c T h cells slots) {x y : Int32} {o : Int} {pc' : Nat} (hd : decode B pc = .ok (.if_icmp .lt o, 3)) (hp : 0 ≤ (pc : Int) + o ∧ ((pc : Int) + o).toNat = pc') (g1 : x < y → OGW Z Ts p e below s n0 rc rs Q (T.setTop (mkF m pc' Ls st))) (g2 : ¬ x < y → OGW Z Ts p e below s n0 rc rs Q (T.setTop (mkF m (pc + 3) Ls st))) : OGW Z Ts p e below s n0 rc rs Q (T.setTop (mkF m pc Ls (.int y :: .int x :: st))) :=
  if hq : x < y then OGW.icmp_lt_t X hd hp hq (g1 hq) else OGW.icmp_lt_f X hd hq (g2 hq)
theorem OGW.icmp_ne_f (X : OS B mL own nm rt Z n1 p l e R s m args below meth c T h cells slots) {x y : Int32} {o : Int} (hd : decode B pc = .ok (.if_icmp .ne o, 3)) (hq : x = y) (g : OGW Z Ts p e below s n0 rc rs Q (T.setTop (mkF m (pc + 3) Ls st))) : OGW Z Ts p e below s n0 rc rs Q (T.setTop (mkF m pc Ls (.int y :: .int x :: st))) := by
  obtain ⟨⟨hx, hby, -⟩, -, locs, -, Y⟩ := X
  exact OGW.pre (fun _ q => XS.icmpNo Y.here hx rfl (hb hby hd) rfl (teq hq).2 q) g
theorem OGW.icmp_ne_t (X : OS B mL own nm rt Z n1 p l e R s m args below meth c T h cells slots) {x y : Int32} {o : Int} {pc' : Nat} (hd : decode B pc = .ok (.if_icmp .ne o, 3)) (hp : 0 ≤ (pc : Int) + o ∧ ((pc : Int) + o).toNat = pc') (hq : ¬ x = y) (g : OGW Z Ts p e below s n0 rc rs Q (T.setTop (mkF m pc' Ls st))) : OGW Z Ts p e below s n0 rc rs Q (T.setTop (mkF m pc Ls (.int y :: .int x :: st))) := by
  obtain ⟨⟨hx, hby, -⟩, -, locs, -, Y⟩ := X
  exact OGW.pre (fun _ q => XS.icmpYes Y.here hx rfl (pc0 := pc) rfl (hb hby hd) rfl (feq hq).2 hp.1 hp.2 q) g
theorem OGW.icmp_ne (X : OS B mL own nm rt Z n1 p l e R s m args below meth c T h cells slots) {x y : Int32} {o : Int} {pc' : Nat} (hd : decode B pc = .ok (.if_icmp .ne o, 3)) (hp : 0 ≤ (pc : Int) + o ∧ ((pc : Int) + o).toNat = pc') (g1 : ¬ x = y → OGW Z Ts p e below s n0 rc rs Q (T.setTop (mkF m pc' Ls st))) (g2 : x = y → OGW Z Ts p e below s n0 rc rs Q (T.setTop (mkF m (pc + 3) Ls st))) : OGW Z Ts p e below s n0 rc rs Q (T.setTop (mkF m pc Ls (.int y :: .int x :: st))) :=
  if hq : x = y then OGW.icmp_ne_f X hd hq (g2 hq) else OGW.icmp_ne_t X hd hp hq (g1 hq)
theorem OGW.iconst (X : OS B mL own nm rt Z n1 p l e R s m args below meth c T h cells slots) {i : Int} {z : Int32} (hd : decode B pc = .ok (.iconst i, 1)) (hz : Int32.ofInt i = z) (g : OGW Z Ts p e below s n0 rc rs Q (T.setTop (mkF m (pc + 1) Ls (.int z :: st)))) : OGW Z Ts p e below s n0 rc rs Q (T.setTop (mkF m pc Ls st)) := by
  obtain ⟨⟨hx, hby, -⟩, -, locs, -, Y⟩ := X
  subst hz
  exact OGW.pre (fun _ k => XS.iconst Y.here hx rfl (hb hby hd) k) g
theorem OGW.if_eq_f (X : OS B mL own nm rt Z n1 p l e R s m args below meth c T h cells slots) {x : Int32} {o : Int} (hd : decode B pc = .ok (.ifCond .eq o, 3)) (hq : ¬ x = 0) (g : OGW Z Ts p e below s n0 rc rs Q (T.setTop (mkF m (pc + 3) Ls st))) : OGW Z Ts p e below s n0 rc rs Q (T.setTop (mkF m pc Ls (.int x :: st))) := by
  obtain ⟨⟨hx, hby, -⟩, -, locs, -, Y⟩ := X
  exact OGW.pre (fun _ q => XS.ifNo Y.here hx rfl (hb hby hd) rfl ((if0 _ _).trans (feq hq).1) q) g
theorem OGW.if_eq_t (X : OS B mL own nm rt Z n1 p l e R s m args below meth c T h cells slots) {x : Int32} {o : Int} {pc' : Nat} (hd : decode B pc = .ok (.ifCond .eq o, 3)) (hp : 0 ≤ (pc : Int) + o ∧ ((pc : Int) + o).toNat = pc') (hq : x = 0) (g : OGW Z Ts p e below s n0 rc rs Q (T.setTop (mkF m pc' Ls st))) : OGW Z Ts p e below s n0 rc rs Q (T.setTop (mkF m pc Ls (.int x :: st))) := by
  obtain ⟨⟨hx, hby, -⟩, -, locs, -, Y⟩ := X
  exact OGW.pre (fun _ q => XS.ifYes Y.here hx rfl (pc0 := pc) rfl (hb hby hd) rfl ((if0 _ _).trans (teq hq).1) hp.1 hp.2 q) g
theorem OGW.if_ne_f (X : OS B mL own nm rt Z n1 p l e R s m args below meth c T h cells slots) {x : Int32} {o : Int} (hd : decode B pc = .ok (.ifCond .ne o, 3)) (hq : x = 0) (g : OGW Z Ts p e below s n0 rc rs Q (T.setTop (mkF m (pc + 3) Ls st))) : OGW Z Ts p e below s n0 rc rs Q (T.setTop (mkF m pc Ls (.int x :: st))) := by
  obtain ⟨⟨hx, hby, -⟩, -, locs, -, Y⟩ := X
  exact OGW.pre (fun _ q => XS.ifNo Y.here hx rfl (hb hby hd) rfl ((if0 _ _).trans (teq hq).2) q) g
theorem OGW.if_ne_t (X : OS B mL own nm rt Z n1 p l e R s m args below meth c T h cells slots) {x : Int32} {o : Int} {pc' : Nat} (hd : decode B pc = .ok (.ifCond .ne o, 3)) (hp : 0 ≤ (pc : Int) + o ∧ ((pc : Int) + o).toNat = pc') (hq : ¬ x = 0) (g : OGW Z Ts p e below s n0 rc rs Q (T.setTop (mkF m pc' Ls st))) : OGW Z Ts p e below s n0 rc rs Q (T.setTop (mkF m pc Ls (.int x :: st))) := by
  obtain ⟨⟨hx, hby, -⟩, -, locs, -, Y⟩ := X
  exact OGW.pre (fun _ q => XS.ifYes Y.here hx rfl (pc0 := pc) rfl (hb hby hd) rfl ((if0 _ _).trans (feq hq).2) hp.1 hp.2 q) g
theorem OGW.if_ne (X : OS B mL own nm rt Z n1 p l e R s m args below meth c T h cells slots) {x : Int32} {o : Int} {pc' : Nat} (hd : decode B pc = .ok (.ifCond .ne o, 3)) (hp : 0 ≤ (pc : Int) + o ∧ ((pc : Int) + o).toNat = pc') (g1 : ¬ x = 0 → OGW Z Ts p e below s n0 rc rs Q (T.setTop (mkF m pc' Ls st))) (g2 : x = 0 → OGW Z Ts p e below s n0 rc rs Q (T.setTop (mkF m (pc + 3) Ls st))) : OGW Z Ts p e below s n0 rc rs Q (T.setTop (mkF m pc Ls (.int x :: st))) :=
  if hq : x = 0 then OGW.if_ne_f X hd hq (g2 hq) else OGW.if_ne_t X hd hp hq (g1 hq)
theorem OGW.iload (X : OS B mL own nm rt Z n1 p l e R s m args below meth c T h cells slots) {k : Nat} {v : Int32} (hd : decode B pc = .ok (.iload k, 2)) (hl : Ls[k]? = some (.val (.int v))) (g : OGW Z Ts p e below s n0 rc rs Q (T.setTop (mkF m (pc + 2) Ls (.int v :: st)))) : OGW Z Ts p e below s n0 rc rs Q (T.setTop (mkF m pc Ls st)) := by
  obtain ⟨⟨hx, hby, -⟩, -, locs, -, Y⟩ := X
  exact OGW.pre (fun _ k => XS.iload Y.here hx rfl (hb hby hd) hl k) g
theorem OGW.iloadN (X : OS B mL own nm rt Z n1 p l e R s m args below meth c T h cells slots) {k : Fin 4} {v : Int32} (hd : decode B pc = .ok (.iload_n k, 1)) (hl : Ls[k.val]? = some (.val (.int v))) (g : OGW Z Ts p e below s n0 rc rs Q (T.setTop (mkF m (pc + 1) Ls (.int v :: st)))) : OGW Z Ts p e below s n0 rc rs Q (T.setTop (mkF m pc Ls st)) := by
  obtain ⟨⟨hx, hby, -⟩, -, locs, -, Y⟩ := X
  exact OGW.pre (fun _ k => XS.iloadN Y.here hx rfl (hb hby hd) hl k) g
theorem OGW.initO (X : OS B mL own nm rt Z n1 p l e R s m args below meth c T h cells slots) {index : Nat} (w1 : (Cond.methodLink own index Lib.objectInit).before a0 Z = true) (w2 : (Cond.instanceMethod Lib.objectInit).before a0 Z = true) (w3 : (Cond.code Lib.objectInit ⟨#[0xb1]⟩ 1 none).before a0 Z = true) {a : Addr} (hd : decode B pc = .ok (.invokespecial index, 3)) (hsz : Ls.size = mL) (hf : 1 ≤ R.frames) {W : Nat} (hW : (st.map fun v => v.category).sum ≤ W) (hlo : W + 12 ≤ R.locals) (g : ∀ T', OS B mL own nm rt Z n1 p l e R s m args below meth c T' h cells slots → OGW Z Ts p e below s n0 rc rs Q (T'.setTop (mkF m (pc + 3) Ls st))) : OGW Z Ts p e below s n0 rc rs Q (T.setTop (mkF m pc Ls (.ref a :: st))) := by
  obtain ⟨h0, eT, locs, N, Y⟩ := X
  have h0' := h0
  obtain ⟨hx, hby, hml, hown, hnm, -, -, hZ⟩ := h0'
  obtain ⟨T', Y', e', stp⟩ := RoadKit.initO Y hx hZ hown w1 w2 w3 eT (g := mkF m pc Ls (.ref a :: st)) rfl (by rw [hml]; exact hsz) rfl (hb hby hd) hf (W := W) (by show 2 * 0 + _ ≤ _; omega) hlo
  exact OGW.pre stp (g T' ⟨h0, e', _, N, Y'⟩)
theorem OGW.irem (X : OS B mL own nm rt Z n1 p l e R s m args below meth c T h cells slots) {x y : Int32} (hd : decode B pc = .ok (.irem, 1)) (hy : y ≠ 0) (g : OGW Z Ts p e below s n0 rc rs Q (T.setTop (mkF m (pc + 1) Ls (.int (x % y) :: st)))) : OGW Z Ts p e below s n0 rc rs Q (T.setTop (mkF m pc Ls (.int y :: .int x :: st))) := by
  obtain ⟨⟨hx, hby, -⟩, -, locs, -, Y⟩ := X
  exact OGW.pre (fun _ k => iremM Y hx rfl (hb hby hd) rfl hy k) g
theorem OGW.istoreV (X : OS B mL own nm rt Z n1 p l e R s m args below meth c T h cells slots) {k : Nat} {v : Int32} {l' : Int32 → Array Slot} (hd : decode B pc = .ok (.istore k, 2)) (hl : ∀ z, storeLocals Ls k (.int z) = some (l' z)) (g : ∀ z, z = v → OGW Z Ts p e below s n0 rc rs Q (T.setTop (mkF m (pc + 2) (l' z) st))) : OGW Z Ts p e below s n0 rc rs Q (T.setTop (mkF m pc Ls (.int v :: st))) := by
  obtain ⟨⟨hx, hby, -⟩, -, locs, -, Y⟩ := X
  exact OGW.pre (fun _ k => XS.istore Y.here hx rfl (hb hby hd) rfl (hl v) k) (g v rfl)
theorem OGW.iushr (X : OS B mL own nm rt Z n1 p l e R s m args below meth c T h cells slots) {x y : Int32} (hd : decode B pc = .ok (.iushr, 1))  (g : OGW Z Ts p e below s n0 rc rs Q (T.setTop (mkF m (pc + 1) Ls (.int ((x.toUInt32 >>> (y &&& 31).toUInt32).toInt32) :: st)))) : OGW Z Ts p e below s n0 rc rs Q (T.setTop (mkF m pc Ls (.int y :: .int x :: st))) := by
  obtain ⟨⟨hx, hby, -⟩, -, locs, -, Y⟩ := X
  exact OGW.pre (fun _ k => XS.iushr Y.here hx rfl (hb hby hd) rfl k) g
theorem OGW.newO (X : OS B mL own nm rt Z n1 p l e R s m args below meth c T h cells slots) {C : String} {index n : Nat} (w : (Cond.classLink own index C).before a0 Z = true) (wi : (Cond.instantiable C n).before a0 Z = true) (wz : (Cond.initialized C).before a0 Z = true) (hd : decode B pc = .ok (.new index, 3)) (hc : cells + 1 ≤ R.cells) (hl : slots + n ≤ R.slots) (g : ∀ T' h' a, a = h.size → OS B mL own nm rt Z n1 p l e R s m args below meth c T' h' (cells + 1) (slots + n) → Ext h h' → Exa Z h' a C → (∀ {O nm d : String} {ty : FieldType}, Laid Z a0 C O nm d → parseFieldDescriptor d = some ty → Fld Z h' a O nm d (defaultValue ty)) → OGW Z Ts p e below s n0 rc rs Q (T'.setTop (mkF m (pc + 3) Ls (.ref a :: st)))) : OGW Z Ts p e below s n0 rc rs Q (T.setTop (mkF m pc Ls st)) := by
  obtain ⟨h0, eT, locs, N, Y⟩ := X
  have h0' := h0
  obtain ⟨hx, hby, -, hown, hnm, -, -, hZ⟩ := h0'
  obtain ⟨T', h', Y', e', E', A', D', -, stp⟩ := RoadKit.newO Y hx hZ hown w wi wz eT (g := mkF m pc Ls st) rfl (hb hby hd) hc hl
  exact OGW.pre stp (g T' h' _ rfl ⟨h0, e', _, N, Y'⟩ E' A' D')
theorem OGW.newP (X : OS B mL own nm rt Z n1 p l e R s m args below meth c T h cells slots) {aty : ArrayType} (w : (Cond.arrayClass (newarray.typeOf aty)).before a0 Z = true) {n : Int32} (hd : decode B pc = .ok (.newarray aty, 2)) (hn : ¬ n < 0) {cap : Nat} (hcap : n.toNatClampNeg ≤ cap) (hb8 : cap * 8 ≤ 536870912) (hc : cells + 1 ≤ R.cells) (hl : slots + cap ≤ R.slots) (g : ∀ T' h' a, a = h.size → OS B mL own nm rt Z n1 p l e R s m args below meth c T' h' (cells + 1) (slots + cap) → Ext h h' → (∃ cA, Arr Z h' a (newA cA (newarray.typeOf aty) n) (newarray.typeOf aty)) → OGW Z Ts p e below s n0 rc rs Q (T'.setTop (mkF m (pc + 2) Ls (.ref a :: st)))) : OGW Z Ts p e below s n0 rc rs Q (T.setTop (mkF m pc Ls (.int n :: st))) := by
  obtain ⟨h0, eT, locs, N, Y⟩ := X
  have h0' := h0
  obtain ⟨hx, hby, -, hown, hnm, -, -, hZ⟩ := h0'
  obtain ⟨T', h', cA, Y', e', E', A', stp⟩ := RoadKit.newP Y hx hZ w eT (g := mkF m pc Ls (.int n :: st)) rfl (hb hby hd) rfl hn hcap hb8 hc hl
  exact OGW.pre stp (g T' h' _ rfl ⟨h0, e', _, N, Y'⟩ E' ⟨cA, A'⟩)
theorem OGW.pop (X : OS B mL own nm rt Z n1 p l e R s m args below meth c T h cells slots) {x : Value} (hd : decode B pc = .ok (.pop, 1)) (hc : x.category = 1) (g : OGW Z Ts p e below s n0 rc rs Q (T.setTop (mkF m (pc + 1) Ls st))) : OGW Z Ts p e below s n0 rc rs Q (T.setTop (mkF m pc Ls (x :: st))) := by
  obtain ⟨⟨hx, hby, -⟩, -, locs, -, Y⟩ := X
  exact OGW.pre (fun _ k => XS.pop Y.here hx rfl (hb hby hd) rfl hc k) g
theorem OGW.putF (X : OS B mL own nm rt Z n1 p l e R s m args below meth c T h cells slots) {R0 O n d host C : String} {index kk : Nat} {ty : FieldType} (w : (Cond.fieldLink own index R0 n d).before a0 Z = true ∨ (Cond.fieldLinkNest own index R0 n d host).before a0 Z = true) (via : Via Z R0 O n d) {a : Addr} {v old : Value} (F : Fld Z h a O n d old) (E : Exa Z h a C) (L : (Cond.lays C O n d).before a0 Z = true ∨ ((Cond.laysFinal C O n d).before a0 Z = true ∧ own = O ∧ nm = "<init>")) (wi : (Cond.instantiable C kk).before a0 Z = true) (hty : parseFieldDescriptor d = some ty) (hn : narrow ty v = v) (hf : fits ty v = true) (hd : decode B pc = .ok (.putfield index, 3)) (ge : n1 ≤ a) (g : ∀ T' h', OS B mL own nm rt Z n1 p l e R s m args below meth c T' h' cells slots → Wr h h' a (slotOf Z O n d) v → OGW Z Ts p e below s n0 rc rs Q (T'.setTop (mkF m (pc + 3) Ls st))) : OGW Z Ts p e below s n0 rc rs Q (T.setTop (mkF m pc Ls (v :: .ref a :: st))) := by
  obtain ⟨h0, eT, locs, N, Y⟩ := X
  have h0' := h0
  obtain ⟨hx, hby, -, hown, hnm, -, -, hZ⟩ := h0'
  obtain ⟨T', h', Y', e', W, stp⟩ := RoadKit.putF Y hx hZ hown w via eT F E (L.imp id fun q => ⟨q.1, q.2.1, hnm.trans q.2.2⟩) wi hty hn hf (g := mkF m pc Ls (v :: .ref a :: st)) rfl rfl (hb hby hd)
  exact OGW.pre stp (g T' h' ⟨h0, e', _, Fr.snoc Y' N ge, Y'⟩ W)
theorem OGW.putFN (X : OS B mL own nm rt Z n1 p l e R s m args below meth c T h cells slots) {R0 O n d C : String} {index kk : Nat} {ty : FieldType} (w : (Cond.fieldLink own index R0 n d).before a0 Z = true) (via : Via Z R0 O n d) {a : Addr} {v v' old : Value} (F : Fld Z h a O n d old) (E : Exa Z h a C) (L : (Cond.lays C O n d).before a0 Z = true ∨ ((Cond.laysFinal C O n d).before a0 Z = true ∧ own = O ∧ nm = "<init>")) (wi : (Cond.instantiable C kk).before a0 Z = true) (hty : parseFieldDescriptor d = some ty) (hn : narrow ty v = v') (hf : fits ty v' = true) (hd : decode B pc = .ok (.putfield index, 3)) (ge : n1 ≤ a) (g : ∀ T' h', OS B mL own nm rt Z n1 p l e R s m args below meth c T' h' cells slots → Wr h h' a (slotOf Z O n d) v' → OGW Z Ts p e below s n0 rc rs Q (T'.setTop (mkF m (pc + 3) Ls st))) : OGW Z Ts p e below s n0 rc rs Q (T.setTop (mkF m pc Ls (v :: .ref a :: st))) := by
  obtain ⟨h0, eT, locs, N, Y⟩ := X
  have h0' := h0
  obtain ⟨hx, hby, -, hown, hnm, -, -, hZ⟩ := h0'
  obtain ⟨T', h', Y', e', W, stp⟩ := RoadKit.putFN Y hx hZ hown w via eT F E (L.imp id fun q => ⟨q.1, q.2.1, hnm.trans q.2.2⟩) wi hty hn hf (g := mkF m pc Ls (v :: .ref a :: st)) rfl rfl (hb hby hd)
  exact OGW.pre stp (g T' h' ⟨h0, e', _, Fr.snoc Y' N ge, Y'⟩ W)
theorem OGW.retA {w : Value} {t : FieldType} (X : OS B mL own nm (some t) Z n0 p l e R s m args below meth c T h cells slots) (hd : decode B pc = .ok (.areturn, 1)) (ht : t.isReference = true) (hw : w.isRef = true) (hc : cells ≤ rc) (hs : slots ≤ rs) (I : IB Z s.vm Ts) (hQ : Q (some w) h) : OGW Z Ts p e below s n0 rc rs Q (T.setTop (mkF m pc Ls (w :: st))) := by
  obtain ⟨⟨hx, hby, -, -, -, hrt, hlk, -⟩, eT, locs, N, Y⟩ := X
  obtain ⟨fs, hr, hrun, hended, hW, hsame⟩ := Y.leave (v := (some w)) (fun q => by first | rfl | (rw [hrt] at q; cases q)) hlk
  refine ⟨_, _, ?_, hrun, hended, _, _, rfl, ⟨?_, N⟩, ReturnedEndW.of_narrow ⟨_, rfl⟩ hW (hsame.mono hc hs), I.of (show (T.setFrames fs).vm.interned = _ from hW.interned_eq)⟩
  · exact Jvm.RoadKit.retOut (t := t) Y hx hrt (by rcases ref_cases hw with rfl | ⟨z, rfl⟩ <;> cases t <;> rfl) (Or.inr (Or.inr (Or.inr (Or.inr ⟨rfl, ht, hw⟩)))) (hb hby hd) hr
  · show Q _ T.heap
    rw [eT]; exact hQ
theorem OGW.retN {z : Int32} {t : FieldType} (X : OS B mL own nm (some t) Z n0 p l e R s m args below meth c T h cells slots) (hd : decode B pc = .ok (.ireturn, 1)) (ht : t = .boolean ∨ t = .byte ∨ t = .char ∨ t = .short) (hc : cells ≤ rc) (hs : slots ≤ rs) (I : IB Z s.vm Ts) (hQ : Q (some (.int (nar t z))) h) : OGW Z Ts p e below s n0 rc rs Q (T.setTop (mkF m pc Ls (.int z :: st))) := by
  obtain ⟨⟨hx, hby, -, -, -, hrt, hlk, -⟩, eT, locs, N, Y⟩ := X
  obtain ⟨fs, hr, hrun, hended, hW, hsame⟩ := Y.leave (v := (some (.int (nar t z)))) (fun q => by first | rfl | (rw [hrt] at q; cases q)) hlk
  refine ⟨_, _, ?_, hrun, hended, _, _, rfl, ⟨?_, N⟩, ReturnedEndW.of_narrow ⟨_, rfl⟩ hW (hsame.mono hc hs), I.of (show (T.setFrames fs).vm.interned = _ from hW.interned_eq)⟩
  · exact Jvm.RoadKit.retN Y hx (t := t) hrt ht (hb hby hd) hr
  · show Q _ T.heap
    rw [eT]; exact hQ
theorem OGW.retV  (X : OS B mL own nm none Z n0 p l e R s m args below meth c T h cells slots) (hd : decode B pc = .ok (.return_, 1))  (hc : cells ≤ rc) (hs : slots ≤ rs) (I : IB Z s.vm Ts) (hQ : Q none h) : OGW Z Ts p e below s n0 rc rs Q (T.setTop (mkF m pc Ls [])) := by
  obtain ⟨⟨hx, hby, -, -, -, hrt, hlk, -⟩, eT, locs, N, Y⟩ := X
  obtain ⟨fs, hr, hrun, hended, hW, hsame⟩ := Y.leave (v := none) (fun q => by first | rfl | (rw [hrt] at q; cases q)) hlk
  refine ⟨_, _, ?_, hrun, hended, _, _, rfl, ⟨?_, N⟩, ReturnedEndW.of_narrow ⟨_, rfl⟩ hW (hsame.mono hc hs), I.of (show (T.setFrames fs).vm.interned = _ from hW.interned_eq)⟩
  · exact Y.returnOut hx hrt (hb hby hd) hr
  · show Q _ T.heap
    rw [eT]; exact hQ
theorem OGW.sipush (X : OS B mL own nm rt Z n1 p l e R s m args below meth c T h cells slots) {i : Int} {z : Int32} (hd : decode B pc = .ok (.sipush i, 3)) (hz : (Int16.ofInt i).toInt32 = z) (g : OGW Z Ts p e below s n0 rc rs Q (T.setTop (mkF m (pc + 3) Ls (.int z :: st)))) : OGW Z Ts p e below s n0 rc rs Q (T.setTop (mkF m pc Ls st)) := by
  obtain ⟨⟨hx, hby, -⟩, -, locs, -, Y⟩ := X
  subst hz
  exact OGW.pre (fun _ k => XS.sipush Y.here hx rfl (hb hby hd) k) g
theorem OGW.callSW (X : OS B mL own nm rt Z n0 p l e R s m args below meth c T h cells slots) {y : MethodName} {index : Nat} {Bc : ByteArray} {mc : Nat} {rtc : Option FieldType} {rmc : Room} {asc : Array Value} {Qc : Option Value → Heap → Prop} (w1 : (Cond.methodLink own index y).before a0 Z = true) (w2 : (Cond.static y).before a0 Z = true) (hy : y.cls ≠ "java/lang/invoke/MethodHandle" ∧ y.cls ≠ "java/lang/invoke/VarHandle") (hI : IB Z s.vm T0) (hM : OMW T0 Tc l y Bc mc rtc rmc [] Z asc h n0 Qc) (wc : (Cond.code y Bc mc rtc).before a0 Z = true) (wz : (Cond.initialized y.cls).before a0 Z = true) (hfr : rmc.frames + 1 ≤ R.frames) {W : Nat} (hlo : W + (mc + 11) + rmc.locals ≤ R.locals) (hsz : Ls.size = mL) {argsL : List Value} {ps : List FieldType} {rr : Option FieldType} (hpd : parseMethodDescriptor y.desc = some ⟨ps, rr⟩) (hlen : argsL.length = ps.length) (hd : decode B pc = .ok (.invokestatic index, 3)) (has : argsL.toArray = asc) (hW : (st.map fun v => v.category).sum ≤ W) (hcl : cells + rmc.cells ≤ R.cells) (hsl : slots + rmc.slots ≤ R.slots) (g : ∀ v T' h', OS B mL own nm rt Z n0 p l e R (s.setVm T'.vm) m args below meth c T' h' (cells + rmc.cells) (slots + rmc.slots) → Qc v h' → IB Z (s.setVm T'.vm).vm Tc → OGW Z Ts p e below (s.setVm T'.vm) n0 rc rs (fun v hh => Q v hh ∧ h'.size ≤ hh.size) (T'.setTop (mkF m (pc + 3) Ls (v.toList ++ st)))) : OGW Z Ts p e below s n0 rc rs Q (T.setTop (mkF m pc Ls (argsL.reverse ++ st))) := by
  obtain ⟨⟨hx, hby, hml, hown, hnm, hrt, hlk, hZ⟩, eT, locs, N, Y⟩ := X
  obtain ⟨v, _, ⟨T', L', k', n'⟩, -, Y', hS, hgr, ⟨Lc, hQ, q2, q3, q4⟩, stp⟩ := Jvm.RoadKit.callSS Y hx (y := y) hown (mvT hZ w1) (mvT hZ w2) (mvT hZ wz) (mvT hZ wc) hy (backOfSI (W := W) (len := 3) hM hZ hI wc wz hfr hlo) (g := mkF m pc Ls (argsL.reverse ++ st)) rfl (by rw [hml]; exact hsz) (argsL := argsL) (rest := st) (lenOf hpd hlen) rfl (by show 2 * 0 + _ ≤ _; omega) (hb hby hd) (fun _ _ => ⟨has, eT, hcl, hsl⟩)
  dsimp only [Pt.U, Pt.locs, Pt.cells, Pt.slots] at Y' hS q2 q3 q4 stp hQ
  subst q2 q3 q4
  have hZ' : Z.Warmed39 (s.setVm T'.vm).vm := State.Warmed39.trans (t := s) hZ hS.1
  refine OGW.reb hS (fun v hh q => q) (OGW.pre (fun _ k => stp.trans k) (g _ T' _ ⟨⟨hx, hby, hml, (hS.1.alike.findClass _ _).trans hown, hnm, hrt, hlk, hZ'⟩, rfl, _, Fr.app N hQ.1.2, Y'⟩ hQ.1.1 hQ.2))
theorem OGW.callCW (X : OS B mL own nm rt Z n0 p l e R s m args below meth c T h cells slots) {y : MethodName} {index : Nat} {Bc : ByteArray} {mc : Nat} {rmc : Room} {asc : Array Value} {Qc : Option Value → Heap → Prop} (hy1 : y.name = "<init>") (w1 : (Cond.methodLink own index y).before a0 Z = true) (w2 : (Cond.instanceMethod y).before a0 Z = true) (hy : y.cls ≠ "java/lang/invoke/MethodHandle" ∧ y.cls ≠ "java/lang/invoke/VarHandle") {a : Addr} (hI : IB Z s.vm T0) (hM : OMW T0 Tc l y Bc mc none rmc [] Z asc h n0 Qc) (wc : (Cond.code y Bc mc none).before a0 Z = true) (wz : (Cond.initialized y.cls).before a0 Z = true) (hfr : rmc.frames + 1 ≤ R.frames) {W : Nat} (hlo : W + (mc + 11) + rmc.locals ≤ R.locals) (hsz : Ls.size = mL) {argsL : List Value} {ps : List FieldType} {rr : Option FieldType} (hpd : parseMethodDescriptor y.desc = some ⟨ps, rr⟩) (hlen : argsL.length = ps.length) (hd : decode B pc = .ok (.invokespecial index, 3)) (has : (Value.ref a :: argsL).toArray = asc) (hW : (st.map fun v => v.category).sum ≤ W) (hcl : cells + rmc.cells ≤ R.cells) (hsl : slots + rmc.slots ≤ R.slots) (g : ∀ v T' h', OS B mL own nm rt Z n0 p l e R (s.setVm T'.vm) m args below meth c T' h' (cells + rmc.cells) (slots + rmc.slots) → Qc v h' → IB Z (s.setVm T'.vm).vm Tc → OGW Z Ts p e below (s.setVm T'.vm) n0 rc rs (fun v hh => Q v hh ∧ h'.size ≤ hh.size) (T'.setTop (mkF m (pc + 3) Ls (v.toList ++ st)))) : OGW Z Ts p e below s n0 rc rs Q (T.setTop (mkF m pc Ls (argsL.reverse ++ .ref a :: st))) := by
  obtain ⟨⟨hx, hby, hml, hown, hnm, hrt, hlk, hZ⟩, eT, locs, N, Y⟩ := X
  obtain ⟨v, _, ⟨T', L', k', n'⟩, -, Y', hS, hgr, ⟨Lc, hQ, q2, q3, q4⟩, stp⟩ := Y.specialBackS hx (y := y) hy1 hown (mvT hZ w1) (mvT hZ w2) (mvT hZ wc) hy (backOfSI (W := W) (len := 3) hM hZ hI wc wz hfr hlo) (g := mkF m pc Ls (argsL.reverse ++ .ref a :: st)) rfl (by rw [hml]; exact hsz) (Steps.refl _) (a := a) (argsL := argsL) (rest := st) (lenOf hpd hlen) rfl (by show 2 * 0 + _ ≤ _; omega) (hb hby hd) (fun _ _ => ⟨has, eT, hcl, hsl⟩)
  dsimp only [Pt.U, Pt.locs, Pt.cells, Pt.slots] at Y' hS q2 q3 q4 stp hQ
  subst q2 q3 q4
  have hZ' : Z.Warmed39 (s.setVm T'.vm).vm := State.Warmed39.trans (t := s) hZ hS.1
  refine OGW.reb hS (fun v hh q => q) (OGW.pre (fun _ k => stp.trans k) (g _ T' _ ⟨⟨hx, hby, hml, (hS.1.alike.findClass _ _).trans hown, hnm, hrt, hlk, hZ'⟩, rfl, _, Fr.app N hQ.1.2, Y'⟩ hQ.1.1 hQ.2))
theorem OGW.callVW (X : OS B mL own nm rt Z n0 p l e R s m args below meth c T h cells slots) {y : MethodName} {index : Nat} {Bc : ByteArray} {mc : Nat} {rtc : Option FieldType} {rmc : Room} {asc : Array Value} {Qc : Option Value → Heap → Prop} {z : MethodName} {C : String} (w1 : (Cond.methodLink own index y).before a0 Z = true) (w2 : (Cond.declares y).before a0 Z = true) (w3 : NotFace s y) (w4 : (Cond.selects C y z).before a0 Z = true) (w5 : (Cond.instanceMethod z).before a0 Z = true) (hy : y.cls ≠ "java/lang/invoke/MethodHandle" ∧ y.cls ≠ "java/lang/invoke/VarHandle") {a : Addr} (E : Exa Z h a C) (hI : IB Z s.vm T0) (hM : OMW T0 Tc l z Bc mc rtc rmc [] Z asc h n0 Qc) (wc : (Cond.code z Bc mc rtc).before a0 Z = true) (wz : (Cond.initialized z.cls).before a0 Z = true) (hfr : rmc.frames + 1 ≤ R.frames) {W : Nat} (hlo : W + (mc + 11) + rmc.locals ≤ R.locals) (hsz : Ls.size = mL) {argsL : List Value} {ps : List FieldType} {rr : Option FieldType} (hpd : parseMethodDescriptor y.desc = some ⟨ps, rr⟩) (hlen : argsL.length = ps.length) (hd : decode B pc = .ok (.invokevirtual index, 3)) (has : (Value.ref a :: argsL).toArray = asc) (hW : (st.map fun v => v.category).sum ≤ W) (hcl : cells + rmc.cells ≤ R.cells) (hsl : slots + rmc.slots ≤ R.slots) (g : ∀ v T' h', OS B mL own nm rt Z n0 p l e R (s.setVm T'.vm) m args below meth c T' h' (cells + rmc.cells) (slots + rmc.slots) → Qc v h' → IB Z (s.setVm T'.vm).vm Tc → OGW Z Ts p e below (s.setVm T'.vm) n0 rc rs (fun v hh => Q v hh ∧ h'.size ≤ hh.size) (T'.setTop (mkF m (pc + 3) Ls (v.toList ++ st)))) : OGW Z Ts p e below s n0 rc rs Q (T.setTop (mkF m pc Ls (argsL.reverse ++ .ref a :: st))) := by
  obtain ⟨⟨hx, hby, hml, hown, hnm, hrt, hlk, hZ⟩, eT, locs, N, Y⟩ := X
  obtain ⟨cq, kq, qa, qb, qc⟩ := isOf hZ eT E
  obtain ⟨v, _, ⟨T', L', k', n'⟩, -, Y', hS, hgr, ⟨Lc, hQ, q2, q3, q4⟩, stp⟩ := Y.virtualBackS hx (y := y) (z := z) hown (mvT hZ w1) (mvT hZ w2) w3 (mvT hZ w4) (mvT hZ w5) hy (backOfSI (W := W) (len := 3) hM hZ hI wc wz hfr hlo) qa qc (g := mkF m pc Ls (argsL.reverse ++ .ref a :: st)) rfl (by rw [hml]; exact hsz) (Steps.refl _) (argsL := argsL) (rest := st) (lenOf hpd hlen) rfl (by show 2 * 0 + _ ≤ _; omega) (hb hby hd) (fun _ _ => ⟨has, eT, hcl, hsl⟩)
  dsimp only [Pt.U, Pt.locs, Pt.cells, Pt.slots] at Y' hS q2 q3 q4 stp hQ
  subst q2 q3 q4
  have hZ' : Z.Warmed39 (s.setVm T'.vm).vm := State.Warmed39.trans (t := s) hZ hS.1
  refine OGW.reb hS (fun v hh q => q) (OGW.pre (fun _ k => stp.trans k) (g _ T' _ ⟨⟨hx, hby, hml, (hS.1.alike.findClass _ _).trans hown, hnm, hrt, hlk, hZ'⟩, rfl, _, Fr.app N hQ.1.2, Y'⟩ hQ.1.1 hQ.2))
end OwnWide
end Jvm.RoadKit

namespace Jvm.Pilot.@@N@@
open Jvm Jvm.ClassFile Sem Op Lib Jvm.Free Jvm.Stand Jvm.LawKit Jvm.RoadKit Bundle Jvm.Pilot.@@N@@.Jvm.D
def SR (n : Nat) (f : Nat → Int32) (cd : Int32) (nn : Nat) (g : Nat → Int32) : Prop := (cd = 0 ∧ nn = n ∧ ∀ i, i < n → (f i).toInt ≤ 255 ∧ g i = (f i).toInt8.toInt32) ∨ (cd = 1 ∧ nn = 2 * n ∧ ∀ i, i < n → g (2 * i) = (f i).toInt8.toInt32 ∧ g (2 * i + 1) = (f i >>> ((8 : Int32) &&& 31)).toInt8.toInt32)
def CH (n : Nat) (f : Nat → Int32) : Prop := ∀ i, i < n → 0 ≤ (f i).toInt ∧ (f i).toInt < 65536
theorem own_sh {i : Int32} (h : 0 ≤ i.toInt ∧ i.toInt ≤ 1002) : (i <<< ((1 : Int32) &&& 31)).toInt = 2 * i.toInt := by
  have h1 := c_ishl i 1 1 (by decide)
  have h2 := rng32 (i <<< ((1 : Int32) &&& 31))
  have h3 : ((2 ^ 1 : Nat) : Int) = 2 := by decide
  rw [h3] at h1
  omega
theorem own_sh1 {i : Int32} (h : 0 ≤ i.toInt ∧ i.toInt ≤ 1002) : ((i <<< ((1 : Int32) &&& 31)) + 1).toInt = 2 * i.toInt + 1 := by
  have h1 := own_sh h
  have h2 := c_iadd (i <<< ((1 : Int32) &&& 31)) 1
  have h3 := rng32 ((i <<< ((1 : Int32) &&& 31)) + 1)
  have h4 : (1 : Int32).toInt = 1 := rfl
  omega
theorem own_succ {i : Int32} (h : 0 ≤ i.toInt ∧ i.toInt ≤ 1002) : (i + 1).toInt = i.toInt + 1 := by
  have h2 := c_iadd i 1
  have h3 := rng32 (i + 1)
  have h4 : (1 : Int32).toInt = 1 := rfl
  omega
theorem own_i2b (x : Int32) : x.toInt8.toInt32.toInt8.toInt32 = x.toInt8.toInt32 := by
  rw [← Int32.toInt_inj]
  have h1 := c_i2b x
  have h2 := c_i2b x.toInt8.toInt32
  omega
theorem own_b255 (x : Int32) : ((x.toInt8.toInt32) &&& 255).toInt = x.toInt % 256 := by
  have h1 := c_i2b x
  have h2 := c_mask x.toInt8.toInt32 255 8 (by decide) (by decide)
  have h3 : ((2 ^ 8 : Nat) : Int) = 256 := by decide
  rw [h3] at h2
  omega
theorem own_c2c {x : Int32} (h : 0 ≤ x.toInt ∧ x.toInt < 65536) : x.toUInt32.toUInt16.toUInt32.toInt32 = x := by
  rw [← Int32.toInt_inj]
  have := c_i2c x
  omega
/-- Latin1.charAt -/
theorem own_l1 {ch : Int32} (h : 0 ≤ ch.toInt ∧ ch.toInt ≤ 255) : ((ch.toInt8.toInt32) &&& 255).toUInt32.toUInt16.toUInt32.toInt32 = ch := by
  have h1 := own_b255 ch
  rw [own_c2c (by omega), ← Int32.toInt_inj]; omega
theorem own_16 {ch : Int32} (h : 0 ≤ ch.toInt ∧ ch.toInt < 65536) : (((ch.toInt8.toInt32 &&& 255) <<< ((0 : Int32) &&& 31)) ||| (((ch >>> ((8 : Int32) &&& 31)).toInt8.toInt32 &&& 255) <<< ((8 : Int32) &&& 31))).toUInt32.toUInt16.toUInt32.toInt32 = ch := by
  have h1 := own_b255 ch
  have h2 := own_b255 (ch >>> ((8 : Int32) &&& 31))
  have h3 := c_ishr ch 8 8 (by decide)
  have e8 : ((2 ^ 8 : Nat) : Int) = 256 := by decide
  have e0 : ((2 ^ 0 : Nat) : Int) = 1 := by decide
  rw [e8] at h3
  generalize hA : (ch.toInt8.toInt32 &&& 255) = A at *
  generalize hB : ((ch >>> ((8 : Int32) &&& 31)).toInt8.toInt32 &&& 255) = B at *
  have h4 := c_ishl A 0 0 (by decide)
  have h5 := c_ishl B 8 8 (by decide)
  rw [e0] at h4
  rw [e8] at h5
  have r4 := rng32 (A <<< ((0 : Int32) &&& 31))
  have r5 := rng32 (B <<< ((8 : Int32) &&& 31))
  generalize A <<< ((0 : Int32) &&& 31) = A' at *
  generalize B <<< ((8 : Int32) &&& 31) = B' at *
  have h6 := c_or' A' B' 8 (by decide) 256 (by decide) (by omega) (by omega) (by omega)
  have r6 := rng32 (A' ||| B')
  rw [own_c2c (by omega), ← Int32.toInt_inj]; omega

def L1 (n : Nat) (f g : Nat → Int32) : Prop := ∀ i, i < n → ((f i).toInt ≤ 255 ∧ 0 ≤ (f i).toInt) ∧ g i = (f i).toInt8.toInt32
def CB (n : Nat) (f : Nat → Int32) : Prop := ∀ i, i < n → 0 ≤ (f i).toInt ∧ (f i).toInt ≤ 255
theorem notFaceSame {y y' : MethodName} {args : Array Value} {s : State} (hc : y'.cls = y.cls) (wd' : (Cond.declares y').before args s = true) (nf : NotFace s y') : NotFace s y := by
  intro r0 hn
  obtain ⟨r1, r', hn', -⟩ := Cond.declares_spec wd'
  obtain ⟨k, hk, hki⟩ := nf r1 hn'
  have hc1 := findClass_of_methodNamed hn
  have hc2 := findClass_of_methodNamed hn'
  rw [hc] at hc2
  have e : r0.cls = r1.cls := Option.some.inj (hc1.symm.trans hc2)
  exact ⟨k, by rw [e]; exact hk, hki⟩
theorem pn_38 : plainName "jdk/internal/util/Preconditions" = true := by first | (simp [plainName, overriddenIn]; done) | decide +kernel
theorem ef_38 (m : MethodId) (i : Int32) (t : Int32) (fw : Value) (hk_fw : fw.isRef = true) : entryFrame m #[(.int i), (.int t), fw] 3 = mkF m 0 #[.val (.int i), .val (.int t), .val fw] [] := by rcases ref_cases hk_fw with rfl | ⟨_, rfl⟩ <;> first | (simp [entryFrame, mkF, argsToLocals, Value.category]; done) | rfl
def Q38 (Z : State) (i : Int32) (t : Int32) (fw : Value)  (h0 : Heap) : Option Value → Heap → Prop := fun v h => v = some (.int i) ∧ h = h0
theorem d38_0 : decode jdk_41_method_11_code 0 = .ok (.iload_n 0, 1) := by decide +kernel
theorem d38_1 : decode jdk_41_method_11_code 1 = .ok (.ifCond .lt 8, 3) := by decide +kernel
theorem d38_4 : decode jdk_41_method_11_code 4 = .ok (.iload_n 0, 1) := by decide +kernel
theorem d38_5 : decode jdk_41_method_11_code 5 = .ok (.iload_n 1, 1) := by decide +kernel
theorem d38_6 : decode jdk_41_method_11_code 6 = .ok (.if_icmp .lt 10, 3) := by decide +kernel
theorem d38_16 : decode jdk_41_method_11_code 16 = .ok (.iload_n 0, 1) := by decide +kernel
theorem d38_17 : decode jdk_41_method_11_code 17 = .ok (.ireturn, 1) := by decide +kernel
abbrev room38 : Room := { frames := 0, cells := 0, slots := 0, locals := 0 }
set_option maxRecDepth 65536 in
set_option maxHeartbeats 40000000 in
theorem rm38 (l : Launch) (Z : State) (a0 : Array Value) (hw : ∀ d ∈ tables_1, d.before a0 Z = true) (ws : List Jvm.Cond) (i : Int32) (t : Int32) (fw : Value)  (h0 : Heap) (n0 : Nat)  (hk_fw : fw.isRef = true) (h1 : ¬ i < 0) (h2 : i < t) :
    OM l (⟨"jdk/internal/util/Preconditions", "checkIndex", "(IILjava/util/function/BiFunction;)I"⟩ : MethodName) jdk_41_method_11_code 3 (some .int) room38 ws Z #[(.int i), (.int t), fw] h0 n0 (Q38 Z i t fw  h0) := by
  refine OM.of (plainFor_of_name pn_38) (fun m => ef_38 m i t fw hk_fw) ?_
  intro p e s m below meth c T X
  refine OG.iloadN X d38_0 rfl ?_
  refine OG.if_lt_f X d38_1 h1 ?_
  refine OG.iloadN X d38_4 rfl ?_
  refine OG.iloadN X d38_5 rfl ?_
  refine OG.icmp_lt_t X d38_6 (pc' := 16) (by decide) h2 ?_
  refine OG.iloadN X d38_16 rfl ?_
  exact OG.retI X d38_17 (by decide) (by decide) ⟨rfl, rfl⟩
theorem pn_37 : plainName "java/lang/String" = true := by first | (simp [plainName, overriddenIn]; done) | decide +kernel
theorem ef_37 (m : MethodId) (i : Int32) (t : Int32) : entryFrame m #[(.int i), (.int t)] 2 = mkF m 0 #[.val (.int i), .val (.int t)] [] := by first | (simp [entryFrame, mkF, argsToLocals, Value.category]; done) | rfl
def Q37 (Z : State) (i : Int32) (t : Int32) (fw : Value) (h0 : Heap) : Option Value → Heap → Prop := fun v h => v = none ∧ h = h0
theorem d37_0 : decode jdk_42_method_155_code 0 = .ok (.iload_n 0, 1) := by decide +kernel
theorem d37_1 : decode jdk_42_method_155_code 1 = .ok (.iload_n 1, 1) := by decide +kernel
theorem d37_2 : decode jdk_42_method_155_code 2 = .ok (.getstatic 1053, 3) := by decide +kernel
theorem d37_5 : decode jdk_42_method_155_code 5 = .ok (.invokestatic 1059, 3) := by decide +kernel
theorem pd_0 : parseMethodDescriptor "(IILjava/util/function/BiFunction;)I" = some ⟨[.int, .int, (.object "java/util/function/BiFunction")], some .int⟩ := by decide +kernel
theorem d37_8 : decode jdk_42_method_155_code 8 = .ok (.pop, 1) := by decide +kernel
theorem d37_9 : decode jdk_42_method_155_code 9 = .ok (.return_, 1) := by decide +kernel
abbrev room37 : Room := { frames := 1, cells := 0, slots := 0, locals := 14 }
set_option maxRecDepth 65536 in
set_option maxHeartbeats 40000000 in
theorem rm37 (l : Launch) (Z : State) (a0 : Array Value) (hw : ∀ d ∈ tables_1, d.before a0 Z = true) (ws : List Jvm.Cond) (i : Int32) (t : Int32) (fw : Value) (h0 : Heap) (n0 : Nat) (S_f : Sta Z h0 "jdk/internal/util/Preconditions" "SIOOBE_FORMATTER" "Ljava/util/function/BiFunction;" fw) (hk_fw : fw.isRef = true) (h1 : ¬ i < 0) (h2 : i < t) :
    OM l (⟨"java/lang/String", "checkIndex", "(II)V"⟩ : MethodName) jdk_42_method_155_code 2 none room37 ws Z #[(.int i), (.int t)] h0 n0 (Q37 Z i t fw h0) := by
  refine OM.of (plainFor_of_name pn_37) (fun m => ef_37 m i t) ?_
  intro p e s m below meth c T X
  refine OG.iloadN X d37_0 rfl ?_
  refine OG.iloadN X d37_1 rfl ?_
  refine OG.getS X (host := "") (Or.inl (hw _ (List.mem_of_getElem? (i := 195) rfl))) Via.refl S_f d37_2 ?_
  intro T1 X1
  refine OG.callS X1 (hw _ (List.mem_of_getElem? (i := 197) rfl)) (hw _ (List.mem_of_getElem? (i := 198) rfl)) (by decide) (rm38 l Z a0 hw [] i t fw h0 n0 hk_fw h1 h2) (hw _ (List.mem_of_getElem? (i := 199) rfl)) (hw _ (List.mem_of_getElem? (i := 196) rfl)) (by decide) (W := 0) (by decide) rfl (argsL := [(.int i), (.int t), fw]) pd_0 rfl d37_5 rfl (Nat.le_of_eq rfl) (by decide) (by decide) ?_
  rintro _ T2 h3 X2 ⟨rfl, eh3⟩
  rw [eh3] at X2
  show OG p e below s n0 room37.cells room37.slots (Q37 Z i t fw h0) (T2.setTop (mkF m 8 #[.val (.int i), .val (.int t)] [(.int i)]))
  refine OG.pop X2 d37_8 rfl ?_
  exact OG.retV X2 d37_9 (by decide) (by decide) ⟨rfl, rfl⟩
theorem own_nn {i : Int32} {n : Nat} (h : 0 ≤ i.toInt ∧ i.toInt < n) : ¬ i < 0 := fun q => by
  rw [Int32.lt_iff_toInt_lt] at q; have : (0 : Int32).toInt = 0 := rfl
  omega
theorem own_it {i z : Int32} {n : Nat} (h : 0 ≤ i.toInt ∧ i.toInt < n) (hz : z.toInt = n) : i < z := by
  rw [Int32.lt_iff_toInt_lt]; omega
theorem own_ci {i z : Int32} {n : Nat} (h : 0 ≤ i.toInt ∧ i.toInt ≤ n) (hz : z.toInt = n) (q : i < z) : 0 ≤ i.toInt ∧ i.toInt < n := by
  rw [Int32.lt_iff_toInt_lt] at q; omega
theorem own_ce {i z : Int32} {n : Nat} (h : 0 ≤ i.toInt ∧ i.toInt ≤ n) (hz : z.toInt = n) (q : ¬ i < z) : i.toInt.toNat = n := by
  rw [Int32.lt_iff_toInt_lt] at q; omega
theorem d36_0 : decode jdk_43_method_2_code 0 = .ok (.iload_n 1, 1) := by decide +kernel
theorem d36_1 : decode jdk_43_method_2_code 1 = .ok (.aload_n 0, 1) := by decide +kernel
theorem d36_2 : decode jdk_43_method_2_code 2 = .ok (.arraylength, 1) := by decide +kernel
theorem d36_3 : decode jdk_43_method_2_code 3 = .ok (.invokestatic 9, 3) := by decide +kernel
theorem pd_1 : parseMethodDescriptor "(II)V" = some ⟨[.int, .int], none⟩ := by decide +kernel
theorem d36_6 : decode jdk_43_method_2_code 6 = .ok (.aload_n 0, 1) := by decide +kernel
theorem d36_7 : decode jdk_43_method_2_code 7 = .ok (.iload_n 1, 1) := by decide +kernel
theorem d36_8 : decode jdk_43_method_2_code 8 = .ok (.baload, 1) := by decide +kernel
theorem d36_9 : decode jdk_43_method_2_code 9 = .ok (.sipush 255, 3) := by decide +kernel
theorem d36_12 : decode jdk_43_method_2_code 12 = .ok (.iand, 1) := by decide +kernel
theorem d36_13 : decode jdk_43_method_2_code 13 = .ok (.i2c, 1) := by decide +kernel
theorem d36_14 : decode jdk_43_method_2_code 14 = .ok (.ireturn, 1) := by decide +kernel
def F36 (i : Int32) (z : Int32) (g : Nat → Int32) : Int32 := ((((g i.toInt.toNat) &&& (255 : Int32)).toUInt32.toUInt16.toUInt32.toInt32)).toUInt32.toUInt16.toUInt32.toInt32
theorem pn_36 : plainName "java/lang/StringLatin1" = true := by first | (simp [plainName, overriddenIn]; done) | decide +kernel
theorem ef_36 (m : MethodId) (b : Addr) (i : Int32) : entryFrame m #[(.ref b), (.int i)] 2 = mkF m 0 #[.val (.ref b), .val (.int i)] [] := by first | (simp [entryFrame, mkF, argsToLocals, Value.category]; done) | rfl
def Q36 (Z : State) (b : Addr) (i : Int32) (z : Int32) (nn : Nat) (g : Nat → Int32) (fw : Value) (h0 : Heap) : Option Value → Heap → Prop := fun v h => v = some (.int (F36 i z g)) ∧ h = h0
abbrev room36 : Room := { frames := 2, cells := 0, slots := 0, locals := 27 }
set_option maxRecDepth 65536 in
set_option maxHeartbeats 40000000 in
theorem rm36 (l : Launch) (Z : State) (a0 : Array Value) (hw : ∀ d ∈ tables_1, d.before a0 Z = true) (ws : List Jvm.Cond) (b : Addr) (i : Int32) (z : Int32) (nn : Nat) (g : Nat → Int32) (fw : Value) (h0 : Heap) (n0 : Nat) (A_b : Ia Z h0 b .byte nn g) (hz : z.toInt = nn) (hi : 0 ≤ i.toInt ∧ i.toInt < nn) (S_f : Sta Z h0 "jdk/internal/util/Preconditions" "SIOOBE_FORMATTER" "Ljava/util/function/BiFunction;" fw) (hk_fw : fw.isRef = true) :
    OM l (⟨"java/lang/StringLatin1", "charAt", "([BI)C"⟩ : MethodName) jdk_43_method_2_code 2 (some .char) room36 ws Z #[(.ref b), (.int i)] h0 n0 (Q36 Z b i z nn g fw h0) := by
  refine OM.of (plainFor_of_name pn_36) (fun m => ef_36 m b i) ?_
  intro p e s m below meth c T X
  refine OG.iloadN X d36_0 rfl ?_
  refine OG.aloadN X d36_1 rfl rfl ?_
  refine OG.arraylength X A_b (z := z) hz d36_2 ?_
  refine OG.callS X (hw _ (List.mem_of_getElem? (i := 192) rfl)) (hw _ (List.mem_of_getElem? (i := 193) rfl)) (by decide) (rm37 l Z a0 hw [] i z fw h0 n0 S_f hk_fw (own_nn hi) (own_it hi hz)) (hw _ (List.mem_of_getElem? (i := 194) rfl)) (hw _ (List.mem_of_getElem? (i := 6) rfl)) (by decide) (W := 0) (by decide) rfl (argsL := [(.int i), (.int z)]) pd_1 rfl d36_3 rfl (Nat.le_of_eq rfl) (by decide) (by decide) ?_
  rintro _ T1 h2 X1 ⟨rfl, eh2⟩
  rw [eh2] at X1
  show OG p e below s n0 room36.cells room36.slots (Q36 Z b i z nn g fw h0) (T1.setTop (mkF m 6 #[.val (.ref b), .val (.int i)] []))
  refine OG.aloadN X1 d36_6 rfl rfl ?_
  refine OG.iloadN X1 d36_7 rfl ?_
  refine OG.baload X1 A_b hi d36_8 ?_
  refine OG.sipush X1 d36_9 (z := (255 : Int32)) rfl ?_
  refine OG.iand X1 d36_12 ?_
  refine OG.i2c X1 d36_13 ?_
  exact OG.retN X1 (t := .char) d36_14 (by simp) (by decide) (by decide) ⟨rfl, rfl⟩
theorem own_c1 {n : Nat} {f g : Nat → Int32} {i z : Int32} (hi : 0 ≤ i.toInt ∧ i.toInt < n) (h : L1 n f g) : F36 i z g = f i.toInt.toNat := by
  have q := h i.toInt.toNat (by omega)
  rw [F36, q.2, own_l1 ⟨q.1.2, q.1.1⟩, own_c2c (by omega)]
theorem pn_18 : plainName "java/lang/String" = true := by first | (simp [plainName, overriddenIn]; done) | decide +kernel
theorem ef_18 (m : MethodId) (a : Addr) : entryFrame m #[(.ref a)] 1 = mkF m 0 #[.val (.ref a)] [] := by first | (simp [entryFrame, mkF, argsToLocals, Value.category]; done) | rfl
def Q18 (Z : State) (a : Addr) (b : Addr) (nn : Nat) (g : Nat → Int32) (cz z : Int32) (h0 : Heap) : Option Value → Heap → Prop := fun v h => v = some (.int (0 : Int32)) ∧ h = h0
theorem d18_0 : decode jdk_42_method_152_code 0 = .ok (.getstatic 38, 3) := by decide +kernel
theorem d18_3 : decode jdk_42_method_152_code 3 = .ok (.ifCond .eq 10, 3) := by decide +kernel
theorem d18_6 : decode jdk_42_method_152_code 6 = .ok (.aload_n 0, 1) := by decide +kernel
theorem d18_7 : decode jdk_42_method_152_code 7 = .ok (.getfield 15, 3) := by decide +kernel
theorem d18_10 : decode jdk_42_method_152_code 10 = .ok (.goto 4, 3) := by decide +kernel
theorem d18_14 : decode jdk_42_method_152_code 14 = .ok (.ireturn, 1) := by decide +kernel
abbrev room18 : Room := { frames := 0, cells := 0, slots := 0, locals := 0 }
set_option maxRecDepth 65536 in
set_option maxHeartbeats 40000000 in
theorem rm18 (l : Launch) (Z : State) (a0 : Array Value) (hw : ∀ d ∈ tables_1, d.before a0 Z = true) (ws : List Jvm.Cond) (a : Addr) (b : Addr) (nn : Nat) (g : Nat → Int32) (cz z : Int32) (h0 : Heap) (n0 : Nat) (S_c : Sta Z h0 "java/lang/String" "COMPACT_STRINGS" "Z" (.int cz)) (hcz : ¬ cz = 0) (E_a : Exa Z h0 a "java/lang/String") (F_c : Fld Z h0 a "java/lang/String" "coder" "B" (.int 0)) (F_v : Fld Z h0 a "java/lang/String" "value" "[B" (.ref b)) (A_b : Ia Z h0 b .byte nn g) (hz : z.toInt = nn) :
    OM l (⟨"java/lang/String", "coder", "()B"⟩ : MethodName) jdk_42_method_152_code 1 (some .byte) room18 ws Z #[(.ref a)] h0 n0 (Q18 Z a b nn g cz z h0) := by
  refine OM.of (plainFor_of_name pn_18) (fun m => ef_18 m a) ?_
  intro p e s m below meth c T X
  refine OG.getS X (host := "") (Or.inl (hw _ (List.mem_of_getElem? (i := 8) rfl))) Via.refl S_c d18_0 ?_
  intro T1 X1
  refine OG.if_eq_f X1 d18_3 hcz ?_
  refine OG.aloadN X1 d18_6 rfl rfl ?_
  refine OG.getF X1 (host := "") (Or.inl (hw _ (List.mem_of_getElem? (i := 28) rfl))) Via.refl F_c d18_7 ?_
  intro T2 X2
  refine OG.goto X2 d18_10 (pc' := 14) (by decide) ?_
  exact OG.retN X2 (t := .byte) d18_14 (by simp) (by decide) (by decide) ⟨rfl, rfl⟩
theorem pn_35 : plainName "java/lang/String" = true := by first | (simp [plainName, overriddenIn]; done) | decide +kernel
theorem ef_35 (m : MethodId) (a : Addr) : entryFrame m #[(.ref a)] 1 = mkF m 0 #[.val (.ref a)] [] := by first | (simp [entryFrame, mkF, argsToLocals, Value.category]; done) | rfl
def Q35 (Z : State) (a : Addr) (b : Addr) (nn : Nat) (g : Nat → Int32) (cz z : Int32) (h0 : Heap) : Option Value → Heap → Prop := fun v h => v = some (.int (1 : Int32)) ∧ h = h0
theorem d35_0 : decode jdk_42_method_154_code 0 = .ok (.getstatic 38, 3) := by decide +kernel
theorem d35_3 : decode jdk_42_method_154_code 3 = .ok (.ifCond .eq 14, 3) := by decide +kernel
theorem d35_6 : decode jdk_42_method_154_code 6 = .ok (.aload_n 0, 1) := by decide +kernel
theorem d35_7 : decode jdk_42_method_154_code 7 = .ok (.getfield 15, 3) := by decide +kernel
theorem d35_10 : decode jdk_42_method_154_code 10 = .ok (.ifCond .ne 7, 3) := by decide +kernel
theorem d35_13 : decode jdk_42_method_154_code 13 = .ok (.iconst 1, 1) := by decide +kernel
theorem d35_14 : decode jdk_42_method_154_code 14 = .ok (.goto 4, 3) := by decide +kernel
theorem d35_18 : decode jdk_42_method_154_code 18 = .ok (.ireturn, 1) := by decide +kernel
abbrev room35 : Room := { frames := 0, cells := 0, slots := 0, locals := 0 }
set_option maxRecDepth 65536 in
set_option maxHeartbeats 40000000 in
theorem rm35 (l : Launch) (Z : State) (a0 : Array Value) (hw : ∀ d ∈ tables_1, d.before a0 Z = true) (ws : List Jvm.Cond) (a : Addr) (b : Addr) (nn : Nat) (g : Nat → Int32) (cz z : Int32) (h0 : Heap) (n0 : Nat) (S_c : Sta Z h0 "java/lang/String" "COMPACT_STRINGS" "Z" (.int cz)) (hcz : ¬ cz = 0) (E_a : Exa Z h0 a "java/lang/String") (F_c : Fld Z h0 a "java/lang/String" "coder" "B" (.int 0)) (F_v : Fld Z h0 a "java/lang/String" "value" "[B" (.ref b)) (A_b : Ia Z h0 b .byte nn g) (hz : z.toInt = nn) :
    OM l (⟨"java/lang/String", "isLatin1", "()Z"⟩ : MethodName) jdk_42_method_154_code 1 (some .boolean) room35 ws Z #[(.ref a)] h0 n0 (Q35 Z a b nn g cz z h0) := by
  refine OM.of (plainFor_of_name pn_35) (fun m => ef_35 m a) ?_
  intro p e s m below meth c T X
  refine OG.getS X (host := "") (Or.inl (hw _ (List.mem_of_getElem? (i := 8) rfl))) Via.refl S_c d35_0 ?_
  intro T1 X1
  refine OG.if_eq_f X1 d35_3 hcz ?_
  refine OG.aloadN X1 d35_6 rfl rfl ?_
  refine OG.getF X1 (host := "") (Or.inl (hw _ (List.mem_of_getElem? (i := 28) rfl))) Via.refl F_c d35_7 ?_
  intro T2 X2
  refine OG.if_ne_f X2 d35_10 (by decide) ?_
  refine OG.iconst X2 d35_13 (z := (1 : Int32)) rfl ?_
  refine OG.goto X2 d35_14 (pc' := 18) (by decide) ?_
  exact OG.retN X2 (t := .boolean) d35_18 (by simp) (by decide) (by decide) ⟨rfl, rfl⟩
theorem own_s0 (z : Int32) : z >>> ((0 : Int32) &&& 31) = z := by
  rw [← Int32.toInt_inj]; have := c_ishr z 0 0 (by decide); have e : ((2 ^ 0 : Nat) : Int) = 1 := by decide
  rw [e] at this; omega
theorem pn_17 : plainName "java/lang/String" = true := by first | (simp [plainName, overriddenIn]; done) | decide +kernel
theorem ef_17 (m : MethodId) (a : Addr) : entryFrame m #[(.ref a)] 1 = mkF m 0 #[.val (.ref a)] [] := by first | (simp [entryFrame, mkF, argsToLocals, Value.category]; done) | rfl
def Q17 (Z : State) (a : Addr) (b : Addr) (nn : Nat) (g : Nat → Int32) (cz z : Int32) (h0 : Heap) : Option Value → Heap → Prop := fun v h => v = some (.int z) ∧ h = h0
theorem d17_0 : decode jdk_42_method_54_code 0 = .ok (.aload_n 0, 1) := by decide +kernel
theorem d17_1 : decode jdk_42_method_54_code 1 = .ok (.getfield 9, 3) := by decide +kernel
theorem d17_4 : decode jdk_42_method_54_code 4 = .ok (.arraylength, 1) := by decide +kernel
theorem d17_5 : decode jdk_42_method_54_code 5 = .ok (.aload_n 0, 1) := by decide +kernel
theorem d17_6 : decode jdk_42_method_54_code 6 = .ok (.invokevirtual 335, 3) := by decide +kernel
theorem pd_2 : parseMethodDescriptor "()B" = some ⟨[], some .byte⟩ := by decide +kernel
theorem d17_9 : decode jdk_42_method_54_code 9 = .ok (.ishr, 1) := by decide +kernel
theorem d17_10 : decode jdk_42_method_54_code 10 = .ok (.ireturn, 1) := by decide +kernel
abbrev room17 : Room := { frames := 1, cells := 0, slots := 0, locals := 13 }
set_option maxRecDepth 65536 in
set_option maxHeartbeats 40000000 in
theorem rm17 (l : Launch) (Z : State) (a0 : Array Value) (hw : ∀ d ∈ tables_1, d.before a0 Z = true) (ws : List Jvm.Cond) (a : Addr) (b : Addr) (nn : Nat) (g : Nat → Int32) (cz z : Int32) (h0 : Heap) (n0 : Nat) (S_c : Sta Z h0 "java/lang/String" "COMPACT_STRINGS" "Z" (.int cz)) (hcz : ¬ cz = 0) (E_a : Exa Z h0 a "java/lang/String") (F_c : Fld Z h0 a "java/lang/String" "coder" "B" (.int 0)) (F_v : Fld Z h0 a "java/lang/String" "value" "[B" (.ref b)) (A_b : Ia Z h0 b .byte nn g) (hz : z.toInt = nn) :
    OM l (⟨"java/lang/String", "length", "()I"⟩ : MethodName) jdk_42_method_54_code 1 (some .int) room17 ws Z #[(.ref a)] h0 n0 (Q17 Z a b nn g cz z h0) := by
  refine OM.of (plainFor_of_name pn_17) (fun m => ef_17 m a) ?_
  intro p e s m below meth c T X
  refine OG.aloadN X d17_0 rfl rfl ?_
  refine OG.getF X (host := "") (Or.inl (hw _ (List.mem_of_getElem? (i := 26) rfl))) Via.refl F_v d17_1 ?_
  intro T1 X1
  refine OG.arraylength X1 A_b (z := z) hz d17_4 ?_
  refine OG.aloadN X1 d17_5 rfl rfl ?_
  refine OG.callV X1 (hw _ (List.mem_of_getElem? (i := 100) rfl)) (hw _ (List.mem_of_getElem? (i := 101) rfl)) (notFace_of_selects (args := #[]) (mvT X1.warm (hw _ (List.mem_of_getElem? (i := 103) rfl)))) (hw _ (List.mem_of_getElem? (i := 103) rfl)) (hw _ (List.mem_of_getElem? (i := 102) rfl)) (by decide) E_a (rm18 l Z a0 hw [] a b _ g cz z h0 n0 S_c hcz E_a F_c F_v A_b hz ) (hw _ (List.mem_of_getElem? (i := 104) rfl)) (hw _ (List.mem_of_getElem? (i := 6) rfl)) (by decide) (W := 1) (by decide) rfl (argsL := []) pd_2 rfl d17_6 rfl (Nat.le_of_eq rfl) (by decide) (by decide) ?_
  rintro _ T2 h3 X2 ⟨rfl, eh3⟩
  rw [eh3] at X2
  show OG p e below s n0 room17.cells room17.slots (Q17 Z a b nn g cz z h0) (T2.setTop (mkF m 9 #[.val (.ref a)] [(.int (0 : Int32)), (.int z)]))
  refine OG.ishr X2 d17_9 ?_
  exact OG.retI X2 d17_10 (by decide) (by decide) ⟨congrArg (fun z : Int32 => some (Value.int z)) (own_s0 z), rfl⟩
theorem pn_11 : plainName "java/lang/String" = true := by first | (simp [plainName, overriddenIn]; done) | decide +kernel
theorem ef_11 (m : MethodId) (a : Addr) : entryFrame m #[(.ref a)] 1 = mkF m 0 #[.val (.ref a)] [] := by first | (simp [entryFrame, mkF, argsToLocals, Value.category]; done) | rfl
def Q11 (Z : State) (a : Addr) (b : Addr) (nn : Nat) (g : Nat → Int32) (cz z : Int32) (h0 : Heap) : Option Value → Heap → Prop := fun v h => v = some (.int 0) ∧ h = h0
theorem d11_0 : decode jdk_42_method_55_code 0 = .ok (.aload_n 0, 1) := by decide +kernel
theorem d11_1 : decode jdk_42_method_55_code 1 = .ok (.getfield 9, 3) := by decide +kernel
theorem d11_4 : decode jdk_42_method_55_code 4 = .ok (.arraylength, 1) := by decide +kernel
theorem d11_5 : decode jdk_42_method_55_code 5 = .ok (.ifCond .ne 7, 3) := by decide +kernel
theorem d11_12 : decode jdk_42_method_55_code 12 = .ok (.iconst 0, 1) := by decide +kernel
theorem d11_13 : decode jdk_42_method_55_code 13 = .ok (.ireturn, 1) := by decide +kernel
abbrev room11 : Room := { frames := 0, cells := 0, slots := 0, locals := 0 }
set_option maxRecDepth 65536 in
set_option maxHeartbeats 40000000 in
theorem rm11 (l : Launch) (Z : State) (a0 : Array Value) (hw : ∀ d ∈ tables_1, d.before a0 Z = true) (ws : List Jvm.Cond) (a : Addr) (b : Addr) (nn : Nat) (g : Nat → Int32) (cz z : Int32) (h0 : Heap) (n0 : Nat) (S_c : Sta Z h0 "java/lang/String" "COMPACT_STRINGS" "Z" (.int cz)) (hcz : ¬ cz = 0) (E_a : Exa Z h0 a "java/lang/String") (F_c : Fld Z h0 a "java/lang/String" "coder" "B" (.int 0)) (F_v : Fld Z h0 a "java/lang/String" "value" "[B" (.ref b)) (A_b : Ia Z h0 b .byte nn g) (hz : z.toInt = nn) (hne : ¬ z = 0) :
    OM l (⟨"java/lang/String", "isEmpty", "()Z"⟩ : MethodName) jdk_42_method_55_code 1 (some .boolean) room11 ws Z #[(.ref a)] h0 n0 (Q11 Z a b nn g cz z h0) := by
  refine OM.of (plainFor_of_name pn_11) (fun m => ef_11 m a) ?_
  intro p e s m below meth c T X
  refine OG.aloadN X d11_0 rfl rfl ?_
  refine OG.getF X (host := "") (Or.inl (hw _ (List.mem_of_getElem? (i := 26) rfl))) Via.refl F_v d11_1 ?_
  intro T1 X1
  refine OG.arraylength X1 A_b (z := z) hz d11_4 ?_
  refine OG.if_ne_t X1 d11_5 (pc' := 12) (by decide) hne ?_
  refine OG.iconst X1 d11_12 (z := (0 : Int32)) rfl ?_
  exact OG.retN X1 (t := .boolean) d11_13 (by simp) (by decide) (by decide) ⟨rfl, rfl⟩
theorem pn_34 : plainName "java/lang/String" = true := by first | (simp [plainName, overriddenIn]; done) | decide +kernel
theorem ef_34 (m : MethodId) (a : Addr) (i : Int32) : entryFrame m #[(.ref a), (.int i)] 2 = mkF m 0 #[.val (.ref a), .val (.int i)] [] := by first | (simp [entryFrame, mkF, argsToLocals, Value.category]; done) | rfl
def Q34 (Z : State) (a : Addr) (i : Int32) (b : Addr) (nn : Nat) (g : Nat → Int32) (cz z : Int32) (fw : Value) (f : Nat → Int32) (h0 : Heap) : Option Value → Heap → Prop := fun v h => v = some (.int (f i.toInt.toNat)) ∧ h = h0
theorem d34_0 : decode jdk_42_method_56_code 0 = .ok (.aload_n 0, 1) := by decide +kernel
theorem d34_1 : decode jdk_42_method_56_code 1 = .ok (.invokevirtual 492, 3) := by decide +kernel
theorem pd_3 : parseMethodDescriptor "()Z" = some ⟨[], some .boolean⟩ := by decide +kernel
theorem d34_4 : decode jdk_42_method_56_code 4 = .ok (.ifCond .eq 12, 3) := by decide +kernel
theorem d34_7 : decode jdk_42_method_56_code 7 = .ok (.aload_n 0, 1) := by decide +kernel
theorem d34_8 : decode jdk_42_method_56_code 8 = .ok (.getfield 9, 3) := by decide +kernel
theorem d34_11 : decode jdk_42_method_56_code 11 = .ok (.iload_n 1, 1) := by decide +kernel
theorem d34_12 : decode jdk_42_method_56_code 12 = .ok (.invokestatic 495, 3) := by decide +kernel
theorem pd_4 : parseMethodDescriptor "([BI)C" = some ⟨[(.array .byte), .int], some .char⟩ := by decide +kernel
theorem d34_15 : decode jdk_42_method_56_code 15 = .ok (.ireturn, 1) := by decide +kernel
abbrev room34 : Room := { frames := 3, cells := 0, slots := 0, locals := 40 }
set_option maxRecDepth 65536 in
set_option maxHeartbeats 40000000 in
theorem rm34 (l : Launch) (Z : State) (a0 : Array Value) (hw : ∀ d ∈ tables_1, d.before a0 Z = true) (ws : List Jvm.Cond) (a : Addr) (i : Int32) (b : Addr) (nn : Nat) (g : Nat → Int32) (cz z : Int32) (fw : Value) (f : Nat → Int32) (h0 : Heap) (n0 : Nat) (S_c : Sta Z h0 "java/lang/String" "COMPACT_STRINGS" "Z" (.int cz)) (hcz : ¬ cz = 0) (E_a : Exa Z h0 a "java/lang/String") (F_c : Fld Z h0 a "java/lang/String" "coder" "B" (.int 0)) (F_v : Fld Z h0 a "java/lang/String" "value" "[B" (.ref b)) (A_b : Ia Z h0 b .byte nn g) (hz : z.toInt = nn) (hi : 0 ≤ i.toInt ∧ i.toInt < nn) (hl1 : L1 nn f g) (S_f : Sta Z h0 "jdk/internal/util/Preconditions" "SIOOBE_FORMATTER" "Ljava/util/function/BiFunction;" fw) (hk_fw : fw.isRef = true) :
    OM l (⟨"java/lang/String", "charAt", "(I)C"⟩ : MethodName) jdk_42_method_56_code 2 (some .char) room34 ws Z #[(.ref a), (.int i)] h0 n0 (Q34 Z a i b nn g cz z fw f h0) := by
  refine OM.of (plainFor_of_name pn_34) (fun m => ef_34 m a i) ?_
  intro p e s m below meth c T X
  refine OG.aloadN X d34_0 rfl rfl ?_
  refine OG.callV X (hw _ (List.mem_of_getElem? (i := 184) rfl)) (hw _ (List.mem_of_getElem? (i := 185) rfl)) (notFace_of_selects (args := #[]) (mvT X.warm (hw _ (List.mem_of_getElem? (i := 187) rfl)))) (hw _ (List.mem_of_getElem? (i := 187) rfl)) (hw _ (List.mem_of_getElem? (i := 186) rfl)) (by decide) E_a (rm35 l Z a0 hw [] a b _ g cz z h0 n0 S_c hcz E_a F_c F_v A_b hz ) (hw _ (List.mem_of_getElem? (i := 188) rfl)) (hw _ (List.mem_of_getElem? (i := 6) rfl)) (by decide) (W := 0) (by decide) rfl (argsL := []) pd_3 rfl d34_1 rfl (Nat.le_of_eq rfl) (by decide) (by decide) ?_
  rintro _ T1 h2 X1 ⟨rfl, eh2⟩
  rw [eh2] at X1
  show OG p e below s n0 room34.cells room34.slots (Q34 Z a i b nn g cz z fw f h0) (T1.setTop (mkF m 4 #[.val (.ref a), .val (.int i)] [(.int (1 : Int32))]))
  refine OG.if_eq_f X1 d34_4 (by decide) ?_
  refine OG.aloadN X1 d34_7 rfl rfl ?_
  refine OG.getF X1 (host := "") (Or.inl (hw _ (List.mem_of_getElem? (i := 26) rfl))) Via.refl F_v d34_8 ?_
  intro T3 X3
  refine OG.iloadN X3 d34_11 rfl ?_
  refine OG.callS X3 (hw _ (List.mem_of_getElem? (i := 189) rfl)) (hw _ (List.mem_of_getElem? (i := 190) rfl)) (by decide) (OM.weak (rm36 l Z a0 hw [] b i z nn g fw h0 n0 A_b hz hi S_f hk_fw) (Q' := fun v h => v = some (.int (f i.toInt.toNat)) ∧ h = h0) (fun _ _ q => ⟨q.1.trans (congrArg (fun z : Int32 => some (Value.int z)) (own_c1 hi hl1)), q.2⟩)) (hw _ (List.mem_of_getElem? (i := 191) rfl)) (hw _ (List.mem_of_getElem? (i := 11) rfl)) (by decide) (W := 0) (by decide) rfl (argsL := [(.ref b), (.int i)]) pd_4 rfl d34_12 rfl (Nat.le_of_eq rfl) (by decide) (by decide) ?_
  rintro _ T4 h5 X4 ⟨rfl, eh5⟩
  rw [eh5] at X4
  show OG p e below s n0 room34.cells room34.slots (Q34 Z a i b nn g cz z fw f h0) (T4.setTop (mkF m 15 #[.val (.ref a), .val (.int i)] [(.int (f i.toInt.toNat))]))
  exact OG.retN X4 (t := .char) d34_15 (by simp) (by decide) (by decide) ⟨congrArg (fun z : Int32 => some (Value.int z)) (own_c2c (by have := (hl1 i.toInt.toNat (by omega)).1; omega)), rfl⟩
theorem d3_0 : decode jdk_43_method_3_code 0 = .ok (.iload_n 0, 1) := by decide +kernel
theorem d3_1 : decode jdk_43_method_3_code 1 = .ok (.sipush 255, 3) := by decide +kernel
theorem d3_4 : decode jdk_43_method_3_code 4 = .ok (.if_icmp .gt 7, 3) := by decide +kernel
theorem d3_11 : decode jdk_43_method_3_code 11 = .ok (.iconst 0, 1) := by decide +kernel
theorem d3_12 : decode jdk_43_method_3_code 12 = .ok (.ireturn, 1) := by decide +kernel
theorem d3_7 : decode jdk_43_method_3_code 7 = .ok (.iconst 1, 1) := by decide +kernel
theorem d3_8 : decode jdk_43_method_3_code 8 = .ok (.goto 4, 3) := by decide +kernel
def F3 (q : Int32) : Int32 := (if (255 : Int32) < q then (0 : Int32) else (1 : Int32))
theorem pn_3 : plainName "java/lang/StringLatin1" = true := by first | (simp [plainName, overriddenIn]; done) | decide +kernel
theorem ef_3 (m : MethodId) (q : Int32) : entryFrame m #[(.int q)] 1 = mkF m 0 #[.val (.int q)] [] := by first | (simp [entryFrame, mkF, argsToLocals, Value.category]; done) | rfl
def Q3 (Z : State) (q : Int32)  (h0 : Heap) : Option Value → Heap → Prop := fun v h => v = some (.int (F3 q)) ∧ h = h0
abbrev room3 : Room := { frames := 0, cells := 0, slots := 0, locals := 0 }
set_option maxRecDepth 65536 in
set_option maxHeartbeats 40000000 in
theorem rm3 (l : Launch) (Z : State) (a0 : Array Value) (hw : ∀ d ∈ tables_1, d.before a0 Z = true) (ws : List Jvm.Cond) (q : Int32)  (h0 : Heap) (n0 : Nat)  :
    OM l (⟨"java/lang/StringLatin1", "canEncode", "(C)Z"⟩ : MethodName) jdk_43_method_3_code 1 (some .boolean) room3 ws Z #[(.int q)] h0 n0 (Q3 Z q  h0) := by
  refine OM.of (plainFor_of_name pn_3) (fun m => ef_3 m q) ?_
  intro p e s m below meth c T X
  refine OG.iloadN X d3_0 rfl ?_
  refine OG.sipush X d3_1 (z := (255 : Int32)) rfl ?_
  refine OG.icmp_gt X d3_4 (pc' := 11) (by decide) ?_ ?_
  · intro c4
    refine OG.iconst X d3_11 (z := (0 : Int32)) rfl ?_
    exact OG.retN X (t := .boolean) d3_12 (by simp) (by decide) (by decide) ⟨by rw [F3, if_pos c4]; try rfl, rfl⟩
  · intro c4
    refine OG.iconst X d3_7 (z := (1 : Int32)) rfl ?_
    refine OG.goto X d3_8 (pc' := 12) (by decide) ?_
    exact OG.retN X (t := .boolean) d3_12 (by simp) (by decide) (by decide) ⟨by rw [F3, if_neg c4]; try rfl, rfl⟩
theorem pn_4 : plainName "java/lang/StringLatin1" = true := by first | (simp [plainName, overriddenIn]; done) | decide +kernel
theorem ef_4 (m : MethodId) (ch : Int32) : entryFrame m #[(.int ch)] 1 = mkF m 0 #[.val (.int ch)] [] := by first | (simp [entryFrame, mkF, argsToLocals, Value.category]; done) | rfl
def Q4 (Z : State) (ch : Int32)  (h0 : Heap) : Option Value → Heap → Prop := fun v h => ∃ (rb : Addr) (g : Nat → Int32), v = some (.ref rb) ∧ h0.size ≤ rb ∧ Keep h0 h [] ∧ Ia Z h rb .byte 1 g ∧ g 0 = ch.toInt8.toInt32
theorem d4_0 : decode jdk_43_method_46_code 0 = .ok (.iconst 1, 1) := by decide +kernel
theorem d4_1 : decode jdk_43_method_46_code 1 = .ok (.newarray .byte, 2) := by decide +kernel
theorem d4_3 : decode jdk_43_method_46_code 3 = .ok (.dup, 1) := by decide +kernel
theorem d4_4 : decode jdk_43_method_46_code 4 = .ok (.iconst 0, 1) := by decide +kernel
theorem d4_5 : decode jdk_43_method_46_code 5 = .ok (.iload_n 0, 1) := by decide +kernel
theorem d4_6 : decode jdk_43_method_46_code 6 = .ok (.i2b, 1) := by decide +kernel
theorem d4_7 : decode jdk_43_method_46_code 7 = .ok (.bastore, 1) := by decide +kernel
theorem d4_8 : decode jdk_43_method_46_code 8 = .ok (.areturn, 1) := by decide +kernel
abbrev room4 : Room := { frames := 0, cells := 1, slots := 1, locals := 0 }
set_option maxRecDepth 65536 in
set_option maxHeartbeats 40000000 in
theorem rm4 (l : Launch) (Z : State) (a0 : Array Value) (hw : ∀ d ∈ tables_1, d.before a0 Z = true) (ws : List Jvm.Cond) (ch : Int32)  (h0 : Heap) (n0 : Nat) (Z0 : n0 ≤ h0.size) :
    OM l (⟨"java/lang/StringLatin1", "toBytes", "(C)[B"⟩ : MethodName) jdk_43_method_46_code 1 (some (.array .byte)) room4 ws Z #[(.int ch)] h0 n0 (Q4 Z ch  h0) := by
  refine OM.of (plainFor_of_name pn_4) (fun m => ef_4 m ch) ?_
  intro p e s m below meth c T X
  have K0 : Keep h0 h0 [] := Keep.refl _ _
  refine OG.iconst X d4_0 (z := (1 : Int32)) rfl ?_
  refine OG.newP X (hw _ (List.mem_of_getElem? (i := 18) rfl)) d4_1 (by decide) (cap := 1) (by decide) (by decide) (by decide) (by decide) ?_
  rintro T1 h2 b4 gb4 X1 E3 ⟨cAb4, Nb4⟩
  have g_b4 : n0 ≤ b4 := Nat.le_trans Z0 (Nat.le_of_eq gb4.symm)
  have sz_b4 : h0.size ≤ b4 := Nat.le_trans K0.1 (Nat.le_of_eq gb4.symm)
  replace Z0 := Nat.le_trans Z0 E3.1
  replace K0 := K0.ext E3
  have A_b4 : Ia Z h2 b4 .byte 1 (fun _ => 0) := Ia.new Nb4 (by decide) rfl rfl
  refine OG.dup X1 d4_3 rfl ?_
  refine OG.iconst X1 d4_4 (z := (0 : Int32)) rfl ?_
  refine OG.iloadN X1 d4_5 rfl ?_
  refine OG.i2b X1 d4_6 ?_
  refine OG.bastore X1 A_b4 (by decide) d4_7 g_b4 ?_
  intro T5 h6 X5 W7 A5
  replace Z0 := Nat.le_trans Z0 (Keep.of_wr W7).1
  replace K0 := K0.wr W7 (Or.inr sz_b4)
  replace A_b4 := A5
  exact OG.retA X5 d4_8 rfl rfl (by decide) (by decide) ⟨b4, _, rfl, sz_b4, K0, A_b4, own_i2b ch⟩
theorem pn_5 : plainName "java/lang/String" = true := by first | (simp [plainName, overriddenIn]; done) | decide +kernel
theorem ef_5 (m : MethodId) (a : Addr) (b : Addr) (q : Int32) : entryFrame m #[(.ref a), (.ref b), (.int q)] 3 = mkF m 0 #[.val (.ref a), .val (.ref b), .val (.int q)] [] := by first | (simp [entryFrame, mkF, argsToLocals, Value.category]; done) | rfl
def Q5 (Z : State) (a : Addr) (b : Addr) (q : Int32)  (h0 : Heap) : Option Value → Heap → Prop := fun v h => v = none ∧ Keep h0 h [a] ∧ Exa Z h a "java/lang/String" ∧ Fld Z h a "java/lang/String" "coder" "B" (.int q.toInt8.toInt32) ∧ Fld Z h a "java/lang/String" "value" "[B" (.ref b)
theorem d5_0 : decode jdk_42_method_151_code 0 = .ok (.aload_n 0, 1) := by decide +kernel
theorem d5_1 : decode jdk_42_method_151_code 1 = .ok (.invokespecial 1, 3) := by decide +kernel
theorem d5_4 : decode jdk_42_method_151_code 4 = .ok (.aload_n 0, 1) := by decide +kernel
theorem d5_5 : decode jdk_42_method_151_code 5 = .ok (.aload_n 1, 1) := by decide +kernel
theorem d5_6 : decode jdk_42_method_151_code 6 = .ok (.putfield 9, 3) := by decide +kernel
theorem d5_9 : decode jdk_42_method_151_code 9 = .ok (.aload_n 0, 1) := by decide +kernel
theorem d5_10 : decode jdk_42_method_151_code 10 = .ok (.iload_n 2, 1) := by decide +kernel
theorem d5_11 : decode jdk_42_method_151_code 11 = .ok (.putfield 15, 3) := by decide +kernel
theorem d5_14 : decode jdk_42_method_151_code 14 = .ok (.return_, 1) := by decide +kernel
abbrev room5 : Room := { frames := 1, cells := 0, slots := 0, locals := 12 }
set_option maxRecDepth 65536 in
set_option maxHeartbeats 40000000 in
theorem rm5 (l : Launch) (Z : State) (a0 : Array Value) (hw : ∀ d ∈ tables_1, d.before a0 Z = true) (ws : List Jvm.Cond) (a : Addr) (b : Addr) (q : Int32)  (h0 : Heap) (n0 : Nat) (Z0 : n0 ≤ h0.size) (E_a : Exa Z h0 a "java/lang/String") (g_a : n0 ≤ a) (F_coder_a : Fld Z h0 a "java/lang/String" "coder" "B" (.int (0 : Int32))) (F_value_a : Fld Z h0 a "java/lang/String" "value" "[B" .null) :
    OM l (⟨"java/lang/String", "<init>", "([BB)V"⟩ : MethodName) jdk_42_method_151_code 3 none room5 ws Z #[(.ref a), (.ref b), (.int q)] h0 n0 (Q5 Z a b q  h0) := by
  refine OM.of (plainFor_of_name pn_5) (fun m => ef_5 m a b q) ?_
  intro p e s m below meth c T X
  have K0 : Keep h0 h0 [a] := Keep.refl _ _
  refine OG.aloadN X d5_0 rfl rfl ?_
  refine OG.initO X (hw _ (List.mem_of_getElem? (i := 23) rfl)) (hw _ (List.mem_of_getElem? (i := 24) rfl)) (hw _ (List.mem_of_getElem? (i := 25) rfl)) d5_1 rfl (by decide) (W := 0) (Nat.le_of_eq rfl) (by decide) ?_
  intro T1 X1
  refine OG.aloadN X1 d5_4 rfl rfl ?_
  refine OG.aloadN X1 d5_5 rfl rfl ?_
  refine OG.putF X1 (host := "") (Or.inl (hw _ (List.mem_of_getElem? (i := 26) rfl))) Via.refl F_value_a E_a (Or.inr ⟨(hw _ (List.mem_of_getElem? (i := 27) rfl)), rfl, rfl⟩) (hw _ (List.mem_of_getElem? (i := 14) rfl)) (ty := (.array .byte)) (by decide) rfl rfl d5_6 g_a ?_
  intro T2 h3 X2 W4
  replace E_a := E_a.wr W4
  replace F_coder_a := F_coder_a.other W4 (Or.inr (slot_ne (Or.inr (hw _ (List.mem_of_getElem? (i := 29) rfl))) (Or.inr (hw _ (List.mem_of_getElem? (i := 27) rfl))) (by decide) (t := .byte) (t' := (.array .byte)) (by decide) (by decide)))
  replace F_value_a := F_value_a.same W4
  replace Z0 := Nat.le_trans Z0 (Keep.of_wr W4).1
  replace K0 := K0.wr W4 (Or.inl (by simp))
  refine OG.aloadN X2 d5_9 rfl rfl ?_
  refine OG.iloadN X2 d5_10 rfl ?_
  refine OG.putFN X2 (hw _ (List.mem_of_getElem? (i := 28) rfl)) Via.refl F_coder_a E_a (Or.inr ⟨(hw _ (List.mem_of_getElem? (i := 29) rfl)), rfl, rfl⟩) (hw _ (List.mem_of_getElem? (i := 14) rfl)) (ty := .byte) (v' := .int q.toInt8.toInt32) (by decide) rfl (fits_nar_byte _) d5_11 g_a ?_
  intro T5 h6 X5 W7
  replace E_a := E_a.wr W7
  replace F_coder_a := F_coder_a.same W7
  replace F_value_a := F_value_a.other W7 (Or.inr (slot_ne (Or.inr (hw _ (List.mem_of_getElem? (i := 27) rfl))) (Or.inr (hw _ (List.mem_of_getElem? (i := 29) rfl))) (by decide) (t := (.array .byte)) (t' := .byte) (by decide) (by decide)))
  replace Z0 := Nat.le_trans Z0 (Keep.of_wr W7).1
  replace K0 := K0.wr W7 (Or.inl (by simp))
  exact OG.retV X5 d5_14 (by decide) (by decide) ⟨rfl, K0, E_a, F_coder_a, F_value_a⟩
theorem own_b0 : (0 : Int32).toInt8.toInt32 = 0 := by decide
theorem own_ce1 {ch : Int32} (h : 0 ≤ ch.toInt ∧ ch.toInt ≤ 255) : ¬ F3 ch = 0 := by
  have e : (255 : Int32).toInt = 255 := rfl
  rw [F3, if_neg (by rw [Int32.lt_iff_toInt_lt]; omega)]; decide
theorem pn_2 : plainName "java/lang/String" = true := by first | (simp [plainName, overriddenIn]; done) | decide +kernel
theorem ef_2 (m : MethodId) (ch : Int32) : entryFrame m #[(.int ch)] 1 = mkF m 0 #[.val (.int ch)] [] := by first | (simp [entryFrame, mkF, argsToLocals, Value.category]; done) | rfl
def Q2 (Z : State) (ch : Int32) (cz : Int32) (h0 : Heap) : Option Value → Heap → Prop := fun v h => ∃ (a rb : Addr) (g : Nat → Int32), v = some (.ref a) ∧ h0.size ≤ a ∧ Keep h0 h [] ∧ Exa Z h a "java/lang/String" ∧ Fld Z h a "java/lang/String" "coder" "B" (.int 0) ∧ Fld Z h a "java/lang/String" "value" "[B" (.ref rb) ∧ Ia Z h rb .byte 1 g ∧ g 0 = ch.toInt8.toInt32
theorem d2_0 : decode jdk_42_method_139_code 0 = .ok (.getstatic 38, 3) := by decide +kernel
theorem d2_3 : decode jdk_42_method_139_code 3 = .ok (.ifCond .eq 23, 3) := by decide +kernel
theorem d2_6 : decode jdk_42_method_139_code 6 = .ok (.iload_n 0, 1) := by decide +kernel
theorem d2_7 : decode jdk_42_method_139_code 7 = .ok (.invokestatic 1015, 3) := by decide +kernel
theorem pd_5 : parseMethodDescriptor "(C)Z" = some ⟨[.char], some .boolean⟩ := by decide +kernel
theorem d2_10 : decode jdk_42_method_139_code 10 = .ok (.ifCond .eq 16, 3) := by decide +kernel
theorem d2_13 : decode jdk_42_method_139_code 13 = .ok (.new 10, 3) := by decide +kernel
theorem d2_16 : decode jdk_42_method_139_code 16 = .ok (.dup, 1) := by decide +kernel
theorem d2_17 : decode jdk_42_method_139_code 17 = .ok (.iload_n 0, 1) := by decide +kernel
theorem d2_18 : decode jdk_42_method_139_code 18 = .ok (.invokestatic 1018, 3) := by decide +kernel
theorem pd_6 : parseMethodDescriptor "(C)[B" = some ⟨[.char], some (.array .byte)⟩ := by decide +kernel
theorem d2_21 : decode jdk_42_method_139_code 21 = .ok (.iconst 0, 1) := by decide +kernel
theorem d2_22 : decode jdk_42_method_139_code 22 = .ok (.invokespecial 209, 3) := by decide +kernel
theorem pd_7 : parseMethodDescriptor "([BB)V" = some ⟨[(.array .byte), .byte], none⟩ := by decide +kernel
theorem d2_25 : decode jdk_42_method_139_code 25 = .ok (.areturn, 1) := by decide +kernel
abbrev room2 : Room := { frames := 2, cells := 2, slots := 5, locals := 27 }
set_option maxRecDepth 65536 in
set_option maxHeartbeats 40000000 in
theorem rm2 (l : Launch) (Z : State) (a0 : Array Value) (hw : ∀ d ∈ tables_1, d.before a0 Z = true) (ws : List Jvm.Cond) (ch : Int32) (cz : Int32) (h0 : Heap) (n0 : Nat) (Z0 : n0 ≤ h0.size) (hch : 0 ≤ ch.toInt ∧ ch.toInt ≤ 255) (S_c : Sta Z h0 "java/lang/String" "COMPACT_STRINGS" "Z" (.int cz)) (hcz : ¬ cz = 0) :
    OM l (⟨"java/lang/String", "valueOf", "(C)Ljava/lang/String;"⟩ : MethodName) jdk_42_method_139_code 1 (some (.object "java/lang/String")) room2 ws Z #[(.int ch)] h0 n0 (Q2 Z ch cz h0) := by
  refine OM.of (plainFor_of_name pn_2) (fun m => ef_2 m ch) ?_
  intro p e s m below meth c T X
  have K0 : Keep h0 h0 [] := Keep.refl _ _
  refine OG.getS X (host := "") (Or.inl (hw _ (List.mem_of_getElem? (i := 8) rfl))) Via.refl S_c d2_0 ?_
  intro T1 X1
  refine OG.if_eq_f X1 d2_3 hcz ?_
  refine OG.iloadN X1 d2_6 rfl ?_
  refine OG.callS X1 (hw _ (List.mem_of_getElem? (i := 9) rfl)) (hw _ (List.mem_of_getElem? (i := 10) rfl)) (by decide) (rm3 l Z a0 hw [] ch h0 n0) (hw _ (List.mem_of_getElem? (i := 12) rfl)) (hw _ (List.mem_of_getElem? (i := 11) rfl)) (by decide) (W := 0) (by decide) rfl (argsL := [(.int ch)]) pd_5 rfl d2_7 rfl (Nat.le_of_eq rfl) (by decide) (by decide) ?_
  rintro _ T2 h3 X2 ⟨rfl, eh3⟩
  rw [eh3] at X2
  show OG p e below s n0 room2.cells room2.slots (Q2 Z ch cz h0) (T2.setTop (mkF m 10 #[.val (.int ch)] [(.int (F3 ch))]))
  refine OG.if_eq_f X2 d2_10 (own_ce1 hch) ?_
  refine OG.newO X2 (hw _ (List.mem_of_getElem? (i := 13) rfl)) (hw _ (List.mem_of_getElem? (i := 14) rfl)) (hw _ (List.mem_of_getElem? (i := 6) rfl)) d2_13 (by decide) (by decide) ?_
  intro T4 h5 b7 gb7 X4 E6 E_b7 D_b7
  have g_b7 : n0 ≤ b7 := Nat.le_trans Z0 (Nat.le_of_eq gb7.symm)
  have sz_b7 : h0.size ≤ b7 := Nat.le_trans K0.1 (Nat.le_of_eq gb7.symm)
  replace S_c := S_c.ext E6
  replace Z0 := Nat.le_trans Z0 E6.1
  replace K0 := K0.ext E6
  have F_value_b7 : Fld Z h5 b7 "java/lang/String" "value" "[B" .null := D_b7 (Or.inr (hw _ (List.mem_of_getElem? (i := 27) rfl))) (ty := (.array .byte)) (by decide)
  have F_coder_b7 : Fld Z h5 b7 "java/lang/String" "coder" "B" (.int 0) := D_b7 (Or.inr (hw _ (List.mem_of_getElem? (i := 29) rfl))) (ty := .byte) (by decide)
  refine OG.dup X4 d2_16 rfl ?_
  refine OG.iloadN X4 d2_17 rfl ?_
  refine OG.callS X4 (hw _ (List.mem_of_getElem? (i := 15) rfl)) (hw _ (List.mem_of_getElem? (i := 16) rfl)) (by decide) (rm4 l Z a0 hw [] ch h5 n0 Z0) (hw _ (List.mem_of_getElem? (i := 17) rfl)) (hw _ (List.mem_of_getElem? (i := 11) rfl)) (by decide) (W := 2) (by decide) rfl (argsL := [(.int ch)]) pd_6 rfl d2_18 rfl (Nat.le_of_eq rfl) (by decide) (by decide) ?_
  rintro _ T8 h9 X8 ⟨rb, gb, rfl, hrb, K8, A_rb, hgb⟩
  have n_rb_b7 : rb ≠ b7 := Nat.ne_of_gt (Nat.lt_of_lt_of_le E_b7.lt hrb)
  have ns_K8 : NSt h5 [] := NSt.nil
  replace S_c := S_c.keepN K8 ns_K8
  replace Z0 := Nat.le_trans Z0 K8.1
  replace K0 := K0.trans K8 (all0)
  replace E_b7 := E_b7.keep K8
  replace F_value_b7 := F_value_b7.keep K8 nin0
  replace F_coder_b7 := F_coder_b7.keep K8 nin0
  show OG p e below s n0 room2.cells room2.slots (Q2 Z ch cz h0) (T8.setTop (mkF m 21 #[.val (.int ch)] [(.ref rb), (.ref b7), (.ref b7)]))
  refine OG.iconst X8 d2_21 (z := (0 : Int32)) rfl ?_
  refine OG.callC X8 rfl (hw _ (List.mem_of_getElem? (i := 19) rfl)) (hw _ (List.mem_of_getElem? (i := 20) rfl)) (by decide) (rm5 l Z a0 hw [] b7 rb (0 : Int32)  h9 n0 Z0 E_b7 g_b7 F_coder_b7 F_value_b7) (hw _ (List.mem_of_getElem? (i := 22) rfl)) (hw _ (List.mem_of_getElem? (i := 6) rfl)) (by decide) (W := 1) (by decide) rfl (argsL := [(.ref rb), (.int (0 : Int32))]) pd_7 rfl d2_22 rfl (Nat.le_of_eq rfl) (by decide) (by decide) ?_
  rintro _ T10 h11 X10 ⟨rfl, K10, E10, G10_0, G10_1⟩
  have ns_K10 := (NSt.cons E_b7.ns NSt.nil)
  replace S_c := S_c.keepN K10 ns_K10
  replace Z0 := Nat.le_trans Z0 K10.1
  replace K0 := K0.trans K10 ((allS (Or.inr sz_b7) all0))
  replace E_b7 := E_b7.keep K10
  replace A_rb := A_rb.keep K10 (ninS n_rb_b7 nin0)
  replace E_b7 := E10
  clear F_coder_b7; have F_coder_b7 := G10_0
  clear F_value_b7; have F_value_b7 := G10_1
  show OG p e below s n0 room2.cells room2.slots (Q2 Z ch cz h0) (T10.setTop (mkF m 25 #[.val (.int ch)] [(.ref b7)]))
  exact OG.retA X10 d2_25 rfl rfl (by decide) (by decide) ⟨b7, rb, gb, rfl, sz_b7, K0, E_b7, (by rw [own_b0] at F_coder_b7; exact F_coder_b7), F_value_b7, A_rb, hgb⟩
theorem own_l1s {n : Nat} {f g : Nat → Int32} {i s1 s3 ch : Int32} (hm : n ≤ 1002) (hcb : CB n f) (h : 0 ≤ i.toInt ∧ i.toInt < n) (h1 : s1 = i) (h3 : s3 = i) (hch : ch = f s1.toInt.toNat) (hg : L1 i.toInt.toNat f g) : L1 (i + 1).toInt.toNat f (fun q => if q = s3.toInt.toNat then ch.toInt8.toInt32.toInt8.toInt32 else g q) := by
  subst h1 h3 hch
  intro j hj
  rw [own_succ (by omega)] at hj
  show _ ∧ (if j = _ then _ else _) = _
  by_cases q : j = s3.toInt.toNat
  · subst q; rw [if_pos rfl, own_i2b]; have := hcb s3.toInt.toNat (by omega); exact ⟨by omega, rfl⟩
  · rw [if_neg q]; exact hg j (by omega)
theorem own_nb {n : Nat} {f : Nat → Int32} {i s1 ch : Int32} (hcb : CB n f) (h : 0 ≤ i.toInt ∧ i.toInt < n) (h1 : s1 = i) (hch : ch = f s1.toInt.toNat) : ¬ (255 : Int32) < ch := by
  subst h1 hch
  have := hcb s1.toInt.toNat (by omega)
  have e : (255 : Int32).toInt = 255 := rfl
  rw [Int32.lt_iff_toInt_lt]; omega
theorem pn_40 : plainName "java/lang/StringUTF16" = true := by first | (simp [plainName, overriddenIn]; done) | decide +kernel
theorem ef_40 (m : MethodId) (a : Addr) (so : Int32) (d : Addr) (dd : Int32) (len : Int32) : entryFrame m #[(.ref a), (.int so), (.ref d), (.int dd), (.int len)] 7 = mkF m 0 #[.val (.ref a), .val (.int so), .val (.ref d), .val (.int dd), .val (.int len), .unset, .unset] [] := by first | (simp [entryFrame, mkF, argsToLocals, Value.category]; done) | rfl
def Q40 (Z : State) (a : Addr) (so : Int32) (d : Addr) (dd : Int32) (len : Int32) (nq : Nat) (f : Nat → Int32) (h0 : Heap) : Option Value → Heap → Prop := fun v h => ∃ (g : Nat → Int32), v = some (.int len) ∧ Keep h0 h [d] ∧ Ia Z h d .byte nq g ∧ L1 nq f g
theorem d40_0 : decode jdk_52_method_21_code 0 = .ok (.iconst 0, 1) := by decide +kernel
theorem d40_1 : decode jdk_52_method_21_code 1 = .ok (.istore 5, 2) := by decide +kernel
theorem d40_3 : decode jdk_52_method_21_code 3 = .ok (.iload 5, 2) := by decide +kernel
theorem d40_5 : decode jdk_52_method_21_code 5 = .ok (.iload 4, 2) := by decide +kernel
theorem d40_7 : decode jdk_52_method_21_code 7 = .ok (.if_icmp .ge 37, 3) := by decide +kernel
theorem d40_44 : decode jdk_52_method_21_code 44 = .ok (.iload 4, 2) := by decide +kernel
theorem d40_46 : decode jdk_52_method_21_code 46 = .ok (.ireturn, 1) := by decide +kernel
theorem d40_10 : decode jdk_52_method_21_code 10 = .ok (.aload_n 0, 1) := by decide +kernel
theorem d40_11 : decode jdk_52_method_21_code 11 = .ok (.iload_n 1, 1) := by decide +kernel
theorem d40_12 : decode jdk_52_method_21_code 12 = .ok (.caload, 1) := by decide +kernel
theorem d40_13 : decode jdk_52_method_21_code 13 = .ok (.istore 6, 2) := by decide +kernel
theorem d40_15 : decode jdk_52_method_21_code 15 = .ok (.iload 6, 2) := by decide +kernel
theorem d40_17 : decode jdk_52_method_21_code 17 = .ok (.sipush 255, 3) := by decide +kernel
theorem d40_20 : decode jdk_52_method_21_code 20 = .ok (.if_icmp .le 6, 3) := by decide +kernel
theorem d40_26 : decode jdk_52_method_21_code 26 = .ok (.aload_n 2, 1) := by decide +kernel
theorem d40_27 : decode jdk_52_method_21_code 27 = .ok (.iload_n 3, 1) := by decide +kernel
theorem d40_28 : decode jdk_52_method_21_code 28 = .ok (.iload 6, 2) := by decide +kernel
theorem d40_30 : decode jdk_52_method_21_code 30 = .ok (.i2b, 1) := by decide +kernel
theorem d40_31 : decode jdk_52_method_21_code 31 = .ok (.bastore, 1) := by decide +kernel
theorem d40_32 : decode jdk_52_method_21_code 32 = .ok (.iinc 1 1, 3) := by decide +kernel
theorem d40_35 : decode jdk_52_method_21_code 35 = .ok (.iinc 3 1, 3) := by decide +kernel
theorem d40_38 : decode jdk_52_method_21_code 38 = .ok (.iinc 5 1, 3) := by decide +kernel
theorem d40_41 : decode jdk_52_method_21_code 41 = .ok (.goto (-38), 3) := by decide +kernel
abbrev room40 : Room := { frames := 0, cells := 0, slots := 0, locals := 0 }
set_option maxRecDepth 65536 in
set_option maxHeartbeats 40000000 in
theorem rm40 (l : Launch) (Z : State) (a0 : Array Value) (hw : ∀ d ∈ tables_1, d.before a0 Z = true) (ws : List Jvm.Cond) (a : Addr) (so : Int32) (d : Addr) (dd : Int32) (len : Int32) (nq : Nat) (f : Nat → Int32) (h0 : Heap) (n0 : Nat) (A_a : Ia Z h0 a .char nq f) (A_d : Ia Z h0 d .byte nq (fun _ => 0)) (hm : nq ≤ 1002) (hcb : CB nq f) (hl : len.toInt = nq) (hs0 : so = 0) (hd0 : dd = 0) (nad : a ≠ d) (g_d : n0 ≤ d) :
    OM l (⟨"java/lang/StringUTF16", "compress", "([CI[BII)I"⟩ : MethodName) jdk_52_method_21_code 7 (some .int) room40 ws Z #[(.ref a), (.int so), (.ref d), (.int dd), (.int len)] h0 n0 (Q40 Z a so d dd len nq f h0) := by
  refine OM.of (plainFor_of_name pn_40) (fun m => ef_40 m a so d dd len) ?_
  intro p e s m below meth c T X
  have K0 : Keep h0 h0 [d] := Keep.refl _ _
  refine OG.iconst X d40_0 (z := (0 : Int32)) rfl ?_
  refine OG.istore X d40_1 (l' := #[.val (.ref a), .val (.int so), .val (.ref d), .val (.int dd), .val (.int len), .val (.int (0 : Int32)), .unset]) rfl ?_
  have loop1 : ∀ (k : Nat) (Tloop1 : State) (hh : Heap) (s1 : Int32) (s3 : Int32) (i : Int32) (gg : Nat → Int32) (sl6 : Slot), OS jdk_52_method_21_code 7 "java/lang/StringUTF16" "compress" (some .int) Z n0 p l e room40 s m #[(.ref a), (.int so), (.ref d), (.int dd), (.int len)] below meth c Tloop1 hh 0 0 → (nq - i.toInt).toNat < k → (sl6 = .unset ∨ ∃ w : Value, sl6 = .val w ∧ w.category = 1) → (s1 = i) → (s3 = i) → (0 ≤ i.toInt ∧ i.toInt ≤ nq) → (Ia Z hh a .char nq f) → (Ia Z hh d .byte nq gg) → (L1 i.toInt.toNat f gg) → (Keep h0 hh [d]) → OG p e below s n0 room40.cells room40.slots (Q40 Z a so d dd len nq f h0) (Tloop1.setTop (mkF m 3 #[.val (.ref a), .val (.int s1), .val (.ref d), .val (.int s3), .val (.int len), .val (.int i), sl6] [])) := by
    intro k
    induction k with
    | zero => intro Tloop1 hh s1 s3 i gg sl6 Xloop1 hk; exact absurd hk (Nat.not_lt_zero _)
    | succ k ih =>
      intro Tloop1 hh s1 s3 i gg sl6 Xloop1 hk hsl6 hs1 hs3 hi A_a A_d hg K0
      refine OG.iload Xloop1 d40_3 rfl ?_
      refine OG.iload Xloop1 d40_5 rfl ?_
      refine OG.icmp_ge Xloop1 d40_7 (pc' := 44) (by decide) ?_ ?_
      · intro c7
        refine OG.iload Xloop1 d40_44 rfl ?_
        exact OG.retI Xloop1 d40_46 (by decide) (by decide) ⟨gg, rfl, K0, A_d, own_ce hi hl c7 ▸ hg⟩
      · intro c7
        refine OG.aloadN Xloop1 d40_10 rfl rfl ?_
        refine OG.iloadN Xloop1 d40_11 rfl ?_
        refine OG.caload Xloop1 A_a (by rw [hs1]; exact own_ci hi hl c7) d40_12 ?_
        refine OG.istoreV Xloop1 d40_13 (l' := fun z => #[.val (.ref a), .val (.int s1), .val (.ref d), .val (.int s3), .val (.int len), .val (.int i), .val (.int z)]) (fun _ => (XS.store1 (o := sl6) rfl hsl6 rfl)) ?_
        intro cc hcc
        refine OG.iload Xloop1 d40_15 rfl ?_
        refine OG.sipush Xloop1 d40_17 (z := (255 : Int32)) rfl ?_
        refine OG.icmp_le_t Xloop1 d40_20 (pc' := 26) (by decide) (own_nb hcb (own_ci hi hl c7) hs1 hcc) ?_
        refine OG.aloadN Xloop1 d40_26 rfl rfl ?_
        refine OG.iloadN Xloop1 d40_27 rfl ?_
        refine OG.iload Xloop1 d40_28 rfl ?_
        refine OG.i2b Xloop1 d40_30 ?_
        refine OG.bastore Xloop1 A_d (by rw [hs3]; exact own_ci hi hl c7) d40_31 g_d ?_
        intro T2 h3 X2 W4 A2
        replace A_a := A_a.other W4 nad
        replace K0 := K0.wr W4 (Or.inl (by simp))
        replace A_d := A2
        refine OG.iinc X2 d40_32 rfl (z := (1 : Int32)) rfl (l' := #[.val (.ref a), .val (.int (s1 + (1 : Int32))), .val (.ref d), .val (.int s3), .val (.int len), .val (.int i), .val (.int cc)]) rfl ?_
        refine OG.iinc X2 d40_35 rfl (z := (1 : Int32)) rfl (l' := #[.val (.ref a), .val (.int (s1 + (1 : Int32))), .val (.ref d), .val (.int (s3 + (1 : Int32))), .val (.int len), .val (.int i), .val (.int cc)]) rfl ?_
        refine OG.iinc X2 d40_38 rfl (z := (1 : Int32)) rfl (l' := #[.val (.ref a), .val (.int (s1 + (1 : Int32))), .val (.ref d), .val (.int (s3 + (1 : Int32))), .val (.int len), .val (.int (i + (1 : Int32))), .val (.int cc)]) rfl ?_
        refine OG.goto X2 d40_41 (pc' := 3) (by decide) ?_
        exact ih T2 h3 (s1 + (1 : Int32)) (s3 + (1 : Int32)) (i + (1 : Int32)) _ (.val (.int cc)) X2 (by have := own_ci hi hl c7; rw [own_succ (by omega)]; omega) (Or.inr ⟨_, rfl, rfl⟩) (by rw [hs1]) (by rw [hs3]) (by have := own_ci hi hl c7; rw [own_succ (by omega)]; omega) A_a A_d (own_l1s hm hcb (own_ci hi hl c7) hs1 hs3 hcc hg) K0
  exact loop1 _ T h0 so dd (0 : Int32) (fun _ => 0) (.unset) X (Nat.lt_succ_self _) (Or.inl rfl) hs0 hd0 ⟨Int.le_refl 0, Int.natCast_nonneg nq⟩ A_a A_d (fun j hj => absurd hj (Nat.not_lt_zero _)) K0
theorem own_ln {z : Int32} {n : Nat} (hm : n ≤ 3) (hz : z.toInt = n) : ¬ z < 0 := fun p => by
  rw [Int32.lt_iff_toInt_lt] at p; have : (0 : Int32).toInt = 0 := rfl
  omega
theorem own_lc {z : Int32} {n : Nat} (hm : n ≤ 3) (hz : z.toInt = n) : z.toNatClampNeg ≤ 3 := by
  simp only [Int32.toNatClampNeg]; omega
theorem pn_39 : plainName "java/lang/StringUTF16" = true := by first | (simp [plainName, overriddenIn]; done) | decide +kernel
theorem ef_39 (m : MethodId) (a : Addr) (so : Int32) (len : Int32) : entryFrame m #[(.ref a), (.int so), (.int len)] 6 = mkF m 0 #[.val (.ref a), .val (.int so), .val (.int len), .unset, .unset, .unset] [] := by first | (simp [entryFrame, mkF, argsToLocals, Value.category]; done) | rfl
def Q39 (Z : State) (a : Addr) (so : Int32) (len : Int32) (nq : Nat) (f : Nat → Int32) (h0 : Heap) : Option Value → Heap → Prop := fun v h => ∃ (rb : Addr) (g : Nat → Int32), v = some (.ref rb) ∧ h0.size ≤ rb ∧ Keep h0 h [] ∧ Ia Z h rb .byte nq g ∧ L1 nq f g
theorem d39_0 : decode jdk_52_method_16_code 0 = .ok (.iload_n 2, 1) := by decide +kernel
theorem d39_1 : decode jdk_52_method_16_code 1 = .ok (.newarray .byte, 2) := by decide +kernel
theorem d39_3 : decode jdk_52_method_16_code 3 = .ok (.astore_n 3, 1) := by decide +kernel
theorem d39_4 : decode jdk_52_method_16_code 4 = .ok (.aload_n 0, 1) := by decide +kernel
theorem d39_5 : decode jdk_52_method_16_code 5 = .ok (.iload_n 1, 1) := by decide +kernel
theorem d39_6 : decode jdk_52_method_16_code 6 = .ok (.aload_n 3, 1) := by decide +kernel
theorem d39_7 : decode jdk_52_method_16_code 7 = .ok (.iconst 0, 1) := by decide +kernel
theorem d39_8 : decode jdk_52_method_16_code 8 = .ok (.iload_n 2, 1) := by decide +kernel
theorem d39_9 : decode jdk_52_method_16_code 9 = .ok (.invokestatic 115, 3) := by decide +kernel
theorem pd_8 : parseMethodDescriptor "([CI[BII)I" = some ⟨[(.array .char), .int, (.array .byte), .int, .int], some .int⟩ := by decide +kernel
theorem d39_12 : decode jdk_52_method_16_code 12 = .ok (.istore 4, 2) := by decide +kernel
theorem d39_14 : decode jdk_52_method_16_code 14 = .ok (.iload 4, 2) := by decide +kernel
theorem d39_16 : decode jdk_52_method_16_code 16 = .ok (.iload_n 2, 1) := by decide +kernel
theorem d39_17 : decode jdk_52_method_16_code 17 = .ok (.if_icmp .eq 40, 3) := by decide +kernel
theorem d39_57 : decode jdk_52_method_16_code 57 = .ok (.aload_n 3, 1) := by decide +kernel
theorem d39_58 : decode jdk_52_method_16_code 58 = .ok (.areturn, 1) := by decide +kernel
abbrev room39 : Room := { frames := 1, cells := 1, slots := 3, locals := 18 }
set_option maxRecDepth 65536 in
set_option maxHeartbeats 40000000 in
theorem rm39 (l : Launch) (Z : State) (a0 : Array Value) (hw : ∀ d ∈ tables_1, d.before a0 Z = true) (ws : List Jvm.Cond) (a : Addr) (so : Int32) (len : Int32) (nq : Nat) (f : Nat → Int32) (h0 : Heap) (n0 : Nat) (A_a : Ia Z h0 a .char nq f) (hm3 : nq ≤ 3) (hl : len.toInt = nq) (hs0 : so = 0) (hcb : CB nq f) (Z0 : n0 ≤ h0.size) :
    OM l (⟨"java/lang/StringUTF16", "compress", "([CII)[B"⟩ : MethodName) jdk_52_method_16_code 6 (some (.array .byte)) room39 ws Z #[(.ref a), (.int so), (.int len)] h0 n0 (Q39 Z a so len nq f h0) := by
  refine OM.of (plainFor_of_name pn_39) (fun m => ef_39 m a so len) ?_
  intro p e s m below meth c T X
  have K0 : Keep h0 h0 [] := Keep.refl _ _
  have hm : nq ≤ 1002 := by omega
  refine OG.iloadN X d39_0 rfl ?_
  refine OG.newP X (hw _ (List.mem_of_getElem? (i := 18) rfl)) d39_1 (own_ln hm3 hl) (cap := 3) (own_lc hm3 hl) (by decide) (by decide) (by decide) ?_
  rintro T1 h2 b4 gb4 X1 E3 ⟨cAb4, Nb4⟩
  have ne_a_b4 : a ≠ b4 := Nat.ne_of_lt (Nat.lt_of_lt_of_le A_a.lt (Nat.le_of_eq gb4.symm))
  have g_b4 : n0 ≤ b4 := Nat.le_trans Z0 (Nat.le_of_eq gb4.symm)
  have sz_b4 : h0.size ≤ b4 := Nat.le_trans K0.1 (Nat.le_of_eq gb4.symm)
  replace A_a := A_a.ext E3
  replace Z0 := Nat.le_trans Z0 E3.1
  replace K0 := K0.ext E3
  have A_b4 : Ia Z h2 b4 .byte (len).toInt.toNat (fun _ => 0) := Ia.new Nb4 (own_ln hm3 hl) rfl rfl
  rw [show (len).toInt.toNat = nq by omega] at A_b4
  refine OG.astoreN X1 d39_3 (l' := #[.val (.ref a), .val (.int so), .val (.int len), .val (.ref b4), .unset, .unset]) rfl rfl ?_
  refine OG.aloadN X1 d39_4 rfl rfl ?_
  refine OG.iloadN X1 d39_5 rfl ?_
  refine OG.aloadN X1 d39_6 rfl rfl ?_
  refine OG.iconst X1 d39_7 (z := (0 : Int32)) rfl ?_
  refine OG.iloadN X1 d39_8 rfl ?_
  refine OG.callS X1 (hw _ (List.mem_of_getElem? (i := 204) rfl)) (hw _ (List.mem_of_getElem? (i := 205) rfl)) (by decide) (rm40 l Z a0 hw [] a so b4 (0 : Int32) len nq f h2 n0 A_a A_b4 hm hcb hl hs0 rfl ne_a_b4 g_b4) (hw _ (List.mem_of_getElem? (i := 206) rfl)) (hw _ (List.mem_of_getElem? (i := 202) rfl)) (by decide) (W := 0) (by decide) rfl (argsL := [(.ref a), (.int so), (.ref b4), (.int (0 : Int32)), (.int len)]) pd_8 rfl d39_9 rfl (Nat.le_of_eq rfl) (by decide) (by decide) ?_
  rintro _ T5 h6 X5 ⟨gg, rfl, K5, B5, hl1⟩
  replace A_a := A_a.keep K5 (ninS ne_a_b4 nin0)
  replace Z0 := Nat.le_trans Z0 K5.1
  replace K0 := K0.trans K5 ((allS (Or.inr sz_b4) all0))
  replace A_b4 := B5
  show OG p e below s n0 room39.cells room39.slots (Q39 Z a so len nq f h0) (T5.setTop (mkF m 12 #[.val (.ref a), .val (.int so), .val (.int len), .val (.ref b4), .unset, .unset] [(.int len)]))
  refine OG.istore X5 d39_12 (l' := #[.val (.ref a), .val (.int so), .val (.int len), .val (.ref b4), .val (.int len), .unset]) rfl ?_
  refine OG.iload X5 d39_14 rfl ?_
  refine OG.iloadN X5 d39_16 rfl ?_
  refine OG.icmp_eq_t X5 d39_17 (pc' := 57) (by decide) rfl ?_
  refine OG.aloadN X5 d39_57 rfl rfl ?_
  exact OG.retA X5 d39_58 rfl rfl (by decide) (by decide) ⟨b4, gg, rfl, sz_b4, K0, A_b4, hl1⟩
theorem d41_0 : decode jdk_52_method_15_code 0 = .ok (.iload_n 1, 1) := by decide +kernel
theorem d41_1 : decode jdk_52_method_15_code 1 = .ok (.aload_n 0, 1) := by decide +kernel
theorem d41_2 : decode jdk_52_method_15_code 2 = .ok (.arraylength, 1) := by decide +kernel
theorem d41_3 : decode jdk_52_method_15_code 3 = .ok (.isub, 1) := by decide +kernel
theorem d41_4 : decode jdk_52_method_15_code 4 = .ok (.bipush 31, 2) := by decide +kernel
theorem d41_6 : decode jdk_52_method_15_code 6 = .ok (.iushr, 1) := by decide +kernel
theorem d41_7 : decode jdk_52_method_15_code 7 = .ok (.i2b, 1) := by decide +kernel
theorem d41_8 : decode jdk_52_method_15_code 8 = .ok (.ireturn, 1) := by decide +kernel
def F41 (len : Int32) (z : Int32) (g : Nat → Int32) : Int32 := (((((len - z).toUInt32 >>> ((31 : Int32) &&& 31).toUInt32).toInt32).toInt8.toInt32)).toInt8.toInt32
theorem pn_41 : plainName "java/lang/StringUTF16" = true := by first | (simp [plainName, overriddenIn]; done) | decide +kernel
theorem ef_41 (m : MethodId) (b : Addr) (len : Int32) : entryFrame m #[(.ref b), (.int len)] 2 = mkF m 0 #[.val (.ref b), .val (.int len)] [] := by first | (simp [entryFrame, mkF, argsToLocals, Value.category]; done) | rfl
def Q41 (Z : State) (b : Addr) (len : Int32) (z : Int32) (nn : Nat) (g : Nat → Int32) (h0 : Heap) : Option Value → Heap → Prop := fun v h => v = some (.int (F41 len z g)) ∧ h = h0
abbrev room41 : Room := { frames := 0, cells := 0, slots := 0, locals := 0 }
set_option maxRecDepth 65536 in
set_option maxHeartbeats 40000000 in
theorem rm41 (l : Launch) (Z : State) (a0 : Array Value) (hw : ∀ d ∈ tables_1, d.before a0 Z = true) (ws : List Jvm.Cond) (b : Addr) (len : Int32) (z : Int32) (nn : Nat) (g : Nat → Int32) (h0 : Heap) (n0 : Nat) (A_b : Ia Z h0 b .byte nn g) (hz : z.toInt = nn) :
    OM l (⟨"java/lang/StringUTF16", "coderFromArrayLen", "([BI)B"⟩ : MethodName) jdk_52_method_15_code 2 (some .byte) room41 ws Z #[(.ref b), (.int len)] h0 n0 (Q41 Z b len z nn g h0) := by
  refine OM.of (plainFor_of_name pn_41) (fun m => ef_41 m b len) ?_
  intro p e s m below meth c T X
  refine OG.iloadN X d41_0 rfl ?_
  refine OG.aloadN X d41_1 rfl rfl ?_
  refine OG.arraylength X A_b (z := z) hz d41_2 ?_
  refine OG.isub X d41_3 ?_
  refine OG.bipush X d41_4 (z := (31 : Int32)) rfl ?_
  refine OG.iushr X d41_6 ?_
  refine OG.i2b X d41_7 ?_
  exact OG.retN X (t := .byte) d41_8 (by simp) (by decide) (by decide) ⟨rfl, rfl⟩
theorem own_cf (len : Int32) (g : Nat → Int32) : F41 len len g = 0 := by
  rw [F41, Int32.sub_self]; decide
theorem Fld.one {Z : State} {h : Heap} {a : Addr} {K nme d : String} {v v' : Value} (F : Fld Z h a K nme d v) (G : Fld Z h a K nme d v') : v = v' := by
  obtain ⟨c1, k1, q1, i1, f1, e1, e2, e3, e4, e5, e6, e7⟩ := F
  obtain ⟨c2, k2, q2, i2, f2, g1, g2, g3, g4, g5, g6, g7⟩ := G
  cases e2.symm.trans g2
  cases e1.symm.trans g1
  exact Option.some.inj (e7.symm.trans g7)
theorem own_z0 {n : Nat} {len : Int32} (hl : len.toInt = n) (h : len = 0) : 0 = n := by
  subst h; have : (0 : Int32).toInt = 0 := rfl
  omega
theorem pn_8 : plainName "java/lang/String" = true := by first | (simp [plainName, overriddenIn]; done) | decide +kernel
theorem ef_8 (m : MethodId) (a : Addr) (ca : Addr) (so : Int32) (len : Int32) : entryFrame m #[(.ref a), (.ref ca), (.int so), (.int len), .null] 6 = mkF m 0 #[.val (.ref a), .val (.ref ca), .val (.int so), .val (.int len), .val .null, .unset] [] := by first | (simp [entryFrame, mkF, argsToLocals, Value.category]; done) | rfl
def Q8 (Z : State) (a : Addr) (ca : Addr) (so : Int32) (len : Int32) (nq : Nat) (f : Nat → Int32) (cz : Int32) (T0 : List String) (h0 : Heap) : Option Value → Heap → Prop := fun v h => ∃ (rb : Addr) (g : Nat → Int32), v = none ∧ Keep h0 h [a] ∧ Exa Z h a "java/lang/String" ∧ Fld Z h a "java/lang/String" "coder" "B" (.int 0) ∧ Fld Z h a "java/lang/String" "value" "[B" (.ref rb) ∧ Ia Z h rb .byte nq g ∧ L1 nq f g
theorem d8_0 : decode jdk_42_method_149_code 0 = .ok (.aload_n 0, 1) := by decide +kernel
theorem d8_1 : decode jdk_42_method_149_code 1 = .ok (.invokespecial 1, 3) := by decide +kernel
theorem d8_4 : decode jdk_42_method_149_code 4 = .ok (.iload_n 3, 1) := by decide +kernel
theorem d8_5 : decode jdk_42_method_149_code 5 = .ok (.ifCond .ne 22, 3) := by decide +kernel
theorem d8_27 : decode jdk_42_method_149_code 27 = .ok (.getstatic 38, 3) := by decide +kernel
theorem d8_30 : decode jdk_42_method_149_code 30 = .ok (.ifCond .eq 28, 3) := by decide +kernel
theorem d8_33 : decode jdk_42_method_149_code 33 = .ok (.aload_n 1, 1) := by decide +kernel
theorem d8_34 : decode jdk_42_method_149_code 34 = .ok (.iload_n 2, 1) := by decide +kernel
theorem d8_35 : decode jdk_42_method_149_code 35 = .ok (.iload_n 3, 1) := by decide +kernel
theorem d8_36 : decode jdk_42_method_149_code 36 = .ok (.invokestatic 177, 3) := by decide +kernel
theorem pd_9 : parseMethodDescriptor "([CII)[B" = some ⟨[(.array .char), .int, .int], some (.array .byte)⟩ := by decide +kernel
theorem d8_39 : decode jdk_42_method_149_code 39 = .ok (.astore 5, 2) := by decide +kernel
theorem d8_41 : decode jdk_42_method_149_code 41 = .ok (.aload_n 0, 1) := by decide +kernel
theorem d8_42 : decode jdk_42_method_149_code 42 = .ok (.aload 5, 2) := by decide +kernel
theorem d8_44 : decode jdk_42_method_149_code 44 = .ok (.iload_n 3, 1) := by decide +kernel
theorem d8_45 : decode jdk_42_method_149_code 45 = .ok (.invokestatic 47, 3) := by decide +kernel
theorem pd_10 : parseMethodDescriptor "([BI)B" = some ⟨[(.array .byte), .int], some .byte⟩ := by decide +kernel
theorem d8_48 : decode jdk_42_method_149_code 48 = .ok (.putfield 15, 3) := by decide +kernel
theorem d8_51 : decode jdk_42_method_149_code 51 = .ok (.aload_n 0, 1) := by decide +kernel
theorem d8_52 : decode jdk_42_method_149_code 52 = .ok (.aload 5, 2) := by decide +kernel
theorem d8_54 : decode jdk_42_method_149_code 54 = .ok (.putfield 9, 3) := by decide +kernel
theorem d8_57 : decode jdk_42_method_149_code 57 = .ok (.return_, 1) := by decide +kernel
theorem d8_8 : decode jdk_42_method_149_code 8 = .ok (.aload_n 0, 1) := by decide +kernel
theorem d8_9 : decode jdk_42_method_149_code 9 = .ok (.ldc 7, 2) := by decide +kernel
theorem d8_11 : decode jdk_42_method_149_code 11 = .ok (.getfield 9, 3) := by decide +kernel
theorem d8_14 : decode jdk_42_method_149_code 14 = .ok (.putfield 9, 3) := by decide +kernel
theorem d8_17 : decode jdk_42_method_149_code 17 = .ok (.aload_n 0, 1) := by decide +kernel
theorem d8_18 : decode jdk_42_method_149_code 18 = .ok (.ldc 7, 2) := by decide +kernel
theorem d8_20 : decode jdk_42_method_149_code 20 = .ok (.getfield 15, 3) := by decide +kernel
theorem d8_23 : decode jdk_42_method_149_code 23 = .ok (.putfield 15, 3) := by decide +kernel
theorem d8_26 : decode jdk_42_method_149_code 26 = .ok (.return_, 1) := by decide +kernel
abbrev room8 : Room := { frames := 2, cells := 2, slots := 4, locals := 35 }
set_option maxRecDepth 65536 in
set_option maxHeartbeats 40000000 in
theorem rm8 (l : Launch) (Z : State) (a0 : Array Value) (hw : ∀ d ∈ tables_1, d.before a0 Z = true) (ws : List Jvm.Cond) (a : Addr) (ca : Addr) (so : Int32) (len : Int32) (nq : Nat) (f : Nat → Int32) (cz : Int32) (T0 : List String) (h0 : Heap) (n0 : Nat) (E_a : Exa Z h0 a "java/lang/String") (F_coder_a : Fld Z h0 a "java/lang/String" "coder" "B" (.int 0)) (F_value_a : Fld Z h0 a "java/lang/String" "value" "[B" .null) (A_ca : Ia Z h0 ca .char nq f) (hm3 : nq ≤ 3) (hcb : CB nq f) (nca : ca ≠ a) (g_a : n0 ≤ a) (Z0 : n0 ≤ h0.size) (Kz : Keep Z.heap h0 []) (S_c : Sta Z h0 "java/lang/String" "COMPACT_STRINGS" "Z" (.int cz)) (hcz : ¬ cz = 0) (hheld : Jvm.Lit.constHeld Z "java/lang/String" 7) (hcw : Jvm.Lit.compactW.before a0 Z = true) (hT : len = 0 → "" ∉ T0) (hl : len.toInt = nq) (hs0 : so = 0) :
    OMW T0 (if len = 0 then "" :: T0 else T0) l (⟨"java/lang/String", "<init>", "([CIILjava/lang/Void;)V"⟩ : MethodName) jdk_42_method_149_code 6 none room8 ws Z #[(.ref a), (.ref ca), (.int so), (.int len), .null] h0 n0 (Q8 Z a ca so len nq f cz T0 h0) := by
  refine OMW.of (plainFor_of_name pn_8) (fun m => ef_8 m a ca so len) ?_
  intro p e s m below meth c T X hI hH
  have X := X s.heap.size
  have K0 : Keep h0 h0 [a] := Keep.refl _ _
  have la := E_a.lt
  refine OGW.aloadN X d8_0 rfl rfl ?_
  refine OGW.initO X (hw _ (List.mem_of_getElem? (i := 23) rfl)) (hw _ (List.mem_of_getElem? (i := 24) rfl)) (hw _ (List.mem_of_getElem? (i := 25) rfl)) d8_1 rfl (by decide) (W := 0) (Nat.le_of_eq rfl) (by decide) ?_
  intro T1 X1
  refine OGW.iloadN X1 d8_4 rfl ?_
  refine OGW.if_ne X1 d8_5 (pc' := 27) (by decide) ?_ ?_
  · intro c5
    have XL := OS.lower (n0 := n0) X1 (by rw [hH]; exact Z0)
    refine OGW.getS XL (host := "") (Or.inl (hw _ (List.mem_of_getElem? (i := 8) rfl))) Via.refl S_c d8_27 ?_
    intro T2 X2
    refine OGW.if_eq_f X2 d8_30 hcz ?_
    refine OGW.aloadN X2 d8_33 rfl rfl ?_
    refine OGW.iloadN X2 d8_34 rfl ?_
    refine OGW.iloadN X2 d8_35 rfl ?_
    refine OGW.callS X2 (hw _ (List.mem_of_getElem? (i := 200) rfl)) (hw _ (List.mem_of_getElem? (i := 201) rfl)) (by decide) (rm39 l Z a0 hw [] ca so len nq f h0 n0 A_ca hm3 hl hs0 hcb Z0) (hw _ (List.mem_of_getElem? (i := 203) rfl)) (hw _ (List.mem_of_getElem? (i := 202) rfl)) (by decide) (W := 0) (by decide) rfl (argsL := [(.ref ca), (.int so), (.int len)]) pd_9 rfl d8_36 rfl (Nat.le_of_eq rfl) (by decide) (by decide) ?_
    rintro _ T3 h4 X3 ⟨rb, gb, rfl, hrb, K3, A_rb, hl1⟩
    have nrb : rb ≠ a := Nat.ne_of_gt (Nat.lt_of_lt_of_le la hrb)
    have ns_K3 : NSt h0 [] := NSt.nil
    replace E_a := E_a.keep K3
    replace F_coder_a := F_coder_a.keep K3 nin0
    replace F_value_a := F_value_a.keep K3 nin0
    replace A_ca := A_ca.keep K3 nin0
    replace S_c := S_c.keepN K3 ns_K3
    replace Z0 := Nat.le_trans Z0 K3.1
    replace K0 := K0.trans K3 (all0)
    show OGW Z (if len = 0 then "" :: T0 else T0) p e below s n0 room8.cells room8.slots (Q8 Z a ca so len nq f cz T0 h0) (T3.setTop (mkF m 39 #[.val (.ref a), .val (.ref ca), .val (.int so), .val (.int len), .val .null, .unset] [(.ref rb)]))
    refine OGW.astore X3 d8_39 (l' := #[.val (.ref a), .val (.ref ca), .val (.int so), .val (.int len), .val .null, .val (.ref rb)]) rfl rfl ?_
    refine OGW.aloadN X3 d8_41 rfl rfl ?_
    refine OGW.aload X3 d8_42 rfl rfl ?_
    refine OGW.iloadN X3 d8_44 rfl ?_
    refine OGW.callS X3 (hw _ (List.mem_of_getElem? (i := 207) rfl)) (hw _ (List.mem_of_getElem? (i := 208) rfl)) (by decide) (OM.weak (rm41 l Z a0 hw [] rb len len nq gb h4 n0 A_rb hl) (Q' := fun v h => v = some (.int (0 : Int32)) ∧ h = h4) (fun _ _ q => ⟨q.1.trans (congrArg (fun z : Int32 => some (Value.int z)) (own_cf len gb)), q.2⟩)) (hw _ (List.mem_of_getElem? (i := 209) rfl)) (hw _ (List.mem_of_getElem? (i := 202) rfl)) (by decide) (W := 1) (by decide) rfl (argsL := [(.ref rb), (.int len)]) pd_10 rfl d8_45 rfl (Nat.le_of_eq rfl) (by decide) (by decide) ?_
    rintro _ T5 h6 X5 ⟨rfl, eh6⟩
    rw [eh6] at X5
    show OGW Z (if len = 0 then "" :: T0 else T0) p e below s n0 room8.cells room8.slots (Q8 Z a ca so len nq f cz T0 h0) (T5.setTop (mkF m 48 #[.val (.ref a), .val (.ref ca), .val (.int so), .val (.int len), .val .null, .val (.ref rb)] [(.int (0 : Int32)), (.ref a)]))
    refine OGW.putFN X5 (hw _ (List.mem_of_getElem? (i := 28) rfl)) Via.refl F_coder_a E_a (Or.inr ⟨(hw _ (List.mem_of_getElem? (i := 29) rfl)), rfl, rfl⟩) (hw _ (List.mem_of_getElem? (i := 14) rfl)) (ty := .byte) (v' := .int (0 : Int32).toInt8.toInt32) (by decide) rfl (fits_nar_byte _) d8_48 g_a ?_
    intro T7 h8 X7 W9
    replace E_a := E_a.wr W9
    replace F_coder_a := F_coder_a.same W9
    replace F_value_a := F_value_a.other W9 (Or.inr (slot_ne (Or.inr (hw _ (List.mem_of_getElem? (i := 27) rfl))) (Or.inr (hw _ (List.mem_of_getElem? (i := 29) rfl))) (by decide) (t := (.array .byte)) (t' := .byte) (by decide) (by decide)))
    replace A_ca := A_ca.other W9 nca
    replace S_c := S_c.wr W9
    replace Z0 := Nat.le_trans Z0 (Keep.of_wr W9).1
    replace K0 := K0.wr W9 (Or.inl (by simp))
    replace A_rb := A_rb.other W9 nrb
    refine OGW.aloadN X7 d8_51 rfl rfl ?_
    refine OGW.aload X7 d8_52 rfl rfl ?_
    refine OGW.putF X7 (host := "") (Or.inl (hw _ (List.mem_of_getElem? (i := 26) rfl))) Via.refl F_value_a E_a (Or.inr ⟨(hw _ (List.mem_of_getElem? (i := 27) rfl)), rfl, rfl⟩) (hw _ (List.mem_of_getElem? (i := 14) rfl)) (ty := (.array .byte)) (by decide) rfl rfl d8_54 g_a ?_
    intro T10 h11 X10 W12
    replace E_a := E_a.wr W12
    replace F_coder_a := F_coder_a.other W12 (Or.inr (slot_ne (Or.inr (hw _ (List.mem_of_getElem? (i := 29) rfl))) (Or.inr (hw _ (List.mem_of_getElem? (i := 27) rfl))) (by decide) (t := .byte) (t' := (.array .byte)) (by decide) (by decide)))
    replace F_value_a := F_value_a.same W12
    replace A_ca := A_ca.other W12 nca
    replace S_c := S_c.wr W12
    replace Z0 := Nat.le_trans Z0 (Keep.of_wr W12).1
    replace K0 := K0.wr W12 (Or.inl (by simp))
    replace A_rb := A_rb.other W12 nrb
    exact OGW.retV X10 d8_57 (by decide) (by decide) (by rw [if_neg c5]; exact hI) ⟨rb, gb, rfl, K0, E_a, (by rw [own_b0] at F_coder_a; exact F_coder_a), F_value_a, A_rb, hl1⟩
  · intro c5
    refine OGW.aloadN X1 d8_8 rfl rfl ?_
    refine OGW.ldcS X1 (text := "") (z := 0) (n := 0) (hw _ (List.mem_of_getElem? (i := 38) rfl)) (fun d hd => by simp only [Bundle.stringAtoms, List.mem_cons, List.not_mem_nil, or_false] at hd; rcases hd with rfl | rfl | rfl | rfl | rfl | rfl | rfl <;> first | exact (hw _ (List.mem_of_getElem? (i := 6) rfl)) | exact (hw _ (List.mem_of_getElem? (i := 14) rfl)) | exact (hw _ (List.mem_of_getElem? (i := 18) rfl)) | exact (hw _ (List.mem_of_getElem? (i := 27) rfl)) | exact (hw _ (List.mem_of_getElem? (i := 29) rfl)) | exact (hw _ (List.mem_of_getElem? (i := 39) rfl)) | exact (hw _ (List.mem_of_getElem? (i := 40) rfl))) (by rw [hH]; exact Nat.le_refl _) (Nat.le_refl _) (by rw [hH]; exact Z0) (fun b cl q => by rw [hH]; exact Kz.2.1 b cl q (by simp)) hI (hT c5) hheld hcw ⟨by decide, rfl⟩ (by decide) rfl d8_9 (by decide) (by decide) (by decide) (by decide) ?_
    intro ra rq T1 h1 k1 X1 E1 E_ra F_cr F_vr V_q I1 Lt
    replace hH : (s.setVm T1.vm).heap = h0 := hH
    generalize s.setVm T1.vm = s at X1 I1 Lt hH ⊢
    replace E_a := E_a.ext E1
    replace F_coder_a := F_coder_a.ext E1
    replace F_value_a := F_value_a.ext E1
    replace Z0 := Nat.le_trans Z0 E1.1
    replace K0 := K0.ext E1
    have Zh1 : h1.size ≤ h1.size := Nat.le_refl _
    have A_q : Ia Z h1 rq .byte 0 (fun _ => 0) := Ia.ofArv V_q rfl (fun i hi => absurd hi (Nat.not_lt_zero _))
    have nra : ra ≠ a := fun q => by subst q; cases Fld.one F_vr F_value_a
    have nrq : rq ≠ a := Ne.symm (Exa.neArv E_a V_q (hw _ (List.mem_of_getElem? (i := 14) rfl)))
    refine OGW.getF X1 (host := "") (Or.inl (hw _ (List.mem_of_getElem? (i := 26) rfl))) Via.refl F_vr d8_11 ?_
    intro T11 X11
    refine OGW.putF X11 (host := "") (Or.inl (hw _ (List.mem_of_getElem? (i := 26) rfl))) Via.refl F_value_a E_a (Or.inr ⟨(hw _ (List.mem_of_getElem? (i := 27) rfl)), rfl, rfl⟩) (hw _ (List.mem_of_getElem? (i := 14) rfl)) (ty := (.array .byte)) (by decide) rfl rfl d8_14 g_a ?_
    intro T12 h13 X12 W14
    replace E_a := E_a.wr W14
    replace F_coder_a := F_coder_a.other W14 (Or.inr (slot_ne (Or.inr (hw _ (List.mem_of_getElem? (i := 29) rfl))) (Or.inr (hw _ (List.mem_of_getElem? (i := 27) rfl))) (by decide) (t := .byte) (t' := (.array .byte)) (by decide) (by decide)))
    replace F_value_a := F_value_a.same W14
    replace Z0 := Nat.le_trans Z0 (Keep.of_wr W14).1
    replace K0 := K0.wr W14 (Or.inl (by simp))
    replace Zh1 := Nat.le_trans Zh1 (Keep.of_wr W14).1
    replace F_cr := F_cr.other W14 (Or.inl nra)
    replace F_vr := F_vr.other W14 (Or.inl nra)
    replace A_q := A_q.other W14 nrq
    refine OGW.aloadN X12 d8_17 rfl rfl ?_
    refine OGW.ldcAgain X12 (hw _ (List.mem_of_getElem? (i := 38) rfl)) Lt d8_18 ?_
    refine OGW.getF X12 (host := "") (Or.inl (hw _ (List.mem_of_getElem? (i := 28) rfl))) Via.refl F_cr d8_20 ?_
    intro T15 X15
    refine OGW.putFN X15 (hw _ (List.mem_of_getElem? (i := 28) rfl)) Via.refl F_coder_a E_a (Or.inr ⟨(hw _ (List.mem_of_getElem? (i := 29) rfl)), rfl, rfl⟩) (hw _ (List.mem_of_getElem? (i := 14) rfl)) (ty := .byte) (v' := .int (0 : Int32).toInt8.toInt32) (by decide) rfl (fits_nar_byte _) d8_23 g_a ?_
    intro T16 h17 X16 W18
    replace E_a := E_a.wr W18
    replace F_coder_a := F_coder_a.same W18
    replace F_value_a := F_value_a.other W18 (Or.inr (slot_ne (Or.inr (hw _ (List.mem_of_getElem? (i := 27) rfl))) (Or.inr (hw _ (List.mem_of_getElem? (i := 29) rfl))) (by decide) (t := (.array .byte)) (t' := .byte) (by decide) (by decide)))
    replace Z0 := Nat.le_trans Z0 (Keep.of_wr W18).1
    replace K0 := K0.wr W18 (Or.inl (by simp))
    replace Zh1 := Nat.le_trans Zh1 (Keep.of_wr W18).1
    replace F_cr := F_cr.other W18 (Or.inl nra)
    replace F_vr := F_vr.other W18 (Or.inl nra)
    replace A_q := A_q.other W18 nrq
    exact OGW.retV X16 d8_26 (by decide) (by decide) (by rw [if_pos c5]; exact I1) ⟨⟨rq, _, rfl, K0, E_a, (by rw [own_b0] at F_coder_a; exact F_coder_a), F_value_a, (own_z0 hl c5 ▸ A_q), fun i hi => absurd hi (by rw [← own_z0 hl c5]; exact Nat.not_lt_zero _)⟩, Zh1⟩
theorem pn_7 : plainName "java/lang/String" = true := by first | (simp [plainName, overriddenIn]; done) | decide +kernel
theorem ef_7 (m : MethodId) (a : Addr) (ca : Addr) : entryFrame m #[(.ref a), (.ref ca)] 2 = mkF m 0 #[.val (.ref a), .val (.ref ca)] [] := by first | (simp [entryFrame, mkF, argsToLocals, Value.category]; done) | rfl
def Q7 (Z : State) (a : Addr) (ca : Addr) (nq : Nat) (f : Nat → Int32) (cz len : Int32) (T0 : List String) (h0 : Heap) : Option Value → Heap → Prop := fun v h => ∃ (rb : Addr) (g : Nat → Int32), v = none ∧ Keep h0 h [a] ∧ Exa Z h a "java/lang/String" ∧ Fld Z h a "java/lang/String" "coder" "B" (.int 0) ∧ Fld Z h a "java/lang/String" "value" "[B" (.ref rb) ∧ Ia Z h rb .byte nq g ∧ L1 nq f g
theorem d7_0 : decode jdk_42_method_3_code 0 = .ok (.aload_n 0, 1) := by decide +kernel
theorem d7_1 : decode jdk_42_method_3_code 1 = .ok (.aload_n 1, 1) := by decide +kernel
theorem d7_2 : decode jdk_42_method_3_code 2 = .ok (.iconst 0, 1) := by decide +kernel
theorem d7_3 : decode jdk_42_method_3_code 3 = .ok (.aload_n 1, 1) := by decide +kernel
theorem d7_4 : decode jdk_42_method_3_code 4 = .ok (.arraylength, 1) := by decide +kernel
theorem d7_5 : decode jdk_42_method_3_code 5 = .ok (.aconst_null, 1) := by decide +kernel
theorem pd_11 : parseMethodDescriptor "([CIILjava/lang/Void;)V" = some ⟨[(.array .char), .int, .int, (.object "java/lang/Void")], none⟩ := by decide +kernel
theorem d7_6 : decode jdk_42_method_3_code 6 = .ok (.invokespecial 27, 3) := by decide +kernel
theorem d7_9 : decode jdk_42_method_3_code 9 = .ok (.return_, 1) := by decide +kernel
abbrev room7 : Room := { frames := 3, cells := 2, slots := 4, locals := 52 }
set_option maxRecDepth 65536 in
set_option maxHeartbeats 40000000 in
theorem rm7 (l : Launch) (Z : State) (a0 : Array Value) (hw : ∀ d ∈ tables_1, d.before a0 Z = true) (ws : List Jvm.Cond) (a : Addr) (ca : Addr) (nq : Nat) (f : Nat → Int32) (cz len : Int32) (T0 : List String) (h0 : Heap) (n0 : Nat) (E_a : Exa Z h0 a "java/lang/String") (F_coder_a : Fld Z h0 a "java/lang/String" "coder" "B" (.int 0)) (F_value_a : Fld Z h0 a "java/lang/String" "value" "[B" .null) (A_ca : Ia Z h0 ca .char nq f) (hm3 : nq ≤ 3) (hcb : CB nq f) (nca : ca ≠ a) (g_a : n0 ≤ a) (Z0 : n0 ≤ h0.size) (Kz : Keep Z.heap h0 []) (S_c : Sta Z h0 "java/lang/String" "COMPACT_STRINGS" "Z" (.int cz)) (hcz : ¬ cz = 0) (hheld : Jvm.Lit.constHeld Z "java/lang/String" 7) (hcw : Jvm.Lit.compactW.before a0 Z = true) (hT : len = 0 → "" ∉ T0) (hl : len.toInt = nq) :
    OMW T0 (if len = 0 then "" :: T0 else T0) l (⟨"java/lang/String", "<init>", "([C)V"⟩ : MethodName) jdk_42_method_3_code 2 none room7 ws Z #[(.ref a), (.ref ca)] h0 n0 (Q7 Z a ca nq f cz len T0 h0) := by
  refine OMW.of (plainFor_of_name pn_7) (fun m => ef_7 m a ca) ?_
  intro p e s m below meth c T X hI hH
  have X := X n0
  refine OGW.aloadN X d7_0 rfl rfl ?_
  refine OGW.aloadN X d7_1 rfl rfl ?_
  refine OGW.iconst X d7_2 (z := (0 : Int32)) rfl ?_
  refine OGW.aloadN X d7_3 rfl rfl ?_
  refine OGW.arraylength X A_ca (z := len) hl d7_4 ?_
  refine OGW.aconstNull X d7_5 ?_
  refine OGW.callCW X rfl (hw _ (List.mem_of_getElem? (i := 35) rfl)) (hw _ (List.mem_of_getElem? (i := 36) rfl)) (by decide) hI (rm8 l Z a0 hw [] a ca (0 : Int32) len nq f cz T0 h0 n0 E_a F_coder_a F_value_a A_ca hm3 hcb nca g_a Z0 Kz S_c hcz hheld hcw hT hl rfl) (hw _ (List.mem_of_getElem? (i := 37) rfl)) (hw _ (List.mem_of_getElem? (i := 6) rfl)) (by decide) (W := 0) (by decide) rfl (argsL := [(.ref ca), (.int (0 : Int32)), (.int len), .null]) pd_11 rfl d7_6 rfl (Nat.le_of_eq rfl) (by decide) (by decide) ?_
  rintro _ T1 h1 X1 ⟨rb, gb, rfl, K1, E1, Fc1, Fv1, A1, hl1⟩ I1
  replace hH : (s.setVm T1.vm).heap = h0 := hH
  generalize s.setVm T1.vm = s at X1 I1 hH ⊢
  show OGW Z (if len = 0 then "" :: T0 else T0) p e below s n0 room7.cells room7.slots (fun v hh => (Q7 Z a ca nq f cz len T0 h0) v hh ∧ h1.size ≤ hh.size) (T1.setTop (mkF m 9 #[.val (.ref a), .val (.ref ca)] []))
  exact OGW.retV X1 d7_9 (by decide) (by decide) I1 ⟨⟨rb, gb, rfl, K1, E1, Fc1, Fv1, A1, hl1⟩, Nat.le_refl _⟩
def chs (c1 c2 c3 : Int32) : Nat → Int32 := fun i => if i = 0 then c1 else if i = 1 then c2 else c3
theorem own_cb {c1 c2 c3 : Int32} (h1 : 0 ≤ c1.toInt ∧ c1.toInt ≤ 255) (h2 : 0 ≤ c2.toInt ∧ c2.toInt ≤ 255) (h3 : 0 ≤ c3.toInt ∧ c3.toInt ≤ 255) (n : Nat) : CB n (chs c1 c2 c3) := by
  intro i _
  unfold chs
  split
  · exact h1
  split
  · exact h2
  · exact h3
theorem own_f2 {c1 c2 c3 : Int32} (h1 : 0 ≤ c1.toInt ∧ c1.toInt ≤ 255) (h2 : 0 ≤ c2.toInt ∧ c2.toInt ≤ 255) : ∀ i, i < 2 → (if i = (1 : Int32).toInt.toNat then c2.toUInt32.toUInt16.toUInt32.toInt32 else if i = (0 : Int32).toInt.toNat then c1.toUInt32.toUInt16.toUInt32.toInt32 else 0) = chs c1 c2 c3 i := by
  intro i hi
  rw [own_c2c (x := c1) (by omega), own_c2c (x := c2) (by omega)]
  rcases (show i = 0 ∨ i = 1 by omega) with rfl | rfl <;> rfl
theorem own_f3 {c1 c2 c3 : Int32} (h1 : 0 ≤ c1.toInt ∧ c1.toInt ≤ 255) (h2 : 0 ≤ c2.toInt ∧ c2.toInt ≤ 255) (h3 : 0 ≤ c3.toInt ∧ c3.toInt ≤ 255) : ∀ i, i < 3 → (if i = (2 : Int32).toInt.toNat then c3.toUInt32.toUInt16.toUInt32.toInt32 else if i = (1 : Int32).toInt.toNat then c2.toUInt32.toUInt16.toUInt32.toInt32 else if i = (0 : Int32).toInt.toNat then c1.toUInt32.toUInt16.toUInt32.toInt32 else 0) = chs c1 c2 c3 i := by
  intro i hi
  rw [own_c2c (x := c1) (by omega), own_c2c (x := c2) (by omega), own_c2c (x := c3) (by omega)]
  rcases (show i = 0 ∨ i = 1 ∨ i = 2 by omega) with rfl | rfl | rfl <;> rfl
theorem own_l3 {len : Int32} (h : 0 ≤ len.toInt ∧ len.toInt ≤ 3) (h0 : ¬ len = 0) (h1 : ¬ len = 1) (h2 : ¬ len = 2) : 3 = len.toInt.toNat := by
  have e0 : (0 : Int32).toInt = 0 := rfl
  have e1 : (1 : Int32).toInt = 1 := rfl
  have e2 : (2 : Int32).toInt = 2 := rfl
  rw [← Int32.toInt_inj] at h0 h1 h2
  omega
theorem own_v1 {c1 c2 c3 : Int32} {g : Nat → Int32} (h1 : 0 ≤ c1.toInt ∧ c1.toInt ≤ 255) (hg : g 0 = c1.toInt8.toInt32) : L1 1 (chs c1 c2 c3) g := by
  intro i hi
  obtain rfl : i = 0 := by omega
  exact ⟨⟨h1.2, h1.1⟩, hg⟩
theorem pn_1 : plainName "com/example/iron_lock/ironlock/model/LockKeysCompanionKeyPinLaw" = true := by first | (simp [plainName, overriddenIn]; done) | decide +kernel
theorem ef_1 (m : MethodId) (len : Int32) (q1 : Int32) (q2 : Int32) (q3 : Int32) : entryFrame m #[(.int len), (.int q1), (.int q2), (.int q3)] 4 = mkF m 0 #[.val (.int len), .val (.int q1), .val (.int q2), .val (.int q3)] [] := by first | (simp [entryFrame, mkF, argsToLocals, Value.category]; done) | rfl
def Q1 (Z : State) (len : Int32) (q1 : Int32) (q2 : Int32) (q3 : Int32) (cz : Int32) (T0 : List String) (h0 : Heap) : Option Value → Heap → Prop := fun v h => ∃ (a rb : Addr) (g : Nat → Int32), v = some (.ref a) ∧ h0.size ≤ a ∧ Keep h0 h [] ∧ Exa Z h a "java/lang/String" ∧ Fld Z h a "java/lang/String" "coder" "B" (.int 0) ∧ Fld Z h a "java/lang/String" "value" "[B" (.ref rb) ∧ Ia Z h rb .byte (len.toInt.toNat) g ∧ L1 len.toInt.toNat (chs q1 q2 q3) g
theorem d1_0 : decode method_3_code 0 = .ok (.iload_n 0, 1) := by decide +kernel
theorem d1_1 : decode method_3_code 1 = .ok (.ifCond .ne 14, 3) := by decide +kernel
theorem d1_15 : decode method_3_code 15 = .ok (.iload_n 0, 1) := by decide +kernel
theorem d1_16 : decode method_3_code 16 = .ok (.iconst 1, 1) := by decide +kernel
theorem d1_17 : decode method_3_code 17 = .ok (.if_icmp .ne 8, 3) := by decide +kernel
theorem d1_25 : decode method_3_code 25 = .ok (.iload_n 0, 1) := by decide +kernel
theorem d1_26 : decode method_3_code 26 = .ok (.iconst 2, 1) := by decide +kernel
theorem d1_27 : decode method_3_code 27 = .ok (.if_icmp .ne 22, 3) := by decide +kernel
theorem d1_49 : decode method_3_code 49 = .ok (.new 23, 3) := by decide +kernel
theorem d1_52 : decode method_3_code 52 = .ok (.dup, 1) := by decide +kernel
theorem d1_53 : decode method_3_code 53 = .ok (.iconst 3, 1) := by decide +kernel
theorem d1_54 : decode method_3_code 54 = .ok (.newarray .char, 2) := by decide +kernel
theorem d1_56 : decode method_3_code 56 = .ok (.dup, 1) := by decide +kernel
theorem d1_57 : decode method_3_code 57 = .ok (.iconst 0, 1) := by decide +kernel
theorem d1_58 : decode method_3_code 58 = .ok (.iload_n 1, 1) := by decide +kernel
theorem d1_59 : decode method_3_code 59 = .ok (.castore, 1) := by decide +kernel
theorem d1_60 : decode method_3_code 60 = .ok (.dup, 1) := by decide +kernel
theorem d1_61 : decode method_3_code 61 = .ok (.iconst 1, 1) := by decide +kernel
theorem d1_62 : decode method_3_code 62 = .ok (.iload_n 2, 1) := by decide +kernel
theorem d1_63 : decode method_3_code 63 = .ok (.castore, 1) := by decide +kernel
theorem d1_64 : decode method_3_code 64 = .ok (.dup, 1) := by decide +kernel
theorem d1_65 : decode method_3_code 65 = .ok (.iconst 2, 1) := by decide +kernel
theorem d1_66 : decode method_3_code 66 = .ok (.iload_n 3, 1) := by decide +kernel
theorem d1_67 : decode method_3_code 67 = .ok (.castore, 1) := by decide +kernel
theorem pd_12 : parseMethodDescriptor "([C)V" = some ⟨[(.array .char)], none⟩ := by decide +kernel
theorem d1_68 : decode method_3_code 68 = .ok (.invokespecial 32, 3) := by decide +kernel
theorem d1_71 : decode method_3_code 71 = .ok (.areturn, 1) := by decide +kernel
theorem d1_30 : decode method_3_code 30 = .ok (.new 23, 3) := by decide +kernel
theorem d1_33 : decode method_3_code 33 = .ok (.dup, 1) := by decide +kernel
theorem d1_34 : decode method_3_code 34 = .ok (.iconst 2, 1) := by decide +kernel
theorem d1_35 : decode method_3_code 35 = .ok (.newarray .char, 2) := by decide +kernel
theorem d1_37 : decode method_3_code 37 = .ok (.dup, 1) := by decide +kernel
theorem d1_38 : decode method_3_code 38 = .ok (.iconst 0, 1) := by decide +kernel
theorem d1_39 : decode method_3_code 39 = .ok (.iload_n 1, 1) := by decide +kernel
theorem d1_40 : decode method_3_code 40 = .ok (.castore, 1) := by decide +kernel
theorem d1_41 : decode method_3_code 41 = .ok (.dup, 1) := by decide +kernel
theorem d1_42 : decode method_3_code 42 = .ok (.iconst 1, 1) := by decide +kernel
theorem d1_43 : decode method_3_code 43 = .ok (.iload_n 2, 1) := by decide +kernel
theorem d1_44 : decode method_3_code 44 = .ok (.castore, 1) := by decide +kernel
theorem d1_45 : decode method_3_code 45 = .ok (.invokespecial 32, 3) := by decide +kernel
theorem d1_48 : decode method_3_code 48 = .ok (.areturn, 1) := by decide +kernel
theorem d1_20 : decode method_3_code 20 = .ok (.iload_n 1, 1) := by decide +kernel
theorem d1_21 : decode method_3_code 21 = .ok (.invokestatic 35, 3) := by decide +kernel
theorem pd_13 : parseMethodDescriptor "(C)Ljava/lang/String;" = some ⟨[.char], some (.object "java/lang/String")⟩ := by decide +kernel
theorem d1_24 : decode method_3_code 24 = .ok (.areturn, 1) := by decide +kernel
theorem d1_4 : decode method_3_code 4 = .ok (.new 23, 3) := by decide +kernel
theorem d1_7 : decode method_3_code 7 = .ok (.dup, 1) := by decide +kernel
theorem d1_8 : decode method_3_code 8 = .ok (.iconst 0, 1) := by decide +kernel
theorem d1_9 : decode method_3_code 9 = .ok (.newarray .char, 2) := by decide +kernel
theorem d1_11 : decode method_3_code 11 = .ok (.invokespecial 32, 3) := by decide +kernel
theorem d1_14 : decode method_3_code 14 = .ok (.areturn, 1) := by decide +kernel
abbrev room1 : Room := { frames := 4, cells := 4, slots := 11, locals := 66 }
set_option maxRecDepth 65536 in
set_option maxHeartbeats 40000000 in
theorem rm1 (l : Launch) (Z : State) (a0 : Array Value) (hw : ∀ d ∈ tables_1, d.before a0 Z = true) (ws : List Jvm.Cond) (len : Int32) (q1 : Int32) (q2 : Int32) (q3 : Int32) (cz : Int32) (T0 : List String) (h0 : Heap) (n0 : Nat) (Z0 : n0 ≤ h0.size) (hlen : 0 ≤ len.toInt ∧ len.toInt ≤ 3) (hq1 : 0 ≤ q1.toInt ∧ q1.toInt ≤ 255) (hq2 : 0 ≤ q2.toInt ∧ q2.toInt ≤ 255) (hq3 : 0 ≤ q3.toInt ∧ q3.toInt ≤ 255) (Kz : Keep Z.heap h0 []) (hT : len = 0 → "" ∉ T0) (S_c : Sta Z h0 "java/lang/String" "COMPACT_STRINGS" "Z" (.int cz)) (hcz : ¬ cz = 0) (hheld : Jvm.Lit.constHeld Z "java/lang/String" 7) (hcw : Jvm.Lit.compactW.before a0 Z = true) :
    OMW T0 (if len = 0 then "" :: T0 else T0) l (⟨"com/example/iron_lock/ironlock/model/LockKeysCompanionKeyPinLaw", "str", "(ICCC)Ljava/lang/String;"⟩ : MethodName) method_3_code 4 (some (.object "java/lang/String")) room1 ws Z #[(.int len), (.int q1), (.int q2), (.int q3)] h0 n0 (Q1 Z len q1 q2 q3 cz T0 h0) := by
  refine OMW.of (plainFor_of_name pn_1) (fun m => ef_1 m len q1 q2 q3) ?_
  intro p e s m below meth c T X hI hH
  have X := X n0
  have K0 : Keep h0 h0 [] := Keep.refl _ _
  refine OGW.iloadN X d1_0 rfl ?_
  refine OGW.if_ne X d1_1 (pc' := 15) (by decide) ?_ ?_
  · intro c1
    refine OGW.iloadN X d1_15 rfl ?_
    refine OGW.iconst X d1_16 (z := (1 : Int32)) rfl ?_
    refine OGW.icmp_ne X d1_17 (pc' := 25) (by decide) ?_ ?_
    · intro c17
      refine OGW.iloadN X d1_25 rfl ?_
      refine OGW.iconst X d1_26 (z := (2 : Int32)) rfl ?_
      refine OGW.icmp_ne X d1_27 (pc' := 49) (by decide) ?_ ?_
      · intro c27
        refine OGW.newO X (hw _ (List.mem_of_getElem? (i := 30) rfl)) (hw _ (List.mem_of_getElem? (i := 14) rfl)) (hw _ (List.mem_of_getElem? (i := 6) rfl)) d1_49 (by decide) (by decide) ?_
        intro T1 h2 b4 gb4 X1 E3 E_b4 D_b4
        have g_b4 : n0 ≤ b4 := Nat.le_trans Z0 (Nat.le_of_eq gb4.symm)
        have sz_b4 : h0.size ≤ b4 := Nat.le_trans K0.1 (Nat.le_of_eq gb4.symm)
        replace S_c := S_c.ext E3
        replace Z0 := Nat.le_trans Z0 E3.1
        replace K0 := K0.ext E3
        have F_value_b4 : Fld Z h2 b4 "java/lang/String" "value" "[B" .null := D_b4 (Or.inr (hw _ (List.mem_of_getElem? (i := 27) rfl))) (ty := (.array .byte)) (by decide)
        have F_coder_b4 : Fld Z h2 b4 "java/lang/String" "coder" "B" (.int 0) := D_b4 (Or.inr (hw _ (List.mem_of_getElem? (i := 29) rfl))) (ty := .byte) (by decide)
        refine OGW.dup X1 d1_52 rfl ?_
        refine OGW.iconst X1 d1_53 (z := (3 : Int32)) rfl ?_
        refine OGW.newP X1 (hw _ (List.mem_of_getElem? (i := 31) rfl)) d1_54 (by decide) (cap := 3) (by decide) (by decide) (by decide) (by decide) ?_
        rintro T5 h6 b8 gb8 X5 E7 ⟨cAb8, Nb8⟩
        have ne_b4_b8 : b4 ≠ b8 := Nat.ne_of_lt (Nat.lt_of_lt_of_le E_b4.lt (Nat.le_of_eq gb8.symm))
        have g_b8 : n0 ≤ b8 := Nat.le_trans Z0 (Nat.le_of_eq gb8.symm)
        have sz_b8 : h0.size ≤ b8 := Nat.le_trans K0.1 (Nat.le_of_eq gb8.symm)
        replace S_c := S_c.ext E7
        replace Z0 := Nat.le_trans Z0 E7.1
        replace K0 := K0.ext E7
        replace E_b4 := E_b4.ext E7
        replace F_value_b4 := F_value_b4.ext E7
        replace F_coder_b4 := F_coder_b4.ext E7
        have A_b8 : Ia Z h6 b8 .char 3 (fun _ => 0) := Ia.new Nb8 (by decide) rfl rfl
        refine OGW.dup X5 d1_56 rfl ?_
        refine OGW.iconst X5 d1_57 (z := (0 : Int32)) rfl ?_
        refine OGW.iloadN X5 d1_58 rfl ?_
        refine OGW.castore X5 A_b8 (by decide) d1_59 g_b8 ?_
        intro T9 h10 X9 W11 A9
        replace S_c := S_c.wr W11
        replace Z0 := Nat.le_trans Z0 (Keep.of_wr W11).1
        replace K0 := K0.wr W11 (Or.inr sz_b8)
        replace E_b4 := E_b4.wr W11
        replace F_value_b4 := F_value_b4.other W11 (Or.inl ne_b4_b8)
        replace F_coder_b4 := F_coder_b4.other W11 (Or.inl ne_b4_b8)
        replace A_b8 := A9
        refine OGW.dup X9 d1_60 rfl ?_
        refine OGW.iconst X9 d1_61 (z := (1 : Int32)) rfl ?_
        refine OGW.iloadN X9 d1_62 rfl ?_
        refine OGW.castore X9 A_b8 (by decide) d1_63 g_b8 ?_
        intro T12 h13 X12 W14 A12
        replace S_c := S_c.wr W14
        replace Z0 := Nat.le_trans Z0 (Keep.of_wr W14).1
        replace K0 := K0.wr W14 (Or.inr sz_b8)
        replace E_b4 := E_b4.wr W14
        replace F_value_b4 := F_value_b4.other W14 (Or.inl ne_b4_b8)
        replace F_coder_b4 := F_coder_b4.other W14 (Or.inl ne_b4_b8)
        replace A_b8 := A12
        refine OGW.dup X12 d1_64 rfl ?_
        refine OGW.iconst X12 d1_65 (z := (2 : Int32)) rfl ?_
        refine OGW.iloadN X12 d1_66 rfl ?_
        refine OGW.castore X12 A_b8 (by decide) d1_67 g_b8 ?_
        intro T15 h16 X15 W17 A15
        replace S_c := S_c.wr W17
        replace Z0 := Nat.le_trans Z0 (Keep.of_wr W17).1
        replace K0 := K0.wr W17 (Or.inr sz_b8)
        replace E_b4 := E_b4.wr W17
        replace F_value_b4 := F_value_b4.other W17 (Or.inl ne_b4_b8)
        replace F_coder_b4 := F_coder_b4.other W17 (Or.inl ne_b4_b8)
        replace A_b8 := A15
        replace A_b8 : Ia Z h16 b8 .char 3 (chs q1 q2 q3) := A_b8.congr (own_f3 hq1 hq2 hq3)
        have Kz1 : Keep Z.heap h16 [] := Kz.trans K0 all0
        refine OGW.callCW X15 rfl (hw _ (List.mem_of_getElem? (i := 32) rfl)) (hw _ (List.mem_of_getElem? (i := 33) rfl)) (by decide) hI (rm7 l Z a0 hw [] b4 b8 3 (chs q1 q2 q3) cz (3 : Int32) T0 h16 n0 E_b4 F_coder_b4 F_value_b4 A_b8 (by decide) (own_cb hq1 hq2 hq3 _) (Ne.symm ne_b4_b8) g_b4 Z0 Kz1 S_c hcz hheld hcw (fun q => absurd q (by decide)) rfl) (hw _ (List.mem_of_getElem? (i := 34) rfl)) (hw _ (List.mem_of_getElem? (i := 6) rfl)) (by decide) (W := 1) (by decide) rfl (argsL := [(.ref b8)]) pd_12 rfl d1_68 rfl (Nat.le_of_eq rfl) (by decide) (by decide) ?_
        rintro _ Ti hi1 Xi ⟨rb, gb, rfl, K1, E1, Fc1, Fv1, A1, hl1⟩ I1
        replace hH : (s.setVm Ti.vm).heap = h0 := hH
        generalize s.setVm Ti.vm = s at Xi I1 hH ⊢
        replace K0 := K0.trans K1 ((allS (Or.inr sz_b4) all0))
        show OGW Z (if len = 0 then "" :: T0 else T0) p e below s n0 room1.cells room1.slots (fun v hh => (Q1 Z len q1 q2 q3 cz T0 h0) v hh ∧ hi1.size ≤ hh.size) (Ti.setTop (mkF m 71 #[.val (.int len), .val (.int q1), .val (.int q2), .val (.int q3)] [(.ref b4)]))
        exact OGW.retA Xi d1_71 rfl rfl (by decide) (by decide) (by rw [if_neg c1]; rw [if_neg (by decide)] at I1; exact I1) ⟨⟨b4, rb, gb, rfl, sz_b4, K0, E1, Fc1, Fv1, (own_l3 hlen c1 c17 c27) ▸ A1, (own_l3 hlen c1 c17 c27) ▸ hl1⟩, Nat.le_refl _⟩
      · intro c27
        refine OGW.newO X (hw _ (List.mem_of_getElem? (i := 30) rfl)) (hw _ (List.mem_of_getElem? (i := 14) rfl)) (hw _ (List.mem_of_getElem? (i := 6) rfl)) d1_30 (by decide) (by decide) ?_
        intro T18 h19 b21 gb21 X18 E20 E_b21 D_b21
        have g_b21 : n0 ≤ b21 := Nat.le_trans Z0 (Nat.le_of_eq gb21.symm)
        have sz_b21 : h0.size ≤ b21 := Nat.le_trans K0.1 (Nat.le_of_eq gb21.symm)
        replace S_c := S_c.ext E20
        replace Z0 := Nat.le_trans Z0 E20.1
        replace K0 := K0.ext E20
        have F_value_b21 : Fld Z h19 b21 "java/lang/String" "value" "[B" .null := D_b21 (Or.inr (hw _ (List.mem_of_getElem? (i := 27) rfl))) (ty := (.array .byte)) (by decide)
        have F_coder_b21 : Fld Z h19 b21 "java/lang/String" "coder" "B" (.int 0) := D_b21 (Or.inr (hw _ (List.mem_of_getElem? (i := 29) rfl))) (ty := .byte) (by decide)
        refine OGW.dup X18 d1_33 rfl ?_
        refine OGW.iconst X18 d1_34 (z := (2 : Int32)) rfl ?_
        refine OGW.newP X18 (hw _ (List.mem_of_getElem? (i := 31) rfl)) d1_35 (by decide) (cap := 2) (by decide) (by decide) (by decide) (by decide) ?_
        rintro T22 h23 b25 gb25 X22 E24 ⟨cAb25, Nb25⟩
        have ne_b21_b25 : b21 ≠ b25 := Nat.ne_of_lt (Nat.lt_of_lt_of_le E_b21.lt (Nat.le_of_eq gb25.symm))
        have g_b25 : n0 ≤ b25 := Nat.le_trans Z0 (Nat.le_of_eq gb25.symm)
        have sz_b25 : h0.size ≤ b25 := Nat.le_trans K0.1 (Nat.le_of_eq gb25.symm)
        replace S_c := S_c.ext E24
        replace Z0 := Nat.le_trans Z0 E24.1
        replace K0 := K0.ext E24
        replace E_b21 := E_b21.ext E24
        replace F_value_b21 := F_value_b21.ext E24
        replace F_coder_b21 := F_coder_b21.ext E24
        have A_b25 : Ia Z h23 b25 .char 2 (fun _ => 0) := Ia.new Nb25 (by decide) rfl rfl
        refine OGW.dup X22 d1_37 rfl ?_
        refine OGW.iconst X22 d1_38 (z := (0 : Int32)) rfl ?_
        refine OGW.iloadN X22 d1_39 rfl ?_
        refine OGW.castore X22 A_b25 (by decide) d1_40 g_b25 ?_
        intro T26 h27 X26 W28 A26
        replace S_c := S_c.wr W28
        replace Z0 := Nat.le_trans Z0 (Keep.of_wr W28).1
        replace K0 := K0.wr W28 (Or.inr sz_b25)
        replace E_b21 := E_b21.wr W28
        replace F_value_b21 := F_value_b21.other W28 (Or.inl ne_b21_b25)
        replace F_coder_b21 := F_coder_b21.other W28 (Or.inl ne_b21_b25)
        replace A_b25 := A26
        refine OGW.dup X26 d1_41 rfl ?_
        refine OGW.iconst X26 d1_42 (z := (1 : Int32)) rfl ?_
        refine OGW.iloadN X26 d1_43 rfl ?_
        refine OGW.castore X26 A_b25 (by decide) d1_44 g_b25 ?_
        intro T29 h30 X29 W31 A29
        replace S_c := S_c.wr W31
        replace Z0 := Nat.le_trans Z0 (Keep.of_wr W31).1
        replace K0 := K0.wr W31 (Or.inr sz_b25)
        replace E_b21 := E_b21.wr W31
        replace F_value_b21 := F_value_b21.other W31 (Or.inl ne_b21_b25)
        replace F_coder_b21 := F_coder_b21.other W31 (Or.inl ne_b21_b25)
        replace A_b25 := A29
        replace A_b25 : Ia Z h30 b25 .char 2 (chs q1 q2 q3) := A_b25.congr (own_f2 hq1 hq2)
        have Kz1 : Keep Z.heap h30 [] := Kz.trans K0 all0
        refine OGW.callCW X29 rfl (hw _ (List.mem_of_getElem? (i := 32) rfl)) (hw _ (List.mem_of_getElem? (i := 33) rfl)) (by decide) hI (rm7 l Z a0 hw [] b21 b25 2 (chs q1 q2 q3) cz (2 : Int32) T0 h30 n0 E_b21 F_coder_b21 F_value_b21 A_b25 (by decide) (own_cb hq1 hq2 hq3 _) (Ne.symm ne_b21_b25) g_b21 Z0 Kz1 S_c hcz hheld hcw (fun q => absurd q (by decide)) rfl) (hw _ (List.mem_of_getElem? (i := 34) rfl)) (hw _ (List.mem_of_getElem? (i := 6) rfl)) (by decide) (W := 1) (by decide) rfl (argsL := [(.ref b25)]) pd_12 rfl d1_45 rfl (Nat.le_of_eq rfl) (by decide) (by decide) ?_
        rintro _ Ti hi1 Xi ⟨rb, gb, rfl, K1, E1, Fc1, Fv1, A1, hl1⟩ I1
        replace hH : (s.setVm Ti.vm).heap = h0 := hH
        generalize s.setVm Ti.vm = s at Xi I1 hH ⊢
        replace K0 := K0.trans K1 ((allS (Or.inr sz_b21) all0))
        show OGW Z (if len = 0 then "" :: T0 else T0) p e below s n0 room1.cells room1.slots (fun v hh => (Q1 Z len q1 q2 q3 cz T0 h0) v hh ∧ hi1.size ≤ hh.size) (Ti.setTop (mkF m 48 #[.val (.int len), .val (.int q1), .val (.int q2), .val (.int q3)] [(.ref b21)]))
        exact OGW.retA Xi d1_48 rfl rfl (by decide) (by decide) (by rw [if_neg c1]; rw [if_neg (by decide)] at I1; exact I1) ⟨⟨b21, rb, gb, rfl, sz_b21, K0, E1, Fc1, Fv1, (show 2 = len.toInt.toNat by rw [c27]; rfl) ▸ A1, (show 2 = len.toInt.toNat by rw [c27]; rfl) ▸ hl1⟩, Nat.le_refl _⟩
    · intro c17
      refine OGW.iloadN X d1_20 rfl ?_
      refine OGW.callS X (hw _ (List.mem_of_getElem? (i := 4) rfl)) (hw _ (List.mem_of_getElem? (i := 5) rfl)) (by decide) (rm2 l Z a0 hw [] q1 cz h0 n0 Z0 hq1 S_c hcz) (hw _ (List.mem_of_getElem? (i := 7) rfl)) (hw _ (List.mem_of_getElem? (i := 6) rfl)) (by decide) (W := 0) (by decide) rfl (argsL := [(.int q1)]) pd_13 rfl d1_21 rfl (Nat.le_of_eq rfl) (by decide) (by decide) ?_
      rintro _ T32 h33 X32 ⟨sa, rb, gb, rfl, hsa, K32, E1, Fc1, Fv1, A1, hg0⟩
      have ns_K32 : NSt h0 [] := NSt.nil
      replace S_c := S_c.keepN K32 ns_K32
      replace Z0 := Nat.le_trans Z0 K32.1
      replace K0 := K0.trans K32 (all0)
      show OGW Z (if len = 0 then "" :: T0 else T0) p e below s n0 room1.cells room1.slots (Q1 Z len q1 q2 q3 cz T0 h0) (T32.setTop (mkF m 24 #[.val (.int len), .val (.int q1), .val (.int q2), .val (.int q3)] [(.ref sa)]))
      exact OGW.retA X32 d1_24 rfl rfl (by decide) (by decide) (by rw [if_neg c1]; exact hI) ⟨sa, rb, gb, rfl, hsa, K0, E1, Fc1, Fv1, (show 1 = len.toInt.toNat by rw [c17]; rfl) ▸ A1, (show 1 = len.toInt.toNat by rw [c17]; rfl) ▸ own_v1 hq1 hg0⟩
  · intro c1
    refine OGW.newO X (hw _ (List.mem_of_getElem? (i := 30) rfl)) (hw _ (List.mem_of_getElem? (i := 14) rfl)) (hw _ (List.mem_of_getElem? (i := 6) rfl)) d1_4 (by decide) (by decide) ?_
    intro T34 h35 b37 gb37 X34 E36 E_b37 D_b37
    have g_b37 : n0 ≤ b37 := Nat.le_trans Z0 (Nat.le_of_eq gb37.symm)
    have sz_b37 : h0.size ≤ b37 := Nat.le_trans K0.1 (Nat.le_of_eq gb37.symm)
    replace S_c := S_c.ext E36
    replace Z0 := Nat.le_trans Z0 E36.1
    replace K0 := K0.ext E36
    have F_value_b37 : Fld Z h35 b37 "java/lang/String" "value" "[B" .null := D_b37 (Or.inr (hw _ (List.mem_of_getElem? (i := 27) rfl))) (ty := (.array .byte)) (by decide)
    have F_coder_b37 : Fld Z h35 b37 "java/lang/String" "coder" "B" (.int 0) := D_b37 (Or.inr (hw _ (List.mem_of_getElem? (i := 29) rfl))) (ty := .byte) (by decide)
    refine OGW.dup X34 d1_7 rfl ?_
    refine OGW.iconst X34 d1_8 (z := (0 : Int32)) rfl ?_
    refine OGW.newP X34 (hw _ (List.mem_of_getElem? (i := 31) rfl)) d1_9 (by decide) (cap := 0) (by decide) (by decide) (by decide) (by decide) ?_
    rintro T38 h39 b41 gb41 X38 E40 ⟨cAb41, Nb41⟩
    have ne_b37_b41 : b37 ≠ b41 := Nat.ne_of_lt (Nat.lt_of_lt_of_le E_b37.lt (Nat.le_of_eq gb41.symm))
    have g_b41 : n0 ≤ b41 := Nat.le_trans Z0 (Nat.le_of_eq gb41.symm)
    have sz_b41 : h0.size ≤ b41 := Nat.le_trans K0.1 (Nat.le_of_eq gb41.symm)
    replace S_c := S_c.ext E40
    replace Z0 := Nat.le_trans Z0 E40.1
    replace K0 := K0.ext E40
    replace E_b37 := E_b37.ext E40
    replace F_value_b37 := F_value_b37.ext E40
    replace F_coder_b37 := F_coder_b37.ext E40
    have A_b41 : Ia Z h39 b41 .char 0 (fun _ => 0) := Ia.new Nb41 (by decide) rfl rfl
    replace A_b41 : Ia Z h39 b41 .char 0 (chs q1 q2 q3) := A_b41.congr (fun i hi => absurd hi (Nat.not_lt_zero _))
    have Kz1 : Keep Z.heap h39 [] := Kz.trans K0 all0
    refine OGW.callCW X38 rfl (hw _ (List.mem_of_getElem? (i := 32) rfl)) (hw _ (List.mem_of_getElem? (i := 33) rfl)) (by decide) hI (rm7 l Z a0 hw [] b37 b41 0 (chs q1 q2 q3) cz (0 : Int32) T0 h39 n0 E_b37 F_coder_b37 F_value_b37 A_b41 (by decide) (own_cb hq1 hq2 hq3 _) (Ne.symm ne_b37_b41) g_b37 Z0 Kz1 S_c hcz hheld hcw (fun _ => hT c1) rfl) (hw _ (List.mem_of_getElem? (i := 34) rfl)) (hw _ (List.mem_of_getElem? (i := 6) rfl)) (by decide) (W := 1) (by decide) rfl (argsL := [(.ref b41)]) pd_12 rfl d1_11 rfl (Nat.le_of_eq rfl) (by decide) (by decide) ?_
    rintro _ Ti hi1 Xi ⟨rb, gb, rfl, K1, E1, Fc1, Fv1, A1, hl1⟩ I1
    replace hH : (s.setVm Ti.vm).heap = h0 := hH
    generalize s.setVm Ti.vm = s at Xi I1 hH ⊢
    replace K0 := K0.trans K1 ((allS (Or.inr sz_b37) all0))
    show OGW Z (if len = 0 then "" :: T0 else T0) p e below s n0 room1.cells room1.slots (fun v hh => (Q1 Z len q1 q2 q3 cz T0 h0) v hh ∧ hi1.size ≤ hh.size) (Ti.setTop (mkF m 14 #[.val (.int len), .val (.int q1), .val (.int q2), .val (.int q3)] [(.ref b37)]))
    exact OGW.retA Xi d1_14 rfl rfl (by decide) (by decide) (by rw [if_pos c1]; rw [if_pos rfl] at I1; exact I1) ⟨⟨b37, rb, gb, rfl, sz_b37, K0, E1, Fc1, Fv1, (show 0 = len.toInt.toNat by rw [c1]; rfl) ▸ A1, (show 0 = len.toInt.toNat by rw [c1]; rfl) ▸ hl1⟩, Nat.le_refl _⟩
theorem pn_10 : plainName "java/util/Objects" = true := by first | (simp [plainName, overriddenIn]; done) | decide +kernel
theorem ef_10 (m : MethodId) (a : Addr) (b : Addr) : entryFrame m #[(.ref a), (.ref b)] 2 = mkF m 0 #[.val (.ref a), .val (.ref b)] [] := by first | (simp [entryFrame, mkF, argsToLocals, Value.category]; done) | rfl
def Q10 (Z : State) (a : Addr) (b : Addr)  (h0 : Heap) : Option Value → Heap → Prop := fun v h => v = some (.ref a) ∧ h = h0
theorem d10_0 : decode jdk_31_method_11_code 0 = .ok (.aload_n 0, 1) := by decide +kernel
theorem d10_1 : decode jdk_31_method_11_code 1 = .ok (.ifnonnull 12, 3) := by decide +kernel
theorem d10_13 : decode jdk_31_method_11_code 13 = .ok (.aload_n 0, 1) := by decide +kernel
theorem d10_14 : decode jdk_31_method_11_code 14 = .ok (.areturn, 1) := by decide +kernel
abbrev room10 : Room := { frames := 0, cells := 0, slots := 0, locals := 0 }
set_option maxRecDepth 65536 in
set_option maxHeartbeats 40000000 in
theorem rm10 (l : Launch) (Z : State) (a0 : Array Value) (hw : ∀ d ∈ tables_1, d.before a0 Z = true) (ws : List Jvm.Cond) (a : Addr) (b : Addr)  (h0 : Heap) (n0 : Nat)  :
    OM l (⟨"java/util/Objects", "requireNonNull", "(Ljava/lang/Object;Ljava/lang/String;)Ljava/lang/Object;"⟩ : MethodName) jdk_31_method_11_code 2 (some (.object "java/lang/Object")) room10 ws Z #[(.ref a), (.ref b)] h0 n0 (Q10 Z a b  h0) := by
  refine OM.of (plainFor_of_name pn_10) (fun m => ef_10 m a b) ?_
  intro p e s m below meth c T X
  refine OG.aloadN X d10_0 rfl rfl ?_
  refine OG.ifnonnullYes X d10_1 (pc' := 13) (by decide) ?_
  refine OG.aloadN X d10_13 rfl rfl ?_
  exact OG.retA X d10_14 rfl rfl (by decide) (by decide) ⟨rfl, rfl⟩
theorem pn_9 : plainName "com/example/iron_lock/ironlock/model/LockKeys" = true := by first | (simp [plainName, overriddenIn]; done) | decide +kernel
theorem ef_9 (m : MethodId) (a : Addr) (na : Addr) : entryFrame m #[(.ref a), (.ref na)] 2 = mkF m 0 #[.val (.ref a), .val (.ref na)] [] := by first | (simp [entryFrame, mkF, argsToLocals, Value.category]; done) | rfl
def Q9 (Z : State) (a : Addr) (na : Addr) (b : Addr) (nn : Nat) (g : Nat → Int32) (cz z : Int32) (h0 : Heap) : Option Value → Heap → Prop := fun v h => v = none ∧ Keep h0 h [a] ∧ Exa Z h a "com/example/iron_lock/ironlock/model/LockKeys" ∧ Fld Z h a "com/example/iron_lock/ironlock/model/LockKeys" "name" "Ljava/lang/String;" (.ref na)
theorem d9_0 : decode prog_4_method_1_code 0 = .ok (.aload_n 0, 1) := by decide +kernel
theorem d9_1 : decode prog_4_method_1_code 1 = .ok (.invokespecial 1, 3) := by decide +kernel
theorem d9_4 : decode prog_4_method_1_code 4 = .ok (.aload_n 1, 1) := by decide +kernel
theorem d9_5 : decode prog_4_method_1_code 5 = .ok (.ldc 7, 2) := by decide +kernel
theorem d9_7 : decode prog_4_method_1_code 7 = .ok (.invokestatic 9, 3) := by decide +kernel
theorem pd_14 : parseMethodDescriptor "(Ljava/lang/Object;Ljava/lang/String;)Ljava/lang/Object;" = some ⟨[(.object "java/lang/Object"), (.object "java/lang/String")], some (.object "java/lang/Object")⟩ := by decide +kernel
theorem d9_10 : decode prog_4_method_1_code 10 = .ok (.pop, 1) := by decide +kernel
theorem d9_11 : decode prog_4_method_1_code 11 = .ok (.aload_n 1, 1) := by decide +kernel
theorem d9_12 : decode prog_4_method_1_code 12 = .ok (.invokevirtual 15, 3) := by decide +kernel
theorem d9_15 : decode prog_4_method_1_code 15 = .ok (.ifCond .eq 13, 3) := by decide +kernel
theorem d9_28 : decode prog_4_method_1_code 28 = .ok (.aload_n 0, 1) := by decide +kernel
theorem d9_29 : decode prog_4_method_1_code 29 = .ok (.aload_n 1, 1) := by decide +kernel
theorem d9_30 : decode prog_4_method_1_code 30 = .ok (.putfield 28, 3) := by decide +kernel
theorem d9_33 : decode prog_4_method_1_code 33 = .ok (.return_, 1) := by decide +kernel
abbrev room9 : Room := { frames := 1, cells := 2, slots := 20, locals := 13 }
set_option maxRecDepth 65536 in
set_option maxHeartbeats 40000000 in
theorem rm9 (l : Launch) (Z : State) (a0 : Array Value) (hw : ∀ d ∈ tables_1, d.before a0 Z = true) (ws : List Jvm.Cond) (a : Addr) (na : Addr) (b : Addr) (nn : Nat) (g : Nat → Int32) (cz z : Int32) (h0 : Heap) (n0 : Nat) (E_a : Exa Z h0 a "com/example/iron_lock/ironlock/model/LockKeys") (F_name_a : Fld Z h0 a "com/example/iron_lock/ironlock/model/LockKeys" "name" "Ljava/lang/String;" .null) (g_a : n0 ≤ a) (Z0 : n0 ≤ h0.size) (Kz : Keep Z.heap h0 []) (E_na : Exa Z h0 na "java/lang/String") (Fc_na : Fld Z h0 na "java/lang/String" "coder" "B" (.int 0)) (Fv_na : Fld Z h0 na "java/lang/String" "value" "[B" (.ref b)) (A_b : Ia Z h0 b .byte nn g) (hz : z.toInt = nn) (hne : ¬ z = 0) (nna : na ≠ a) (nba : b ≠ a) (S_c : Sta Z h0 "java/lang/String" "COMPACT_STRINGS" "Z" (.int cz)) (hcz : ¬ cz = 0) (hheld : Jvm.Lit.constHeld Z "com/example/iron_lock/ironlock/model/LockKeys" 7) (hcw : Jvm.Lit.compactW.before a0 Z = true) :
    OMW [""] ["name", ""] l (⟨"com/example/iron_lock/ironlock/model/LockKeys", "<init>", "(Ljava/lang/String;)V"⟩ : MethodName) prog_4_method_1_code 2 none room9 ws Z #[(.ref a), (.ref na)] h0 n0 (Q9 Z a na b nn g cz z h0) := by
  refine OMW.of (plainFor_of_name pn_9) (fun m => ef_9 m a na) ?_
  intro p e s m below meth c T X hI hH
  have X := X s.heap.size
  have K0 : Keep h0 h0 [a] := Keep.refl _ _
  refine OGW.aloadN X d9_0 rfl rfl ?_
  refine OGW.initO X (hw _ (List.mem_of_getElem? (i := 47) rfl)) (hw _ (List.mem_of_getElem? (i := 24) rfl)) (hw _ (List.mem_of_getElem? (i := 25) rfl)) d9_1 rfl (by decide) (W := 0) (Nat.le_of_eq rfl) (by decide) ?_
  intro T1 X1
  refine OGW.aloadN X1 d9_4 rfl rfl ?_
  refine OGW.ldcS X1 (text := "name") (z := 4) (n := 16) (hw _ (List.mem_of_getElem? (i := 48) rfl)) (fun d hd => by simp only [Bundle.stringAtoms, List.mem_cons, List.not_mem_nil, or_false] at hd; rcases hd with rfl | rfl | rfl | rfl | rfl | rfl | rfl <;> first | exact (hw _ (List.mem_of_getElem? (i := 6) rfl)) | exact (hw _ (List.mem_of_getElem? (i := 14) rfl)) | exact (hw _ (List.mem_of_getElem? (i := 18) rfl)) | exact (hw _ (List.mem_of_getElem? (i := 27) rfl)) | exact (hw _ (List.mem_of_getElem? (i := 29) rfl)) | exact (hw _ (List.mem_of_getElem? (i := 39) rfl)) | exact (hw _ (List.mem_of_getElem? (i := 40) rfl))) (by rw [hH]; exact Nat.le_refl _) (Nat.le_refl _) (by rw [hH]; exact Z0) (fun b cl q => by rw [hH]; exact Kz.2.1 b cl q (by simp)) hI (by decide) hheld hcw ⟨by decide, rfl⟩ (by decide) rfl d9_5 (by decide) (by decide) (by decide) (by decide) ?_
  intro ra rq T1 h1 k1 X1 E1 E_ra F_cr F_vr V_q I1 Lt
  replace hH : (s.setVm T1.vm).heap = h0 := hH
  generalize s.setVm T1.vm = s at X1 I1 Lt hH ⊢
  replace E_a := E_a.ext E1
  replace F_name_a := F_name_a.ext E1
  replace E_na := E_na.ext E1
  replace Fc_na := Fc_na.ext E1
  replace Fv_na := Fv_na.ext E1
  replace A_b := A_b.ext E1
  replace S_c := S_c.ext E1
  replace Z0 := Nat.le_trans Z0 E1.1
  replace K0 := K0.ext E1
  have Zh1 : h1.size ≤ h1.size := Nat.le_refl _
  refine OGW.callS X1 (hw _ (List.mem_of_getElem? (i := 49) rfl)) (hw _ (List.mem_of_getElem? (i := 50) rfl)) (by decide) (rm10 l Z a0 hw [] na ra h1 n0) (hw _ (List.mem_of_getElem? (i := 52) rfl)) (hw _ (List.mem_of_getElem? (i := 51) rfl)) (by decide) (W := 0) (by decide) rfl (argsL := [(.ref na), (.ref ra)]) pd_14 rfl d9_7 rfl (Nat.le_of_eq rfl) (by decide) (by decide) ?_
  rintro _ T11 h12 X11 ⟨rfl, eh12⟩
  rw [eh12] at X11
  show OGW Z ["name", ""] p e below s n0 room9.cells room9.slots (fun v hh => (Q9 Z a na b nn g cz z h0) v hh ∧ h1.size ≤ hh.size) (T11.setTop (mkF m 10 #[.val (.ref a), .val (.ref na)] [(.ref na)]))
  refine OGW.pop X11 d9_10 rfl ?_
  refine OGW.aloadN X11 d9_11 rfl rfl ?_
  refine OGW.callV X11 (hw _ (List.mem_of_getElem? (i := 53) rfl)) (hw _ (List.mem_of_getElem? (i := 54) rfl)) (notFace_of_selects (args := #[]) (mvT X11.warm (hw _ (List.mem_of_getElem? (i := 56) rfl)))) (hw _ (List.mem_of_getElem? (i := 56) rfl)) (hw _ (List.mem_of_getElem? (i := 55) rfl)) (by decide) E_na (rm11 l Z a0 hw [] na b _ g cz z h1 n0 S_c hcz E_na Fc_na Fv_na A_b hz hne) (hw _ (List.mem_of_getElem? (i := 57) rfl)) (hw _ (List.mem_of_getElem? (i := 6) rfl)) (by decide) (W := 0) (by decide) rfl (argsL := []) pd_3 rfl d9_12 rfl (Nat.le_of_eq rfl) (by decide) (by decide) ?_
  rintro _ T13 h14 X13 ⟨rfl, eh14⟩
  rw [eh14] at X13
  show OGW Z ["name", ""] p e below s n0 room9.cells room9.slots (fun v hh => (Q9 Z a na b nn g cz z h0) v hh ∧ h1.size ≤ hh.size) (T13.setTop (mkF m 15 #[.val (.ref a), .val (.ref na)] [(.int (0 : Int32))]))
  refine OGW.if_eq_t X13 d9_15 (pc' := 28) (by decide) (by decide) ?_
  refine OGW.aloadN X13 d9_28 rfl rfl ?_
  refine OGW.aloadN X13 d9_29 rfl rfl ?_
  refine OGW.putF X13 (host := "") (Or.inl (hw _ (List.mem_of_getElem? (i := 58) rfl))) Via.refl F_name_a E_a (Or.inr ⟨(hw _ (List.mem_of_getElem? (i := 59) rfl)), rfl, rfl⟩) (hw _ (List.mem_of_getElem? (i := 42) rfl)) (ty := (.object "java/lang/String")) (by decide) rfl rfl d9_30 g_a ?_
  intro T15 h16 X15 W17
  replace E_a := E_a.wr W17
  replace F_name_a := F_name_a.same W17
  replace E_na := E_na.wr W17
  replace Fc_na := Fc_na.other W17 (Or.inl nna)
  replace Fv_na := Fv_na.other W17 (Or.inl nna)
  replace A_b := A_b.other W17 nba
  replace S_c := S_c.wr W17
  replace Z0 := Nat.le_trans Z0 (Keep.of_wr W17).1
  replace K0 := K0.wr W17 (Or.inl (by simp))
  replace Zh1 := Nat.le_trans Zh1 (Keep.of_wr W17).1
  exact OGW.retV X15 d9_33 (by decide) (by decide) I1 ⟨⟨rfl, K0, E_a, F_name_a⟩, Zh1⟩
def AP (gv : Nat → Int32) (k nn : Nat) (g : Nat → Int32) : Nat → Int32 := fun i => if k ≤ i ∧ i < k + nn then g (i - k) else gv i
def BY (n : Nat) (g : Nat → Int32) : Prop := ∀ i, i < n → (g i).toInt8.toInt32 = g i
theorem BY.ap {gv g : Nat → Int32} {k nn : Nat} (h : BY 16 gv) (h2 : BY nn g) : BY 16 (AP gv k nn g) := by
  intro i hi
  unfold AP
  split
  · rename_i q; exact h2 _ (by omega)
  · exact h i hi
theorem BY.z (n : Nat) : BY n (fun _ => 0) := fun _ _ => own_b0
theorem BY.l1 {n : Nat} {f g : Nat → Int32} (h : L1 n f g) : BY n g := fun i hi => by rw [(h i hi).2, own_i2b]
theorem own_dp {ix q : Int32} {k : Nat} (hq : q = 0) (h : ix.toInt = k) : (ix <<< (q &&& 31)).toInt = k := by
  subst hq
  have h1 := c_ishl ix 0 0 (by decide)
  have h2 := rng32 (ix <<< ((0 : Int32) &&& 31))
  have h3 : ((2 ^ 0 : Nat) : Int) = 1 := by decide
  have h4 := rng32 ix
  rw [h3] at h1
  omega
theorem own_cap {q c : Int32} (hq : 0 ≤ q.toInt ∧ q.toInt ≤ 16) (hc : c = (16 : Int32) >>> ((0 : Int32) &&& 31)) : ¬ (0 : Int32) < q - c := by
  rw [own_s0] at hc
  subst hc
  have h1 := c_isub q 16
  have h2 := rng32 (q - 16)
  have e : (16 : Int32).toInt = 16 := rfl
  have e0 : (0 : Int32).toInt = 0 := rfl
  rw [Int32.lt_iff_toInt_lt]; omega
theorem own_cs {ct z : Int32} {k n : Nat} (h1 : ct.toInt = k) (h2 : z.toInt = n) (h : k + n ≤ 16) : (ct + z).toInt = (k + n : Nat) := by
  have a1 := c_iadd ct z
  have a2 := rng32 (ct + z)
  omega
theorem pn_19 : plainName "java/lang/AbstractStringBuilder" = true := by first | (simp [plainName, overriddenIn]; done) | decide +kernel
theorem ef_19 (m : MethodId) (a : Addr) (q : Int32) : entryFrame m #[(.ref a), (.int q)] 3 = mkF m 0 #[.val (.ref a), .val (.int q), .unset] [] := by first | (simp [entryFrame, mkF, argsToLocals, Value.category]; done) | rfl
def Q19 (Z : State) (a : Addr) (q : Int32) (vb : Addr) (ct : Int32) (k : Nat) (gv : Nat → Int32) (h0 : Heap) : Option Value → Heap → Prop := fun v h => v = none ∧ h = h0
theorem d19_0 : decode jdk_68_method_9_code 0 = .ok (.aload_n 0, 1) := by decide +kernel
theorem d19_1 : decode jdk_68_method_9_code 1 = .ok (.getfield 15, 3) := by decide +kernel
theorem d19_4 : decode jdk_68_method_9_code 4 = .ok (.arraylength, 1) := by decide +kernel
theorem d19_5 : decode jdk_68_method_9_code 5 = .ok (.aload_n 0, 1) := by decide +kernel
theorem d19_6 : decode jdk_68_method_9_code 6 = .ok (.getfield 22, 3) := by decide +kernel
theorem d19_9 : decode jdk_68_method_9_code 9 = .ok (.ishr, 1) := by decide +kernel
theorem d19_10 : decode jdk_68_method_9_code 10 = .ok (.istore_n 2, 1) := by decide +kernel
theorem d19_11 : decode jdk_68_method_9_code 11 = .ok (.iload_n 1, 1) := by decide +kernel
theorem d19_12 : decode jdk_68_method_9_code 12 = .ok (.iload_n 2, 1) := by decide +kernel
theorem d19_13 : decode jdk_68_method_9_code 13 = .ok (.isub, 1) := by decide +kernel
theorem d19_14 : decode jdk_68_method_9_code 14 = .ok (.ifCond .le 24, 3) := by decide +kernel
theorem d19_38 : decode jdk_68_method_9_code 38 = .ok (.return_, 1) := by decide +kernel
abbrev room19 : Room := { frames := 0, cells := 0, slots := 0, locals := 0 }
set_option maxRecDepth 65536 in
set_option maxHeartbeats 40000000 in
theorem rm19 (l : Launch) (Z : State) (a0 : Array Value) (hw : ∀ d ∈ tables_1, d.before a0 Z = true) (ws : List Jvm.Cond) (a : Addr) (q : Int32) (vb : Addr) (ct : Int32) (k : Nat) (gv : Nat → Int32) (h0 : Heap) (n0 : Nat) (E_a : Exa Z h0 a "java/lang/StringBuilder") (Fv_a : Fld Z h0 a "java/lang/AbstractStringBuilder" "value" "[B" (.ref vb)) (Fc_a : Fld Z h0 a "java/lang/AbstractStringBuilder" "coder" "B" (.int 0)) (Fn_a : Fld Z h0 a "java/lang/AbstractStringBuilder" "count" "I" (.int ct)) (A_vb : Ia Z h0 vb .byte 16 gv) (hby : BY 16 gv) (hct : ct.toInt = k) (hq : 0 ≤ q.toInt ∧ q.toInt ≤ 16) :
    OM l (⟨"java/lang/AbstractStringBuilder", "ensureCapacityInternal", "(I)V"⟩ : MethodName) jdk_68_method_9_code 3 none room19 ws Z #[(.ref a), (.int q)] h0 n0 (Q19 Z a q vb ct k gv h0) := by
  refine OM.of (plainFor_of_name pn_19) (fun m => ef_19 m a q) ?_
  intro p e s m below meth c T X
  refine OG.aloadN X d19_0 rfl rfl ?_
  refine OG.getF X (host := "") (Or.inl (hw _ (List.mem_of_getElem? (i := 80) rfl))) Via.refl Fv_a d19_1 ?_
  intro T1 X1
  refine OG.arraylength X1 A_vb (z := (16 : Int32)) rfl d19_4 ?_
  refine OG.aloadN X1 d19_5 rfl rfl ?_
  refine OG.getF X1 (host := "") (Or.inl (hw _ (List.mem_of_getElem? (i := 82) rfl))) Via.refl Fc_a d19_6 ?_
  intro T2 X2
  refine OG.ishr X2 d19_9 ?_
  refine OG.istoreNV X2 d19_10 (l' := fun z => #[.val (.ref a), .val (.int q), .val (.int z)]) (fun _ => rfl) ?_
  intro cap hcap
  refine OG.iloadN X2 d19_11 rfl ?_
  refine OG.iloadN X2 d19_12 rfl ?_
  refine OG.isub X2 d19_13 ?_
  refine OG.if_le_t X2 d19_14 (pc' := 38) (by decide) (own_cap hq hcap) ?_
  exact OG.retV X2 d19_38 (by decide) (by decide) ⟨rfl, rfl⟩
theorem pn_21 : plainName "java/lang/AbstractStringBuilder" = true := by first | (simp [plainName, overriddenIn]; done) | decide +kernel
theorem ef_21 (m : MethodId) (a : Addr) (sa : Addr) : entryFrame m #[(.ref a), (.ref sa)] 2 = mkF m 0 #[.val (.ref a), .val (.ref sa)] [] := by first | (simp [entryFrame, mkF, argsToLocals, Value.category]; done) | rfl
def Q21 (Z : State) (a : Addr) (sa : Addr) (vb : Addr) (ct : Int32) (k : Nat) (gv : Nat → Int32) (b : Addr) (nn : Nat) (g : Nat → Int32) (cz z : Int32) (h0 : Heap) : Option Value → Heap → Prop := fun v h => v = none ∧ h = h0
theorem d21_0 : decode jdk_68_method_71_code 0 = .ok (.getstatic 18, 3) := by decide +kernel
theorem d21_3 : decode jdk_68_method_71_code 3 = .ok (.ifCond .eq 18, 3) := by decide +kernel
theorem d21_6 : decode jdk_68_method_71_code 6 = .ok (.aload_n 0, 1) := by decide +kernel
theorem d21_7 : decode jdk_68_method_71_code 7 = .ok (.getfield 22, 3) := by decide +kernel
theorem d21_10 : decode jdk_68_method_71_code 10 = .ok (.aload_n 1, 1) := by decide +kernel
theorem d21_11 : decode jdk_68_method_71_code 11 = .ok (.invokevirtual 40, 3) := by decide +kernel
theorem d21_14 : decode jdk_68_method_71_code 14 = .ok (.if_icmp .eq 7, 3) := by decide +kernel
theorem d21_21 : decode jdk_68_method_71_code 21 = .ok (.return_, 1) := by decide +kernel
abbrev room21 : Room := { frames := 1, cells := 0, slots := 0, locals := 13 }
set_option maxRecDepth 65536 in
set_option maxHeartbeats 40000000 in
theorem rm21 (l : Launch) (Z : State) (a0 : Array Value) (hw : ∀ d ∈ tables_1, d.before a0 Z = true) (ws : List Jvm.Cond) (a : Addr) (sa : Addr) (vb : Addr) (ct : Int32) (k : Nat) (gv : Nat → Int32) (b : Addr) (nn : Nat) (g : Nat → Int32) (cz z : Int32) (h0 : Heap) (n0 : Nat) (E_a : Exa Z h0 a "java/lang/StringBuilder") (Fv_a : Fld Z h0 a "java/lang/AbstractStringBuilder" "value" "[B" (.ref vb)) (Fc_a : Fld Z h0 a "java/lang/AbstractStringBuilder" "coder" "B" (.int 0)) (Fn_a : Fld Z h0 a "java/lang/AbstractStringBuilder" "count" "I" (.int ct)) (A_vb : Ia Z h0 vb .byte 16 gv) (hby : BY 16 gv) (hct : ct.toInt = k) (E_sa : Exa Z h0 sa "java/lang/String") (Fc_sa : Fld Z h0 sa "java/lang/String" "coder" "B" (.int 0)) (Fv_sa : Fld Z h0 sa "java/lang/String" "value" "[B" (.ref b)) (A_b : Ia Z h0 b .byte nn g) (hz : z.toInt = nn) (hgb : BY nn g) (S_c : Sta Z h0 "java/lang/String" "COMPACT_STRINGS" "Z" (.int cz)) (hcz : ¬ cz = 0) :
    OM l (⟨"java/lang/AbstractStringBuilder", "inflateIfNeededFor", "(Ljava/lang/String;)V"⟩ : MethodName) jdk_68_method_71_code 2 none room21 ws Z #[(.ref a), (.ref sa)] h0 n0 (Q21 Z a sa vb ct k gv b nn g cz z h0) := by
  refine OM.of (plainFor_of_name pn_21) (fun m => ef_21 m a sa) ?_
  intro p e s m below meth c T X
  refine OG.getS X (host := "") (Or.inl (hw _ (List.mem_of_getElem? (i := 79) rfl))) Via.refl S_c d21_0 ?_
  intro T1 X1
  refine OG.if_eq_f X1 d21_3 hcz ?_
  refine OG.aloadN X1 d21_6 rfl rfl ?_
  refine OG.getF X1 (host := "") (Or.inl (hw _ (List.mem_of_getElem? (i := 82) rfl))) Via.refl Fc_a d21_7 ?_
  intro T2 X2
  refine OG.aloadN X2 d21_10 rfl rfl ?_
  refine OG.callV X2 (hw _ (List.mem_of_getElem? (i := 122) rfl)) (hw _ (List.mem_of_getElem? (i := 101) rfl)) (notFace_of_selects (args := #[]) (mvT X2.warm (hw _ (List.mem_of_getElem? (i := 103) rfl)))) (hw _ (List.mem_of_getElem? (i := 103) rfl)) (hw _ (List.mem_of_getElem? (i := 102) rfl)) (by decide) E_sa (rm18 l Z a0 hw [] sa b _ g cz z h0 n0 S_c hcz E_sa Fc_sa Fv_sa A_b hz ) (hw _ (List.mem_of_getElem? (i := 104) rfl)) (hw _ (List.mem_of_getElem? (i := 6) rfl)) (by decide) (W := 1) (by decide) rfl (argsL := []) pd_2 rfl d21_11 rfl (Nat.le_of_eq rfl) (by decide) (by decide) ?_
  rintro _ T3 h4 X3 ⟨rfl, eh4⟩
  rw [eh4] at X3
  show OG p e below s n0 room21.cells room21.slots (Q21 Z a sa vb ct k gv b nn g cz z h0) (T3.setTop (mkF m 14 #[.val (.ref a), .val (.ref sa)] [(.int (0 : Int32)), (.int (0 : Int32))]))
  refine OG.icmp_eq_t X3 d21_14 (pc' := 21) (by decide) (by decide) ?_
  exact OG.retV X3 d21_21 (by decide) (by decide) ⟨rfl, rfl⟩
theorem pn_22 : plainName "java/lang/String" = true := by first | (simp [plainName, overriddenIn]; done) | decide +kernel
theorem ef_22 (m : MethodId) (a : Addr) (d : Addr) (ix : Int32) (q : Int32) : entryFrame m #[(.ref a), (.ref d), (.int ix), (.int q)] 4 = mkF m 0 #[.val (.ref a), .val (.ref d), .val (.int ix), .val (.int q)] [] := by first | (simp [entryFrame, mkF, argsToLocals, Value.category]; done) | rfl
def Q22 (Z : State) (a : Addr) (d : Addr) (ix : Int32) (q : Int32) (b : Addr) (nn : Nat) (g : Nat → Int32) (cz z : Int32) (k : Nat) (gv : Nat → Int32) (h0 : Heap) : Option Value → Heap → Prop := fun v h => v = none ∧ Keep h0 h [d] ∧ Ia Z h d .byte 16 (AP gv k nn g)
theorem d22_0 : decode jdk_42_method_147_code 0 = .ok (.aload_n 0, 1) := by decide +kernel
theorem d22_1 : decode jdk_42_method_147_code 1 = .ok (.invokevirtual 335, 3) := by decide +kernel
theorem d22_4 : decode jdk_42_method_147_code 4 = .ok (.iload_n 3, 1) := by decide +kernel
theorem d22_5 : decode jdk_42_method_147_code 5 = .ok (.if_icmp .ne 23, 3) := by decide +kernel
theorem d22_8 : decode jdk_42_method_147_code 8 = .ok (.aload_n 0, 1) := by decide +kernel
theorem d22_9 : decode jdk_42_method_147_code 9 = .ok (.getfield 9, 3) := by decide +kernel
theorem d22_12 : decode jdk_42_method_147_code 12 = .ok (.iconst 0, 1) := by decide +kernel
theorem d22_13 : decode jdk_42_method_147_code 13 = .ok (.aload_n 1, 1) := by decide +kernel
theorem d22_14 : decode jdk_42_method_147_code 14 = .ok (.iload_n 2, 1) := by decide +kernel
theorem d22_15 : decode jdk_42_method_147_code 15 = .ok (.iload_n 3, 1) := by decide +kernel
theorem d22_16 : decode jdk_42_method_147_code 16 = .ok (.ishl, 1) := by decide +kernel
theorem d22_17 : decode jdk_42_method_147_code 17 = .ok (.aload_n 0, 1) := by decide +kernel
theorem d22_18 : decode jdk_42_method_147_code 18 = .ok (.getfield 9, 3) := by decide +kernel
theorem d22_21 : decode jdk_42_method_147_code 21 = .ok (.arraylength, 1) := by decide +kernel
theorem d22_22 : decode jdk_42_method_147_code 22 = .ok (.invokestatic 212, 3) := by decide +kernel
theorem d22_25 : decode jdk_42_method_147_code 25 = .ok (.goto 18, 3) := by decide +kernel
theorem d22_43 : decode jdk_42_method_147_code 43 = .ok (.return_, 1) := by decide +kernel
abbrev room22 : Room := { frames := 1, cells := 0, slots := 0, locals := 18 }
set_option maxRecDepth 65536 in
set_option maxHeartbeats 40000000 in
theorem rm22 (l : Launch) (Z : State) (a0 : Array Value) (hw : ∀ d ∈ tables_1, d.before a0 Z = true) (ws : List Jvm.Cond) (a : Addr) (d : Addr) (ix : Int32) (q : Int32) (b : Addr) (nn : Nat) (g : Nat → Int32) (cz z : Int32) (k : Nat) (gv : Nat → Int32) (h0 : Heap) (n0 : Nat) (E_a : Exa Z h0 a "java/lang/String") (Fc_a : Fld Z h0 a "java/lang/String" "coder" "B" (.int 0)) (Fv_a : Fld Z h0 a "java/lang/String" "value" "[B" (.ref b)) (A_b : Ia Z h0 b .byte nn g) (hz : z.toInt = nn) (hgb : BY nn g) (A_d : Ia Z h0 d .byte 16 gv) (hby : BY 16 gv) (hix : ix.toInt = k) (hcd : q = 0) (hcap : k + nn ≤ 16) (g_d : n0 ≤ d) (S_c : Sta Z h0 "java/lang/String" "COMPACT_STRINGS" "Z" (.int cz)) (hcz : ¬ cz = 0) :
    OM l (⟨"java/lang/String", "getBytes", "([BIB)V"⟩ : MethodName) jdk_42_method_147_code 4 none room22 ws Z #[(.ref a), (.ref d), (.int ix), (.int q)] h0 n0 (Q22 Z a d ix q b nn g cz z k gv h0) := by
  refine OM.of (plainFor_of_name pn_22) (fun m => ef_22 m a d ix q) ?_
  intro p e s m below meth c T X
  refine OG.aloadN X d22_0 rfl rfl ?_
  refine OG.callV X (hw _ (List.mem_of_getElem? (i := 100) rfl)) (hw _ (List.mem_of_getElem? (i := 101) rfl)) (notFace_of_selects (args := #[]) (mvT X.warm (hw _ (List.mem_of_getElem? (i := 103) rfl)))) (hw _ (List.mem_of_getElem? (i := 103) rfl)) (hw _ (List.mem_of_getElem? (i := 102) rfl)) (by decide) E_a (rm18 l Z a0 hw [] a b _ g cz z h0 n0 S_c hcz E_a Fc_a Fv_a A_b hz ) (hw _ (List.mem_of_getElem? (i := 104) rfl)) (hw _ (List.mem_of_getElem? (i := 6) rfl)) (by decide) (W := 0) (by decide) rfl (argsL := []) pd_2 rfl d22_1 rfl (Nat.le_of_eq rfl) (by decide) (by decide) ?_
  rintro _ T1 h2 X1 ⟨rfl, eh2⟩
  rw [eh2] at X1
  show OG p e below s n0 room22.cells room22.slots (Q22 Z a d ix q b nn g cz z k gv h0) (T1.setTop (mkF m 4 #[.val (.ref a), .val (.ref d), .val (.int ix), .val (.int q)] [(.int (0 : Int32))]))
  refine OG.iloadN X1 d22_4 rfl ?_
  refine OG.icmp_ne_f X1 d22_5 hcd.symm ?_
  refine OG.aloadN X1 d22_8 rfl rfl ?_
  refine OG.getF X1 (host := "") (Or.inl (hw _ (List.mem_of_getElem? (i := 26) rfl))) Via.refl Fv_a d22_9 ?_
  intro T3 X3
  refine OG.iconst X3 d22_12 (z := (0 : Int32)) rfl ?_
  refine OG.aloadN X3 d22_13 rfl rfl ?_
  refine OG.iloadN X3 d22_14 rfl ?_
  refine OG.iloadN X3 d22_15 rfl ?_
  refine OG.ishl X3 d22_16 ?_
  refine OG.aloadN X3 d22_17 rfl rfl ?_
  refine OG.getF X3 (host := "") (Or.inl (hw _ (List.mem_of_getElem? (i := 26) rfl))) Via.refl Fv_a d22_18 ?_
  intro T4 X4
  refine OG.arraylength X4 A_b (z := z) hz d22_21 ?_
  refine OG.arraycopyB X4 (hw _ (List.mem_of_getElem? (i := 128) rfl)) (hw _ (List.mem_of_getElem? (i := 131) rfl)) (hw _ (List.mem_of_getElem? (i := 129) rfl)) (hw _ (List.mem_of_getElem? (i := 130) rfl)) A_b A_d hgb hby (q := nn) (d := k) hz (own_dp hcd hix) (Nat.le_refl _) hcap g_d d22_22 rfl (by decide) (W := 0) (Nat.le_of_eq rfl) (by decide) ?_
  intro T1 h1 X1 K1 B1
  refine OG.goto X1 d22_25 (pc' := 43) (by decide) ?_
  exact OG.retV X1 d22_43 (by decide) (by decide) ⟨rfl, K1, B1⟩
theorem pn_20 : plainName "java/lang/AbstractStringBuilder" = true := by first | (simp [plainName, overriddenIn]; done) | decide +kernel
theorem ef_20 (m : MethodId) (a : Addr) (ix : Int32) (sa : Addr) : entryFrame m #[(.ref a), (.int ix), (.ref sa)] 3 = mkF m 0 #[.val (.ref a), .val (.int ix), .val (.ref sa)] [] := by first | (simp [entryFrame, mkF, argsToLocals, Value.category]; done) | rfl
def Q20 (Z : State) (a : Addr) (ix : Int32) (sa : Addr) (vb : Addr) (ct : Int32) (k : Nat) (gv : Nat → Int32) (b : Addr) (nn : Nat) (g : Nat → Int32) (cz z : Int32) (h0 : Heap) : Option Value → Heap → Prop := fun v h => v = none ∧ Keep h0 h [vb] ∧ Ia Z h vb .byte 16 (AP gv k nn g)
theorem d20_0 : decode jdk_68_method_73_code 0 = .ok (.aload_n 0, 1) := by decide +kernel
theorem d20_1 : decode jdk_68_method_73_code 1 = .ok (.aload_n 2, 1) := by decide +kernel
theorem d20_2 : decode jdk_68_method_73_code 2 = .ok (.invokevirtual 397, 3) := by decide +kernel
theorem pd_15 : parseMethodDescriptor "(Ljava/lang/String;)V" = some ⟨[(.object "java/lang/String")], none⟩ := by decide +kernel
theorem d20_5 : decode jdk_68_method_73_code 5 = .ok (.aload_n 2, 1) := by decide +kernel
theorem d20_6 : decode jdk_68_method_73_code 6 = .ok (.aload_n 0, 1) := by decide +kernel
theorem d20_7 : decode jdk_68_method_73_code 7 = .ok (.getfield 15, 3) := by decide +kernel
theorem d20_10 : decode jdk_68_method_73_code 10 = .ok (.iload_n 1, 1) := by decide +kernel
theorem d20_11 : decode jdk_68_method_73_code 11 = .ok (.aload_n 0, 1) := by decide +kernel
theorem d20_12 : decode jdk_68_method_73_code 12 = .ok (.getfield 22, 3) := by decide +kernel
theorem d20_15 : decode jdk_68_method_73_code 15 = .ok (.invokevirtual 399, 3) := by decide +kernel
theorem pd_16 : parseMethodDescriptor "([BIB)V" = some ⟨[(.array .byte), .int, .byte], none⟩ := by decide +kernel
theorem d20_18 : decode jdk_68_method_73_code 18 = .ok (.return_, 1) := by decide +kernel
abbrev room20 : Room := { frames := 2, cells := 0, slots := 0, locals := 33 }
set_option maxRecDepth 65536 in
set_option maxHeartbeats 40000000 in
theorem rm20 (l : Launch) (Z : State) (a0 : Array Value) (hw : ∀ d ∈ tables_1, d.before a0 Z = true) (ws : List Jvm.Cond) (a : Addr) (ix : Int32) (sa : Addr) (vb : Addr) (ct : Int32) (k : Nat) (gv : Nat → Int32) (b : Addr) (nn : Nat) (g : Nat → Int32) (cz z : Int32) (h0 : Heap) (n0 : Nat) (E_a : Exa Z h0 a "java/lang/StringBuilder") (Fv_a : Fld Z h0 a "java/lang/AbstractStringBuilder" "value" "[B" (.ref vb)) (Fc_a : Fld Z h0 a "java/lang/AbstractStringBuilder" "coder" "B" (.int 0)) (Fn_a : Fld Z h0 a "java/lang/AbstractStringBuilder" "count" "I" (.int ct)) (A_vb : Ia Z h0 vb .byte 16 gv) (hby : BY 16 gv) (hct : ct.toInt = k) (E_sa : Exa Z h0 sa "java/lang/String") (Fc_sa : Fld Z h0 sa "java/lang/String" "coder" "B" (.int 0)) (Fv_sa : Fld Z h0 sa "java/lang/String" "value" "[B" (.ref b)) (A_b : Ia Z h0 b .byte nn g) (hz : z.toInt = nn) (hgb : BY nn g) (hix : ix.toInt = k) (hcap : k + nn ≤ 16) (g_vb : n0 ≤ vb) (nva : vb ≠ a) (nsa : sa ≠ a) (nba : b ≠ a) (nbv : b ≠ vb) (nsv : sa ≠ vb) (S_c : Sta Z h0 "java/lang/String" "COMPACT_STRINGS" "Z" (.int cz)) (hcz : ¬ cz = 0) :
    OM l (⟨"java/lang/AbstractStringBuilder", "putStringAt", "(ILjava/lang/String;)V"⟩ : MethodName) jdk_68_method_73_code 3 none room20 ws Z #[(.ref a), (.int ix), (.ref sa)] h0 n0 (Q20 Z a ix sa vb ct k gv b nn g cz z h0) := by
  refine OM.of (plainFor_of_name pn_20) (fun m => ef_20 m a ix sa) ?_
  intro p e s m below meth c T X
  have K0 : Keep h0 h0 [vb] := Keep.refl _ _
  refine OG.aloadN X d20_0 rfl rfl ?_
  refine OG.aloadN X d20_1 rfl rfl ?_
  refine OG.callP X (y' := (⟨"java/lang/AbstractStringBuilder", "ensureCapacityInternal", "(I)V"⟩ : MethodName)) (hw _ (List.mem_of_getElem? (i := 117) rfl)) (hw _ (List.mem_of_getElem? (i := 118) rfl)) rfl (hw _ (List.mem_of_getElem? (i := 110) rfl)) (hw _ (List.mem_of_getElem? (i := 119) rfl)) (by decide) E_a (rm21 l Z a0 hw [] a sa vb ct k gv b nn g cz z h0 n0 E_a Fv_a Fc_a Fn_a A_vb hby hct E_sa Fc_sa Fv_sa A_b hz hgb S_c hcz) (hw _ (List.mem_of_getElem? (i := 121) rfl)) (hw _ (List.mem_of_getElem? (i := 76) rfl)) (by decide) (W := 0) (by decide) rfl (argsL := [(.ref sa)]) pd_15 rfl d20_2 rfl (Nat.le_of_eq rfl) (by decide) (by decide) ?_
  rintro _ T1 h2 X1 ⟨rfl, eh2⟩
  rw [eh2] at X1
  show OG p e below s n0 room20.cells room20.slots (Q20 Z a ix sa vb ct k gv b nn g cz z h0) (T1.setTop (mkF m 5 #[.val (.ref a), .val (.int ix), .val (.ref sa)] []))
  refine OG.aloadN X1 d20_5 rfl rfl ?_
  refine OG.aloadN X1 d20_6 rfl rfl ?_
  refine OG.getF X1 (host := "") (Or.inl (hw _ (List.mem_of_getElem? (i := 80) rfl))) Via.refl Fv_a d20_7 ?_
  intro T3 X3
  refine OG.iloadN X3 d20_10 rfl ?_
  refine OG.aloadN X3 d20_11 rfl rfl ?_
  refine OG.getF X3 (host := "") (Or.inl (hw _ (List.mem_of_getElem? (i := 82) rfl))) Via.refl Fc_a d20_12 ?_
  intro T4 X4
  refine OG.callV X4 (hw _ (List.mem_of_getElem? (i := 123) rfl)) (hw _ (List.mem_of_getElem? (i := 124) rfl)) (notFace_of_selects (args := #[]) (mvT X4.warm (hw _ (List.mem_of_getElem? (i := 126) rfl)))) (hw _ (List.mem_of_getElem? (i := 126) rfl)) (hw _ (List.mem_of_getElem? (i := 125) rfl)) (by decide) E_sa (rm22 l Z a0 hw [] sa vb ix (0 : Int32) b nn g cz z k gv h0 n0 E_sa Fc_sa Fv_sa A_b hz hgb A_vb hby hix rfl hcap g_vb S_c hcz) (hw _ (List.mem_of_getElem? (i := 127) rfl)) (hw _ (List.mem_of_getElem? (i := 6) rfl)) (by decide) (W := 0) (by decide) rfl (argsL := [(.ref vb), (.int ix), (.int (0 : Int32))]) pd_16 rfl d20_15 rfl (Nat.le_of_eq rfl) (by decide) (by decide) ?_
  rintro _ T5 h6 X5 ⟨rfl, K5, B5⟩
  have ns_K5 := (NSt.cons A_vb.ns NSt.nil)
  replace E_a := E_a.keep K5
  replace Fv_a := Fv_a.keep K5 (ninS (Ne.symm nva) nin0)
  replace Fc_a := Fc_a.keep K5 (ninS (Ne.symm nva) nin0)
  replace Fn_a := Fn_a.keep K5 (ninS (Ne.symm nva) nin0)
  replace S_c := S_c.keepN K5 ns_K5
  replace K0 := K0.trans K5 ((allS (Or.inl (by simp)) all0))
  replace A_vb := B5
  show OG p e below s n0 room20.cells room20.slots (Q20 Z a ix sa vb ct k gv b nn g cz z h0) (T5.setTop (mkF m 18 #[.val (.ref a), .val (.int ix), .val (.ref sa)] []))
  exact OG.retV X5 d20_18 (by decide) (by decide) ⟨rfl, K0, A_vb⟩
theorem pn_16 : plainName "java/lang/AbstractStringBuilder" = true := by first | (simp [plainName, overriddenIn]; done) | decide +kernel
theorem ef_16 (m : MethodId) (a : Addr) (sa : Addr) : entryFrame m #[(.ref a), (.ref sa)] 3 = mkF m 0 #[.val (.ref a), .val (.ref sa), .unset] [] := by first | (simp [entryFrame, mkF, argsToLocals, Value.category]; done) | rfl
def Q16 (Z : State) (a : Addr) (sa : Addr) (vb : Addr) (ct : Int32) (k : Nat) (gv : Nat → Int32) (b : Addr) (nn : Nat) (g : Nat → Int32) (cz z : Int32) (h0 : Heap) : Option Value → Heap → Prop := fun v h => v = some (.ref a) ∧ Keep h0 h [a, vb] ∧ Exa Z h a "java/lang/StringBuilder" ∧ Fld Z h a "java/lang/AbstractStringBuilder" "value" "[B" (.ref vb) ∧ Fld Z h a "java/lang/AbstractStringBuilder" "coder" "B" (.int 0) ∧ Fld Z h a "java/lang/AbstractStringBuilder" "count" "I" (.int (ct + z)) ∧ Ia Z h vb .byte 16 (AP gv k nn g)
theorem d16_0 : decode jdk_68_method_22_code 0 = .ok (.aload_n 1, 1) := by decide +kernel
theorem d16_1 : decode jdk_68_method_22_code 1 = .ok (.ifnonnull 8, 3) := by decide +kernel
theorem d16_9 : decode jdk_68_method_22_code 9 = .ok (.aload_n 1, 1) := by decide +kernel
theorem d16_10 : decode jdk_68_method_22_code 10 = .ok (.invokevirtual 32, 3) := by decide +kernel
theorem pd_17 : parseMethodDescriptor "()I" = some ⟨[], some .int⟩ := by decide +kernel
theorem d16_13 : decode jdk_68_method_22_code 13 = .ok (.istore_n 2, 1) := by decide +kernel
theorem d16_14 : decode jdk_68_method_22_code 14 = .ok (.aload_n 0, 1) := by decide +kernel
theorem d16_15 : decode jdk_68_method_22_code 15 = .ok (.aload_n 0, 1) := by decide +kernel
theorem d16_16 : decode jdk_68_method_22_code 16 = .ok (.getfield 79, 3) := by decide +kernel
theorem d16_19 : decode jdk_68_method_22_code 19 = .ok (.iload_n 2, 1) := by decide +kernel
theorem d16_20 : decode jdk_68_method_22_code 20 = .ok (.iadd, 1) := by decide +kernel
theorem d16_21 : decode jdk_68_method_22_code 21 = .ok (.invokevirtual 100, 3) := by decide +kernel
theorem pd_18 : parseMethodDescriptor "(I)V" = some ⟨[.int], none⟩ := by decide +kernel
theorem d16_24 : decode jdk_68_method_22_code 24 = .ok (.aload_n 0, 1) := by decide +kernel
theorem d16_25 : decode jdk_68_method_22_code 25 = .ok (.aload_n 0, 1) := by decide +kernel
theorem d16_26 : decode jdk_68_method_22_code 26 = .ok (.getfield 79, 3) := by decide +kernel
theorem d16_29 : decode jdk_68_method_22_code 29 = .ok (.aload_n 1, 1) := by decide +kernel
theorem d16_30 : decode jdk_68_method_22_code 30 = .ok (.invokevirtual 208, 3) := by decide +kernel
theorem pd_19 : parseMethodDescriptor "(ILjava/lang/String;)V" = some ⟨[.int, (.object "java/lang/String")], none⟩ := by decide +kernel
theorem d16_33 : decode jdk_68_method_22_code 33 = .ok (.aload_n 0, 1) := by decide +kernel
theorem d16_34 : decode jdk_68_method_22_code 34 = .ok (.dup, 1) := by decide +kernel
theorem d16_35 : decode jdk_68_method_22_code 35 = .ok (.getfield 79, 3) := by decide +kernel
theorem d16_38 : decode jdk_68_method_22_code 38 = .ok (.iload_n 2, 1) := by decide +kernel
theorem d16_39 : decode jdk_68_method_22_code 39 = .ok (.iadd, 1) := by decide +kernel
theorem d16_40 : decode jdk_68_method_22_code 40 = .ok (.putfield 79, 3) := by decide +kernel
theorem d16_43 : decode jdk_68_method_22_code 43 = .ok (.aload_n 0, 1) := by decide +kernel
theorem d16_44 : decode jdk_68_method_22_code 44 = .ok (.areturn, 1) := by decide +kernel
abbrev room16 : Room := { frames := 3, cells := 0, slots := 0, locals := 47 }
set_option maxRecDepth 65536 in
set_option maxHeartbeats 40000000 in
theorem rm16 (l : Launch) (Z : State) (a0 : Array Value) (hw : ∀ d ∈ tables_1, d.before a0 Z = true) (ws : List Jvm.Cond) (a : Addr) (sa : Addr) (vb : Addr) (ct : Int32) (k : Nat) (gv : Nat → Int32) (b : Addr) (nn : Nat) (g : Nat → Int32) (cz z : Int32) (h0 : Heap) (n0 : Nat) (E_a : Exa Z h0 a "java/lang/StringBuilder") (Fv_a : Fld Z h0 a "java/lang/AbstractStringBuilder" "value" "[B" (.ref vb)) (Fc_a : Fld Z h0 a "java/lang/AbstractStringBuilder" "coder" "B" (.int 0)) (Fn_a : Fld Z h0 a "java/lang/AbstractStringBuilder" "count" "I" (.int ct)) (A_vb : Ia Z h0 vb .byte 16 gv) (hby : BY 16 gv) (hct : ct.toInt = k) (E_sa : Exa Z h0 sa "java/lang/String") (Fc_sa : Fld Z h0 sa "java/lang/String" "coder" "B" (.int 0)) (Fv_sa : Fld Z h0 sa "java/lang/String" "value" "[B" (.ref b)) (A_b : Ia Z h0 b .byte nn g) (hz : z.toInt = nn) (hgb : BY nn g) (hcap : k + nn ≤ 16) (g_vb : n0 ≤ vb) (g_a : n0 ≤ a) (nva : vb ≠ a) (nsa : sa ≠ a) (nba : b ≠ a) (nbv : b ≠ vb) (nsv : sa ≠ vb) (S_c : Sta Z h0 "java/lang/String" "COMPACT_STRINGS" "Z" (.int cz)) (hcz : ¬ cz = 0) :
    OM l (⟨"java/lang/AbstractStringBuilder", "append", "(Ljava/lang/String;)Ljava/lang/AbstractStringBuilder;"⟩ : MethodName) jdk_68_method_22_code 3 (some (.object "java/lang/AbstractStringBuilder")) room16 ws Z #[(.ref a), (.ref sa)] h0 n0 (Q16 Z a sa vb ct k gv b nn g cz z h0) := by
  refine OM.of (plainFor_of_name pn_16) (fun m => ef_16 m a sa) ?_
  intro p e s m below meth c T X
  have K0 : Keep h0 h0 [a, vb] := Keep.refl _ _
  refine OG.aloadN X d16_0 rfl rfl ?_
  refine OG.ifnonnullYes X d16_1 (pc' := 9) (by decide) ?_
  refine OG.aloadN X d16_9 rfl rfl ?_
  refine OG.callV X (hw _ (List.mem_of_getElem? (i := 95) rfl)) (hw _ (List.mem_of_getElem? (i := 96) rfl)) (notFace_of_selects (args := #[]) (mvT X.warm (hw _ (List.mem_of_getElem? (i := 98) rfl)))) (hw _ (List.mem_of_getElem? (i := 98) rfl)) (hw _ (List.mem_of_getElem? (i := 97) rfl)) (by decide) E_sa (rm17 l Z a0 hw [] sa b _ g cz z h0 n0 S_c hcz E_sa Fc_sa Fv_sa A_b hz ) (hw _ (List.mem_of_getElem? (i := 99) rfl)) (hw _ (List.mem_of_getElem? (i := 6) rfl)) (by decide) (W := 0) (by decide) rfl (argsL := []) pd_17 rfl d16_10 rfl (Nat.le_of_eq rfl) (by decide) (by decide) ?_
  rintro _ T1 h2 X1 ⟨rfl, eh2⟩
  rw [eh2] at X1
  show OG p e below s n0 room16.cells room16.slots (Q16 Z a sa vb ct k gv b nn g cz z h0) (T1.setTop (mkF m 13 #[.val (.ref a), .val (.ref sa), .unset] [(.int z)]))
  refine OG.istoreN X1 d16_13 (l' := #[.val (.ref a), .val (.ref sa), .val (.int z)]) rfl ?_
  refine OG.aloadN X1 d16_14 rfl rfl ?_
  refine OG.aloadN X1 d16_15 rfl rfl ?_
  refine OG.getF X1 (host := "") (Or.inl (hw _ (List.mem_of_getElem? (i := 105) rfl))) Via.refl Fn_a d16_16 ?_
  intro T3 X3
  refine OG.iloadN X3 d16_19 rfl ?_
  refine OG.iadd X3 d16_20 ?_
  refine OG.callP X3 (y' := (⟨"java/lang/AbstractStringBuilder", "ensureCapacityInternal", "(I)V"⟩ : MethodName)) (hw _ (List.mem_of_getElem? (i := 107) rfl)) (hw _ (List.mem_of_getElem? (i := 108) rfl)) rfl (hw _ (List.mem_of_getElem? (i := 110) rfl)) (hw _ (List.mem_of_getElem? (i := 109) rfl)) (by decide) E_a (rm19 l Z a0 hw [] a (ct + z) vb ct k gv h0 n0 E_a Fv_a Fc_a Fn_a A_vb hby hct (by have := own_cs hct hz hcap; omega)) (hw _ (List.mem_of_getElem? (i := 111) rfl)) (hw _ (List.mem_of_getElem? (i := 76) rfl)) (by decide) (W := 0) (by decide) rfl (argsL := [(.int (ct + z))]) pd_18 rfl d16_21 rfl (Nat.le_of_eq rfl) (by decide) (by decide) ?_
  rintro _ T4 h5 X4 ⟨rfl, eh5⟩
  rw [eh5] at X4
  show OG p e below s n0 room16.cells room16.slots (Q16 Z a sa vb ct k gv b nn g cz z h0) (T4.setTop (mkF m 24 #[.val (.ref a), .val (.ref sa), .val (.int z)] []))
  refine OG.aloadN X4 d16_24 rfl rfl ?_
  refine OG.aloadN X4 d16_25 rfl rfl ?_
  refine OG.getF X4 (host := "") (Or.inl (hw _ (List.mem_of_getElem? (i := 105) rfl))) Via.refl Fn_a d16_26 ?_
  intro T6 X6
  refine OG.aloadN X6 d16_29 rfl rfl ?_
  refine OG.callP X6 (y' := (⟨"java/lang/AbstractStringBuilder", "ensureCapacityInternal", "(I)V"⟩ : MethodName)) (hw _ (List.mem_of_getElem? (i := 112) rfl)) (hw _ (List.mem_of_getElem? (i := 113) rfl)) rfl (hw _ (List.mem_of_getElem? (i := 110) rfl)) (hw _ (List.mem_of_getElem? (i := 114) rfl)) (by decide) E_a (rm20 l Z a0 hw [] a ct sa vb ct k gv b nn g cz z h0 n0 E_a Fv_a Fc_a Fn_a A_vb hby hct E_sa Fc_sa Fv_sa A_b hz hgb hct hcap g_vb nva nsa nba nbv nsv S_c hcz) (hw _ (List.mem_of_getElem? (i := 116) rfl)) (hw _ (List.mem_of_getElem? (i := 76) rfl)) (by decide) (W := 0) (by decide) rfl (argsL := [(.int ct), (.ref sa)]) pd_19 rfl d16_30 rfl (Nat.le_of_eq rfl) (by decide) (by decide) ?_
  rintro _ T7 h8 X7 ⟨rfl, K7, B7⟩
  have ns_K7 := (NSt.cons A_vb.ns NSt.nil)
  replace E_a := E_a.keep K7
  replace Fv_a := Fv_a.keep K7 (ninS (Ne.symm nva) nin0)
  replace Fc_a := Fc_a.keep K7 (ninS (Ne.symm nva) nin0)
  replace Fn_a := Fn_a.keep K7 (ninS (Ne.symm nva) nin0)
  replace S_c := S_c.keepN K7 ns_K7
  replace K0 := K0.trans K7 ((allS (Or.inl (by simp)) all0))
  replace A_vb := B7
  show OG p e below s n0 room16.cells room16.slots (Q16 Z a sa vb ct k gv b nn g cz z h0) (T7.setTop (mkF m 33 #[.val (.ref a), .val (.ref sa), .val (.int z)] []))
  refine OG.aloadN X7 d16_33 rfl rfl ?_
  refine OG.dup X7 d16_34 rfl ?_
  refine OG.getF X7 (host := "") (Or.inl (hw _ (List.mem_of_getElem? (i := 105) rfl))) Via.refl Fn_a d16_35 ?_
  intro T9 X9
  refine OG.iloadN X9 d16_38 rfl ?_
  refine OG.iadd X9 d16_39 ?_
  refine OG.putF X9 (host := "") (Or.inl (hw _ (List.mem_of_getElem? (i := 105) rfl))) Via.refl Fn_a E_a (Or.inl (hw _ (List.mem_of_getElem? (i := 106) rfl))) (hw _ (List.mem_of_getElem? (i := 67) rfl)) (ty := .int) (by decide) rfl rfl d16_40 g_a ?_
  intro T10 h11 X10 W12
  replace E_a := E_a.wr W12
  replace Fv_a := Fv_a.other W12 (Or.inr (slot_ne (Or.inl (hw _ (List.mem_of_getElem? (i := 81) rfl))) (Or.inl (hw _ (List.mem_of_getElem? (i := 106) rfl))) (by decide) (t := (.array .byte)) (t' := .int) (by decide) (by decide)))
  replace Fc_a := Fc_a.other W12 (Or.inr (slot_ne (Or.inl (hw _ (List.mem_of_getElem? (i := 83) rfl))) (Or.inl (hw _ (List.mem_of_getElem? (i := 106) rfl))) (by decide) (t := .byte) (t' := .int) (by decide) (by decide)))
  replace Fn_a := Fn_a.same W12
  replace S_c := S_c.wr W12
  replace K0 := K0.wr W12 (Or.inl (by simp))
  replace A_vb := A_vb.other W12 nva
  refine OG.aloadN X10 d16_43 rfl rfl ?_
  exact OG.retA X10 d16_44 rfl rfl (by decide) (by decide) ⟨rfl, K0, E_a, Fv_a, Fc_a, Fn_a, A_vb⟩
theorem pn_15 : plainName "java/lang/StringBuilder" = true := by first | (simp [plainName, overriddenIn]; done) | decide +kernel
theorem ef_15 (m : MethodId) (a : Addr) (sa : Addr) : entryFrame m #[(.ref a), (.ref sa)] 2 = mkF m 0 #[.val (.ref a), .val (.ref sa)] [] := by first | (simp [entryFrame, mkF, argsToLocals, Value.category]; done) | rfl
def Q15 (Z : State) (a : Addr) (sa : Addr) (vb : Addr) (ct : Int32) (k : Nat) (gv : Nat → Int32) (b : Addr) (nn : Nat) (g : Nat → Int32) (cz z : Int32) (h0 : Heap) : Option Value → Heap → Prop := fun v h => v = some (.ref a) ∧ Keep h0 h [a, vb] ∧ Exa Z h a "java/lang/StringBuilder" ∧ Fld Z h a "java/lang/AbstractStringBuilder" "value" "[B" (.ref vb) ∧ Fld Z h a "java/lang/AbstractStringBuilder" "coder" "B" (.int 0) ∧ Fld Z h a "java/lang/AbstractStringBuilder" "count" "I" (.int (ct + z)) ∧ Ia Z h vb .byte 16 (AP gv k nn g)
theorem d15_0 : decode jdk_67_method_7_code 0 = .ok (.aload_n 0, 1) := by decide +kernel
theorem d15_1 : decode jdk_67_method_7_code 1 = .ok (.aload_n 1, 1) := by decide +kernel
theorem d15_2 : decode jdk_67_method_7_code 2 = .ok (.invokespecial 29, 3) := by decide +kernel
theorem pd_20 : parseMethodDescriptor "(Ljava/lang/String;)Ljava/lang/AbstractStringBuilder;" = some ⟨[(.object "java/lang/String")], some (.object "java/lang/AbstractStringBuilder")⟩ := by decide +kernel
theorem d15_5 : decode jdk_67_method_7_code 5 = .ok (.pop, 1) := by decide +kernel
theorem d15_6 : decode jdk_67_method_7_code 6 = .ok (.aload_n 0, 1) := by decide +kernel
theorem d15_7 : decode jdk_67_method_7_code 7 = .ok (.areturn, 1) := by decide +kernel
abbrev room15 : Room := { frames := 4, cells := 0, slots := 0, locals := 61 }
set_option maxRecDepth 65536 in
set_option maxHeartbeats 40000000 in
theorem rm15 (l : Launch) (Z : State) (a0 : Array Value) (hw : ∀ d ∈ tables_1, d.before a0 Z = true) (ws : List Jvm.Cond) (a : Addr) (sa : Addr) (vb : Addr) (ct : Int32) (k : Nat) (gv : Nat → Int32) (b : Addr) (nn : Nat) (g : Nat → Int32) (cz z : Int32) (h0 : Heap) (n0 : Nat) (E_a : Exa Z h0 a "java/lang/StringBuilder") (Fv_a : Fld Z h0 a "java/lang/AbstractStringBuilder" "value" "[B" (.ref vb)) (Fc_a : Fld Z h0 a "java/lang/AbstractStringBuilder" "coder" "B" (.int 0)) (Fn_a : Fld Z h0 a "java/lang/AbstractStringBuilder" "count" "I" (.int ct)) (A_vb : Ia Z h0 vb .byte 16 gv) (hby : BY 16 gv) (hct : ct.toInt = k) (E_sa : Exa Z h0 sa "java/lang/String") (Fc_sa : Fld Z h0 sa "java/lang/String" "coder" "B" (.int 0)) (Fv_sa : Fld Z h0 sa "java/lang/String" "value" "[B" (.ref b)) (A_b : Ia Z h0 b .byte nn g) (hz : z.toInt = nn) (hgb : BY nn g) (hcap : k + nn ≤ 16) (g_vb : n0 ≤ vb) (g_a : n0 ≤ a) (nva : vb ≠ a) (nsa : sa ≠ a) (nba : b ≠ a) (nbv : b ≠ vb) (nsv : sa ≠ vb) (S_c : Sta Z h0 "java/lang/String" "COMPACT_STRINGS" "Z" (.int cz)) (hcz : ¬ cz = 0) :
    OM l (⟨"java/lang/StringBuilder", "append", "(Ljava/lang/String;)Ljava/lang/StringBuilder;"⟩ : MethodName) jdk_67_method_7_code 2 (some (.object "java/lang/StringBuilder")) room15 ws Z #[(.ref a), (.ref sa)] h0 n0 (Q15 Z a sa vb ct k gv b nn g cz z h0) := by
  refine OM.of (plainFor_of_name pn_15) (fun m => ef_15 m a sa) ?_
  intro p e s m below meth c T X
  refine OG.aloadN X d15_0 rfl rfl ?_
  refine OG.aloadN X d15_1 rfl rfl ?_
  refine OG.callX X (hw _ (List.mem_of_getElem? (i := 90) rfl)) (sameSelf (y' := (⟨"java/lang/AbstractStringBuilder", "getValue", "()[B"⟩ : MethodName)) (by decide) rfl (hw _ (List.mem_of_getElem? (i := 93) rfl)) (hw _ (List.mem_of_getElem? (i := 146) rfl)) (notFace_of_selects (args := a0) (hw _ (List.mem_of_getElem? (i := 148) rfl)))) (hw _ (List.mem_of_getElem? (i := 91) rfl)) (hw _ (List.mem_of_getElem? (i := 92) rfl)) (by decide) E_a (rm16 l Z a0 hw [] a sa vb ct k gv b nn g cz z h0 n0 E_a Fv_a Fc_a Fn_a A_vb hby hct E_sa Fc_sa Fv_sa A_b hz hgb hcap g_vb g_a nva nsa nba nbv nsv S_c hcz) (hw _ (List.mem_of_getElem? (i := 94) rfl)) (hw _ (List.mem_of_getElem? (i := 76) rfl)) (by decide) (W := 0) (by decide) rfl (argsL := [(.ref sa)]) pd_20 rfl d15_2 rfl (Nat.le_of_eq rfl) (by decide) (by decide) ?_
  rintro _ T1 h2 X1 ⟨rfl, K1, E1, Fv1, Fc1, Fn1, A1⟩
  show OG p e below s n0 room15.cells room15.slots (Q15 Z a sa vb ct k gv b nn g cz z h0) (T1.setTop (mkF m 5 #[.val (.ref a), .val (.ref sa)] [(.ref a)]))
  refine OG.pop X1 d15_5 rfl ?_
  refine OG.aloadN X1 d15_6 rfl rfl ?_
  exact OG.retA X1 d15_7 rfl rfl (by decide) (by decide) ⟨rfl, K1, E1, Fv1, Fc1, Fn1, A1⟩
theorem pn_14 : plainName "java/lang/AbstractStringBuilder" = true := by first | (simp [plainName, overriddenIn]; done) | decide +kernel
theorem ef_14 (m : MethodId) (a : Addr) (q : Int32) : entryFrame m #[(.ref a), (.int q)] 2 = mkF m 0 #[.val (.ref a), .val (.int q)] [] := by first | (simp [entryFrame, mkF, argsToLocals, Value.category]; done) | rfl
def Q14 (Z : State) (a : Addr) (q : Int32) (cz : Int32) (h0 : Heap) : Option Value → Heap → Prop := fun v h => ∃ vb : Addr, v = none ∧ Keep h0 h [a] ∧ h0.size ≤ vb ∧ Exa Z h a "java/lang/StringBuilder" ∧ Fld Z h a "java/lang/AbstractStringBuilder" "value" "[B" (.ref vb) ∧ Fld Z h a "java/lang/AbstractStringBuilder" "coder" "B" (.int 0) ∧ Fld Z h a "java/lang/AbstractStringBuilder" "count" "I" (.int 0) ∧ Ia Z h vb .byte 16 (fun _ => 0)
theorem d14_0 : decode jdk_68_method_2_code 0 = .ok (.aload_n 0, 1) := by decide +kernel
theorem d14_1 : decode jdk_68_method_2_code 1 = .ok (.invokespecial 3, 3) := by decide +kernel
theorem d14_4 : decode jdk_68_method_2_code 4 = .ok (.getstatic 18, 3) := by decide +kernel
theorem d14_7 : decode jdk_68_method_2_code 7 = .ok (.ifCond .eq 18, 3) := by decide +kernel
theorem d14_10 : decode jdk_68_method_2_code 10 = .ok (.aload_n 0, 1) := by decide +kernel
theorem d14_11 : decode jdk_68_method_2_code 11 = .ok (.iload_n 1, 1) := by decide +kernel
theorem d14_12 : decode jdk_68_method_2_code 12 = .ok (.newarray .byte, 2) := by decide +kernel
theorem d14_14 : decode jdk_68_method_2_code 14 = .ok (.putfield 15, 3) := by decide +kernel
theorem d14_17 : decode jdk_68_method_2_code 17 = .ok (.aload_n 0, 1) := by decide +kernel
theorem d14_18 : decode jdk_68_method_2_code 18 = .ok (.iconst 0, 1) := by decide +kernel
theorem d14_19 : decode jdk_68_method_2_code 19 = .ok (.putfield 22, 3) := by decide +kernel
theorem d14_22 : decode jdk_68_method_2_code 22 = .ok (.goto 16, 3) := by decide +kernel
theorem d14_38 : decode jdk_68_method_2_code 38 = .ok (.return_, 1) := by decide +kernel
abbrev room14 : Room := { frames := 1, cells := 1, slots := 16, locals := 12 }
set_option maxRecDepth 65536 in
set_option maxHeartbeats 40000000 in
theorem rm14 (l : Launch) (Z : State) (a0 : Array Value) (hw : ∀ d ∈ tables_1, d.before a0 Z = true) (ws : List Jvm.Cond) (a : Addr) (q : Int32) (cz : Int32) (h0 : Heap) (n0 : Nat) (E_a : Exa Z h0 a "java/lang/StringBuilder") (Fv_a : Fld Z h0 a "java/lang/AbstractStringBuilder" "value" "[B" .null) (Fc_a : Fld Z h0 a "java/lang/AbstractStringBuilder" "coder" "B" (.int 0)) (Fn_a : Fld Z h0 a "java/lang/AbstractStringBuilder" "count" "I" (.int 0)) (g_a : n0 ≤ a) (Z0 : n0 ≤ h0.size) (S_c : Sta Z h0 "java/lang/String" "COMPACT_STRINGS" "Z" (.int cz)) (hcz : ¬ cz = 0) (hq : q = 16) :
    OM l (⟨"java/lang/AbstractStringBuilder", "<init>", "(I)V"⟩ : MethodName) jdk_68_method_2_code 2 none room14 ws Z #[(.ref a), (.int q)] h0 n0 (Q14 Z a q cz h0) := by
  refine OM.of (plainFor_of_name pn_14) (fun m => ef_14 m a q) ?_
  intro p e s m below meth c T X
  have K0 : Keep h0 h0 [a] := Keep.refl _ _
  refine OG.aloadN X d14_0 rfl rfl ?_
  refine OG.initO X (hw _ (List.mem_of_getElem? (i := 78) rfl)) (hw _ (List.mem_of_getElem? (i := 24) rfl)) (hw _ (List.mem_of_getElem? (i := 25) rfl)) d14_1 rfl (by decide) (W := 0) (Nat.le_of_eq rfl) (by decide) ?_
  intro T1 X1
  refine OG.getS X1 (host := "") (Or.inl (hw _ (List.mem_of_getElem? (i := 79) rfl))) Via.refl S_c d14_4 ?_
  intro T2 X2
  refine OG.if_eq_f X2 d14_7 hcz ?_
  refine OG.aloadN X2 d14_10 rfl rfl ?_
  refine OG.iloadN X2 d14_11 rfl ?_
  refine OG.newP X2 (hw _ (List.mem_of_getElem? (i := 18) rfl)) d14_12 (by rw [hq]; decide) (cap := 16) (by rw [hq]; decide) (by decide) (by decide) (by decide) ?_
  rintro T3 h4 b6 gb6 X3 E5 ⟨cAb6, Nb6⟩
  have ne_a_b6 : a ≠ b6 := Nat.ne_of_lt (Nat.lt_of_lt_of_le E_a.lt (Nat.le_of_eq gb6.symm))
  have g_b6 : n0 ≤ b6 := Nat.le_trans Z0 (Nat.le_of_eq gb6.symm)
  have sz_b6 : h0.size ≤ b6 := Nat.le_trans K0.1 (Nat.le_of_eq gb6.symm)
  replace E_a := E_a.ext E5
  replace Fv_a := Fv_a.ext E5
  replace Fc_a := Fc_a.ext E5
  replace Fn_a := Fn_a.ext E5
  replace S_c := S_c.ext E5
  replace Z0 := Nat.le_trans Z0 E5.1
  replace K0 := K0.ext E5
  have A_b6 : Ia Z h4 b6 .byte (q).toInt.toNat (fun _ => 0) := Ia.new Nb6 (by rw [hq]; decide) rfl rfl
  rw [show (q).toInt.toNat = 16 by rw [hq]; rfl] at A_b6
  refine OG.putF X3 (host := "") (Or.inl (hw _ (List.mem_of_getElem? (i := 80) rfl))) Via.refl Fv_a E_a (Or.inl (hw _ (List.mem_of_getElem? (i := 81) rfl))) (hw _ (List.mem_of_getElem? (i := 67) rfl)) (ty := (.array .byte)) (by decide) rfl rfl d14_14 g_a ?_
  intro T7 h8 X7 W9
  replace E_a := E_a.wr W9
  replace Fv_a := Fv_a.same W9
  replace Fc_a := Fc_a.other W9 (Or.inr (slot_ne (Or.inl (hw _ (List.mem_of_getElem? (i := 83) rfl))) (Or.inl (hw _ (List.mem_of_getElem? (i := 81) rfl))) (by decide) (t := .byte) (t' := (.array .byte)) (by decide) (by decide)))
  replace Fn_a := Fn_a.other W9 (Or.inr (slot_ne (Or.inl (hw _ (List.mem_of_getElem? (i := 106) rfl))) (Or.inl (hw _ (List.mem_of_getElem? (i := 81) rfl))) (by decide) (t := .int) (t' := (.array .byte)) (by decide) (by decide)))
  replace S_c := S_c.wr W9
  replace Z0 := Nat.le_trans Z0 (Keep.of_wr W9).1
  replace K0 := K0.wr W9 (Or.inl (by simp))
  replace A_b6 := A_b6.other W9 (Ne.symm ne_a_b6)
  refine OG.aloadN X7 d14_17 rfl rfl ?_
  refine OG.iconst X7 d14_18 (z := (0 : Int32)) rfl ?_
  refine OG.putFN X7 (hw _ (List.mem_of_getElem? (i := 82) rfl)) Via.refl Fc_a E_a (Or.inl (hw _ (List.mem_of_getElem? (i := 83) rfl))) (hw _ (List.mem_of_getElem? (i := 67) rfl)) (ty := .byte) (v' := .int (0 : Int32).toInt8.toInt32) (by decide) rfl (fits_nar_byte _) d14_19 g_a ?_
  intro T10 h11 X10 W12
  replace E_a := E_a.wr W12
  replace Fv_a := Fv_a.other W12 (Or.inr (slot_ne (Or.inl (hw _ (List.mem_of_getElem? (i := 81) rfl))) (Or.inl (hw _ (List.mem_of_getElem? (i := 83) rfl))) (by decide) (t := (.array .byte)) (t' := .byte) (by decide) (by decide)))
  replace Fc_a := Fc_a.same W12
  replace Fn_a := Fn_a.other W12 (Or.inr (slot_ne (Or.inl (hw _ (List.mem_of_getElem? (i := 106) rfl))) (Or.inl (hw _ (List.mem_of_getElem? (i := 83) rfl))) (by decide) (t := .int) (t' := .byte) (by decide) (by decide)))
  replace S_c := S_c.wr W12
  replace Z0 := Nat.le_trans Z0 (Keep.of_wr W12).1
  replace K0 := K0.wr W12 (Or.inl (by simp))
  replace A_b6 := A_b6.other W12 (Ne.symm ne_a_b6)
  refine OG.goto X10 d14_22 (pc' := 38) (by decide) ?_
  exact OG.retV X10 d14_38 (by decide) (by decide) ⟨b6, rfl, K0, sz_b6, E_a, Fv_a, (by rw [own_b0] at Fc_a; exact Fc_a), Fn_a, A_b6⟩
theorem pn_13 : plainName "java/lang/StringBuilder" = true := by first | (simp [plainName, overriddenIn]; done) | decide +kernel
theorem ef_13 (m : MethodId) (a : Addr) : entryFrame m #[(.ref a)] 1 = mkF m 0 #[.val (.ref a)] [] := by first | (simp [entryFrame, mkF, argsToLocals, Value.category]; done) | rfl
def Q13 (Z : State) (a : Addr) (cz : Int32) (h0 : Heap) : Option Value → Heap → Prop := fun v h => ∃ vb : Addr, v = none ∧ Keep h0 h [a] ∧ h0.size ≤ vb ∧ Exa Z h a "java/lang/StringBuilder" ∧ Fld Z h a "java/lang/AbstractStringBuilder" "value" "[B" (.ref vb) ∧ Fld Z h a "java/lang/AbstractStringBuilder" "coder" "B" (.int 0) ∧ Fld Z h a "java/lang/AbstractStringBuilder" "count" "I" (.int 0) ∧ Ia Z h vb .byte 16 (fun _ => 0)
theorem d13_0 : decode jdk_67_method_1_code 0 = .ok (.aload_n 0, 1) := by decide +kernel
theorem d13_1 : decode jdk_67_method_1_code 1 = .ok (.bipush 16, 2) := by decide +kernel
theorem d13_3 : decode jdk_67_method_1_code 3 = .ok (.invokespecial 1, 3) := by decide +kernel
theorem d13_6 : decode jdk_67_method_1_code 6 = .ok (.return_, 1) := by decide +kernel
abbrev room13 : Room := { frames := 2, cells := 1, slots := 16, locals := 25 }
set_option maxRecDepth 65536 in
set_option maxHeartbeats 40000000 in
theorem rm13 (l : Launch) (Z : State) (a0 : Array Value) (hw : ∀ d ∈ tables_1, d.before a0 Z = true) (ws : List Jvm.Cond) (a : Addr) (cz : Int32) (h0 : Heap) (n0 : Nat) (E_a : Exa Z h0 a "java/lang/StringBuilder") (Fv_a : Fld Z h0 a "java/lang/AbstractStringBuilder" "value" "[B" .null) (Fc_a : Fld Z h0 a "java/lang/AbstractStringBuilder" "coder" "B" (.int 0)) (Fn_a : Fld Z h0 a "java/lang/AbstractStringBuilder" "count" "I" (.int 0)) (g_a : n0 ≤ a) (Z0 : n0 ≤ h0.size) (S_c : Sta Z h0 "java/lang/String" "COMPACT_STRINGS" "Z" (.int cz)) (hcz : ¬ cz = 0) :
    OM l (⟨"java/lang/StringBuilder", "<init>", "()V"⟩ : MethodName) jdk_67_method_1_code 1 none room13 ws Z #[(.ref a)] h0 n0 (Q13 Z a cz h0) := by
  refine OM.of (plainFor_of_name pn_13) (fun m => ef_13 m a) ?_
  intro p e s m below meth c T X
  refine OG.aloadN X d13_0 rfl rfl ?_
  refine OG.bipush X d13_1 (z := (16 : Int32)) rfl ?_
  refine OG.callC X rfl (hw _ (List.mem_of_getElem? (i := 72) rfl)) (hw _ (List.mem_of_getElem? (i := 73) rfl)) (by decide) (rm14 l Z a0 hw [] a (16 : Int32) cz h0 n0 E_a Fv_a Fc_a Fn_a g_a Z0 S_c hcz rfl) (hw _ (List.mem_of_getElem? (i := 77) rfl)) (hw _ (List.mem_of_getElem? (i := 76) rfl)) (by decide) (W := 0) (by decide) rfl (argsL := [(.int (16 : Int32))]) pd_18 rfl d13_3 rfl (Nat.le_of_eq rfl) (by decide) (by decide) ?_
  rintro _ T1 h2 X1 ⟨vb, rfl, K1, hvb, E1, Fv1, Fc1, Fn1, A1⟩
  show OG p e below s n0 room13.cells room13.slots (Q13 Z a cz h0) (T1.setTop (mkF m 6 #[.val (.ref a)] []))
  exact OG.retV X1 d13_6 (by decide) (by decide) ⟨vb, rfl, K1, hvb, E1, Fv1, Fc1, Fn1, A1⟩
theorem pn_26 : plainName "java/lang/AbstractStringBuilder" = true := by first | (simp [plainName, overriddenIn]; done) | decide +kernel
theorem ef_26 (m : MethodId) (a : Addr) : entryFrame m #[(.ref a)] 1 = mkF m 0 #[.val (.ref a)] [] := by first | (simp [entryFrame, mkF, argsToLocals, Value.category]; done) | rfl
def Q26 (Z : State) (a : Addr) (vb : Addr) (ct : Int32) (k : Nat) (gv : Nat → Int32) (cz : Int32) (h0 : Heap) : Option Value → Heap → Prop := fun v h => v = some (.ref vb) ∧ h = h0
theorem d26_0 : decode jdk_68_method_64_code 0 = .ok (.aload_n 0, 1) := by decide +kernel
theorem d26_1 : decode jdk_68_method_64_code 1 = .ok (.getfield 15, 3) := by decide +kernel
theorem d26_4 : decode jdk_68_method_64_code 4 = .ok (.areturn, 1) := by decide +kernel
abbrev room26 : Room := { frames := 0, cells := 0, slots := 0, locals := 0 }
set_option maxRecDepth 65536 in
set_option maxHeartbeats 40000000 in
theorem rm26 (l : Launch) (Z : State) (a0 : Array Value) (hw : ∀ d ∈ tables_1, d.before a0 Z = true) (ws : List Jvm.Cond) (a : Addr) (vb : Addr) (ct : Int32) (k : Nat) (gv : Nat → Int32) (cz : Int32) (h0 : Heap) (n0 : Nat) (E_a : Exa Z h0 a "java/lang/StringBuilder") (Fv_a : Fld Z h0 a "java/lang/AbstractStringBuilder" "value" "[B" (.ref vb)) (Fc_a : Fld Z h0 a "java/lang/AbstractStringBuilder" "coder" "B" (.int 0)) (Fn_a : Fld Z h0 a "java/lang/AbstractStringBuilder" "count" "I" (.int ct)) (A_vb : Ia Z h0 vb .byte 16 gv) (hby : BY 16 gv) (hct : ct.toInt = k) (S_c : Sta Z h0 "java/lang/String" "COMPACT_STRINGS" "Z" (.int cz)) (hcz : ¬ cz = 0) :
    OM l (⟨"java/lang/AbstractStringBuilder", "getValue", "()[B"⟩ : MethodName) jdk_68_method_64_code 1 (some (.array .byte)) room26 ws Z #[(.ref a)] h0 n0 (Q26 Z a vb ct k gv cz h0) := by
  refine OM.of (plainFor_of_name pn_26) (fun m => ef_26 m a) ?_
  intro p e s m below meth c T X
  refine OG.aloadN X d26_0 rfl rfl ?_
  refine OG.getF X (host := "") (Or.inl (hw _ (List.mem_of_getElem? (i := 80) rfl))) Via.refl Fv_a d26_1 ?_
  intro T1 X1
  exact OG.retA X1 d26_4 rfl rfl (by decide) (by decide) ⟨rfl, rfl⟩
theorem pn_28 : plainName "java/lang/AbstractStringBuilder" = true := by first | (simp [plainName, overriddenIn]; done) | decide +kernel
theorem ef_28 (m : MethodId) (a : Addr) : entryFrame m #[(.ref a)] 1 = mkF m 0 #[.val (.ref a)] [] := by first | (simp [entryFrame, mkF, argsToLocals, Value.category]; done) | rfl
def Q28 (Z : State) (a : Addr) (vb : Addr) (ct : Int32) (k : Nat) (gv : Nat → Int32) (cz : Int32) (h0 : Heap) : Option Value → Heap → Prop := fun v h => v = some (.int ct) ∧ h = h0
theorem d28_0 : decode jdk_68_method_6_code 0 = .ok (.aload_n 0, 1) := by decide +kernel
theorem d28_1 : decode jdk_68_method_6_code 1 = .ok (.getfield 79, 3) := by decide +kernel
theorem d28_4 : decode jdk_68_method_6_code 4 = .ok (.ireturn, 1) := by decide +kernel
abbrev room28 : Room := { frames := 0, cells := 0, slots := 0, locals := 0 }
set_option maxRecDepth 65536 in
set_option maxHeartbeats 40000000 in
theorem rm28 (l : Launch) (Z : State) (a0 : Array Value) (hw : ∀ d ∈ tables_1, d.before a0 Z = true) (ws : List Jvm.Cond) (a : Addr) (vb : Addr) (ct : Int32) (k : Nat) (gv : Nat → Int32) (cz : Int32) (h0 : Heap) (n0 : Nat) (E_a : Exa Z h0 a "java/lang/StringBuilder") (Fv_a : Fld Z h0 a "java/lang/AbstractStringBuilder" "value" "[B" (.ref vb)) (Fc_a : Fld Z h0 a "java/lang/AbstractStringBuilder" "coder" "B" (.int 0)) (Fn_a : Fld Z h0 a "java/lang/AbstractStringBuilder" "count" "I" (.int ct)) (A_vb : Ia Z h0 vb .byte 16 gv) (hby : BY 16 gv) (hct : ct.toInt = k) (S_c : Sta Z h0 "java/lang/String" "COMPACT_STRINGS" "Z" (.int cz)) (hcz : ¬ cz = 0) :
    OM l (⟨"java/lang/AbstractStringBuilder", "length", "()I"⟩ : MethodName) jdk_68_method_6_code 1 (some .int) room28 ws Z #[(.ref a)] h0 n0 (Q28 Z a vb ct k gv cz h0) := by
  refine OM.of (plainFor_of_name pn_28) (fun m => ef_28 m a) ?_
  intro p e s m below meth c T X
  refine OG.aloadN X d28_0 rfl rfl ?_
  refine OG.getF X (host := "") (Or.inl (hw _ (List.mem_of_getElem? (i := 105) rfl))) Via.refl Fn_a d28_1 ?_
  intro T1 X1
  exact OG.retI X1 d28_4 (by decide) (by decide) ⟨rfl, rfl⟩
theorem pn_27 : plainName "java/lang/StringBuilder" = true := by first | (simp [plainName, overriddenIn]; done) | decide +kernel
theorem ef_27 (m : MethodId) (a : Addr) : entryFrame m #[(.ref a)] 1 = mkF m 0 #[.val (.ref a)] [] := by first | (simp [entryFrame, mkF, argsToLocals, Value.category]; done) | rfl
def Q27 (Z : State) (a : Addr) (vb : Addr) (ct : Int32) (k : Nat) (gv : Nat → Int32) (cz : Int32) (h0 : Heap) : Option Value → Heap → Prop := fun v h => v = some (.int ct) ∧ h = h0
theorem d27_0 : decode jdk_67_method_93_code 0 = .ok (.aload_n 0, 1) := by decide +kernel
theorem d27_1 : decode jdk_67_method_93_code 1 = .ok (.invokespecial 343, 3) := by decide +kernel
theorem d27_4 : decode jdk_67_method_93_code 4 = .ok (.ireturn, 1) := by decide +kernel
abbrev room27 : Room := { frames := 1, cells := 0, slots := 0, locals := 12 }
set_option maxRecDepth 65536 in
set_option maxHeartbeats 40000000 in
theorem rm27 (l : Launch) (Z : State) (a0 : Array Value) (hw : ∀ d ∈ tables_1, d.before a0 Z = true) (ws : List Jvm.Cond) (a : Addr) (vb : Addr) (ct : Int32) (k : Nat) (gv : Nat → Int32) (cz : Int32) (h0 : Heap) (n0 : Nat) (E_a : Exa Z h0 a "java/lang/StringBuilder") (Fv_a : Fld Z h0 a "java/lang/AbstractStringBuilder" "value" "[B" (.ref vb)) (Fc_a : Fld Z h0 a "java/lang/AbstractStringBuilder" "coder" "B" (.int 0)) (Fn_a : Fld Z h0 a "java/lang/AbstractStringBuilder" "count" "I" (.int ct)) (A_vb : Ia Z h0 vb .byte 16 gv) (hby : BY 16 gv) (hct : ct.toInt = k) (S_c : Sta Z h0 "java/lang/String" "COMPACT_STRINGS" "Z" (.int cz)) (hcz : ¬ cz = 0) :
    OM l (⟨"java/lang/StringBuilder", "length", "()I"⟩ : MethodName) jdk_67_method_93_code 1 (some .int) room27 ws Z #[(.ref a)] h0 n0 (Q27 Z a vb ct k gv cz h0) := by
  refine OM.of (plainFor_of_name pn_27) (fun m => ef_27 m a) ?_
  intro p e s m below meth c T X
  refine OG.aloadN X d27_0 rfl rfl ?_
  refine OG.callX X (hw _ (List.mem_of_getElem? (i := 156) rfl)) (sameSelf (y' := (⟨"java/lang/AbstractStringBuilder", "getValue", "()[B"⟩ : MethodName)) (by decide) rfl (hw _ (List.mem_of_getElem? (i := 151) rfl)) (hw _ (List.mem_of_getElem? (i := 146) rfl)) (notFace_of_selects (args := a0) (hw _ (List.mem_of_getElem? (i := 148) rfl)))) (hw _ (List.mem_of_getElem? (i := 152) rfl)) (hw _ (List.mem_of_getElem? (i := 92) rfl)) (by decide) E_a (rm28 l Z a0 hw [] a vb ct k gv cz h0 n0 E_a Fv_a Fc_a Fn_a A_vb hby hct S_c hcz) (hw _ (List.mem_of_getElem? (i := 157) rfl)) (hw _ (List.mem_of_getElem? (i := 76) rfl)) (by decide) (W := 0) (by decide) rfl (argsL := []) pd_17 rfl d27_1 rfl (Nat.le_of_eq rfl) (by decide) (by decide) ?_
  rintro _ T1 h2 X1 ⟨rfl, eh2⟩
  rw [eh2] at X1
  show OG p e below s n0 room27.cells room27.slots (Q27 Z a vb ct k gv cz h0) (T1.setTop (mkF m 4 #[.val (.ref a)] [(.int ct)]))
  exact OG.retI X1 d27_4 (by decide) (by decide) ⟨rfl, rfl⟩
theorem pn_29 : plainName "java/lang/AbstractStringBuilder" = true := by first | (simp [plainName, overriddenIn]; done) | decide +kernel
theorem ef_29 (m : MethodId) (a : Addr) : entryFrame m #[(.ref a)] 1 = mkF m 0 #[.val (.ref a)] [] := by first | (simp [entryFrame, mkF, argsToLocals, Value.category]; done) | rfl
def Q29 (Z : State) (a : Addr) (vb : Addr) (ct : Int32) (k : Nat) (gv : Nat → Int32) (cz : Int32) (h0 : Heap) : Option Value → Heap → Prop := fun v h => v = some (.int 1) ∧ h = h0
theorem d29_0 : decode jdk_68_method_68_code 0 = .ok (.getstatic 18, 3) := by decide +kernel
theorem d29_3 : decode jdk_68_method_68_code 3 = .ok (.ifCond .eq 14, 3) := by decide +kernel
theorem d29_6 : decode jdk_68_method_68_code 6 = .ok (.aload_n 0, 1) := by decide +kernel
theorem d29_7 : decode jdk_68_method_68_code 7 = .ok (.getfield 22, 3) := by decide +kernel
theorem d29_10 : decode jdk_68_method_68_code 10 = .ok (.ifCond .ne 7, 3) := by decide +kernel
theorem d29_13 : decode jdk_68_method_68_code 13 = .ok (.iconst 1, 1) := by decide +kernel
theorem d29_14 : decode jdk_68_method_68_code 14 = .ok (.goto 4, 3) := by decide +kernel
theorem d29_18 : decode jdk_68_method_68_code 18 = .ok (.ireturn, 1) := by decide +kernel
abbrev room29 : Room := { frames := 0, cells := 0, slots := 0, locals := 0 }
set_option maxRecDepth 65536 in
set_option maxHeartbeats 40000000 in
theorem rm29 (l : Launch) (Z : State) (a0 : Array Value) (hw : ∀ d ∈ tables_1, d.before a0 Z = true) (ws : List Jvm.Cond) (a : Addr) (vb : Addr) (ct : Int32) (k : Nat) (gv : Nat → Int32) (cz : Int32) (h0 : Heap) (n0 : Nat) (E_a : Exa Z h0 a "java/lang/StringBuilder") (Fv_a : Fld Z h0 a "java/lang/AbstractStringBuilder" "value" "[B" (.ref vb)) (Fc_a : Fld Z h0 a "java/lang/AbstractStringBuilder" "coder" "B" (.int 0)) (Fn_a : Fld Z h0 a "java/lang/AbstractStringBuilder" "count" "I" (.int ct)) (A_vb : Ia Z h0 vb .byte 16 gv) (hby : BY 16 gv) (hct : ct.toInt = k) (S_c : Sta Z h0 "java/lang/String" "COMPACT_STRINGS" "Z" (.int cz)) (hcz : ¬ cz = 0) :
    OM l (⟨"java/lang/AbstractStringBuilder", "isLatin1", "()Z"⟩ : MethodName) jdk_68_method_68_code 1 (some .boolean) room29 ws Z #[(.ref a)] h0 n0 (Q29 Z a vb ct k gv cz h0) := by
  refine OM.of (plainFor_of_name pn_29) (fun m => ef_29 m a) ?_
  intro p e s m below meth c T X
  refine OG.getS X (host := "") (Or.inl (hw _ (List.mem_of_getElem? (i := 79) rfl))) Via.refl S_c d29_0 ?_
  intro T1 X1
  refine OG.if_eq_f X1 d29_3 hcz ?_
  refine OG.aloadN X1 d29_6 rfl rfl ?_
  refine OG.getF X1 (host := "") (Or.inl (hw _ (List.mem_of_getElem? (i := 82) rfl))) Via.refl Fc_a d29_7 ?_
  intro T2 X2
  refine OG.if_ne_f X2 d29_10 (by decide) ?_
  refine OG.iconst X2 d29_13 (z := (1 : Int32)) rfl ?_
  refine OG.goto X2 d29_14 (pc' := 18) (by decide) ?_
  exact OG.retN X2 (t := .boolean) d29_18 (by simp) (by decide) (by decide) ⟨rfl, rfl⟩
theorem pn_32 : plainName "java/util/Arrays" = true := by first | (simp [plainName, overriddenIn]; done) | decide +kernel
theorem ef_32 (m : MethodId) (fr : Int32) (to : Int32) : entryFrame m #[(.int fr), (.int to)] 2 = mkF m 0 #[.val (.int fr), .val (.int to)] [] := by first | (simp [entryFrame, mkF, argsToLocals, Value.category]; done) | rfl
def Q32 (Z : State) (fr : Int32) (to : Int32)  (h0 : Heap) : Option Value → Heap → Prop := fun v h => v = none ∧ h = h0
theorem d32_0 : decode jdk_65_method_131_code 0 = .ok (.iload_n 1, 1) := by decide +kernel
theorem d32_1 : decode jdk_65_method_131_code 1 = .ok (.iload_n 0, 1) := by decide +kernel
theorem d32_2 : decode jdk_65_method_131_code 2 = .ok (.if_icmp .ge 35, 3) := by decide +kernel
theorem d32_37 : decode jdk_65_method_131_code 37 = .ok (.return_, 1) := by decide +kernel
abbrev room32 : Room := { frames := 0, cells := 0, slots := 0, locals := 0 }
set_option maxRecDepth 65536 in
set_option maxHeartbeats 40000000 in
theorem rm32 (l : Launch) (Z : State) (a0 : Array Value) (hw : ∀ d ∈ tables_1, d.before a0 Z = true) (ws : List Jvm.Cond) (fr : Int32) (to : Int32)  (h0 : Heap) (n0 : Nat) (hft : ¬ to < fr) :
    OM l (⟨"java/util/Arrays", "checkLength", "(II)V"⟩ : MethodName) jdk_65_method_131_code 2 none room32 ws Z #[(.int fr), (.int to)] h0 n0 (Q32 Z fr to  h0) := by
  refine OM.of (plainFor_of_name pn_32) (fun m => ef_32 m fr to) ?_
  intro p e s m below meth c T X
  refine OG.iloadN X d32_0 rfl ?_
  refine OG.iloadN X d32_1 rfl ?_
  refine OG.icmp_ge_t X d32_2 (pc' := 37) (by decide) hft ?_
  exact OG.retV X d32_37 (by decide) (by decide) ⟨rfl, rfl⟩
theorem d33_0 : decode jdk_29_method_69_code 0 = .ok (.iload_n 0, 1) := by decide +kernel
theorem d33_1 : decode jdk_29_method_69_code 1 = .ok (.iload_n 1, 1) := by decide +kernel
theorem d33_2 : decode jdk_29_method_69_code 2 = .ok (.if_icmp .gt 7, 3) := by decide +kernel
theorem d33_9 : decode jdk_29_method_69_code 9 = .ok (.iload_n 1, 1) := by decide +kernel
theorem d33_10 : decode jdk_29_method_69_code 10 = .ok (.ireturn, 1) := by decide +kernel
theorem d33_5 : decode jdk_29_method_69_code 5 = .ok (.iload_n 0, 1) := by decide +kernel
theorem d33_6 : decode jdk_29_method_69_code 6 = .ok (.goto 4, 3) := by decide +kernel
def F33 (q : Int32) (r : Int32) : Int32 := (if r < q then r else q)
theorem ef_33 (m : MethodId) (q : Int32) (r : Int32) : entryFrame m #[(.int q), (.int r)] 2 = mkF m 0 #[.val (.int q), .val (.int r)] [] := by first | (simp [entryFrame, mkF, argsToLocals, Value.category]; done) | rfl
def Q33 (Z : State) (q : Int32) (r : Int32)  (h0 : Heap) : Option Value → Heap → Prop := fun v h => v = some (.int (F33 q r)) ∧ h = h0
abbrev room33 : Room := { frames := 0, cells := 0, slots := 0, locals := 0 }
set_option maxRecDepth 65536 in
set_option maxHeartbeats 40000000 in
theorem rm33 (l : Launch) (Z : State) (a0 : Array Value) (hw : ∀ d ∈ tables_1, d.before a0 Z = true) (ws : List Jvm.Cond) (q : Int32) (r : Int32)  (h0 : Heap) (n0 : Nat)  :
    OM l (⟨"java/lang/Math", "min", "(II)I"⟩ : MethodName) jdk_29_method_69_code 2 (some .int) room33 ws Z #[(.int q), (.int r)] h0 n0 (Q33 Z q r  h0) := by
  refine OM.of (Jvm.Free.JP.mathPlain rfl (by decide +kernel)) (fun m => ef_33 m q r) ?_
  intro p e s m below meth c T X
  refine OG.iloadN X d33_0 rfl ?_
  refine OG.iloadN X d33_1 rfl ?_
  refine OG.icmp_gt X d33_2 (pc' := 9) (by decide) ?_ ?_
  · intro c2
    refine OG.iloadN X d33_9 rfl ?_
    exact OG.retI X d33_10 (by decide) (by decide) ⟨by rw [F33, if_pos c2]; try rfl, rfl⟩
  · intro c2
    refine OG.iloadN X d33_5 rfl ?_
    refine OG.goto X d33_6 (pc' := 10) (by decide) ?_
    exact OG.retI X d33_10 (by decide) (by decide) ⟨by rw [F33, if_neg c2]; try rfl, rfl⟩
theorem own_ft {fr to : Int32} {k : Nat} (hf : fr = 0) (ht : to.toInt = k) : ¬ to < fr := fun q => by
  subst hf; rw [Int32.lt_iff_toInt_lt] at q; have : (0 : Int32).toInt = 0 := rfl
  omega
theorem own_nl3 {fr to n3 : Int32} (hf : fr = 0) (h : n3 = to - fr) : n3 = to := by
  subst hf h
  rw [← Int32.toInt_inj]
  have h1 := c_isub to 0
  have h2 := rng32 (to - 0)
  have h3 := rng32 to
  have : (0 : Int32).toInt = 0 := rfl
  omega
theorem own_nz3 {fr to n3 : Int32} {k : Nat} (hf : fr = 0) (h : n3 = to - fr) (ht : to.toInt = k) : ¬ n3 < 0 := fun q => by
  rw [own_nl3 hf h, Int32.lt_iff_toInt_lt] at q; have : (0 : Int32).toInt = 0 := rfl
  omega
theorem own_nc3 {fr to n3 : Int32} {k : Nat} (hf : fr = 0) (h : n3 = to - fr) (ht : to.toInt = k) (hk : k ≤ 16) : n3.toNatClampNeg ≤ 16 := by
  rw [own_nl3 hf h]; simp only [Int32.toNatClampNeg]; omega
theorem own_mn {to n3 : Int32} {k : Nat} (h : n3 = to - 0) (ht : to.toInt = k) (hk : k ≤ 16) : (F33 ((16 : Int32) - 0) n3).toInt = k := by
  have e := own_nl3 rfl h
  have e16 : ((16 : Int32) - 0) = 16 := by decide
  have t16 : (16 : Int32).toInt = 16 := rfl
  rw [e, e16, F33]
  split
  · exact ht
  · rename_i q; rw [Int32.lt_iff_toInt_lt] at q; omega
theorem pn_31 : plainName "java/util/Arrays" = true := by first | (simp [plainName, overriddenIn]; done) | decide +kernel
theorem ef_31 (m : MethodId) (b : Addr) (fr : Int32) (to : Int32) : entryFrame m #[(.ref b), (.int fr), (.int to)] 5 = mkF m 0 #[.val (.ref b), .val (.int fr), .val (.int to), .unset, .unset] [] := by first | (simp [entryFrame, mkF, argsToLocals, Value.category]; done) | rfl
def Q31 (Z : State) (b : Addr) (fr : Int32) (to : Int32) (k : Nat) (gv : Nat → Int32) (h0 : Heap) : Option Value → Heap → Prop := fun v h => ∃ (rb : Addr) (gr : Nat → Int32), v = some (.ref rb) ∧ h0.size ≤ rb ∧ Keep h0 h [] ∧ Ia Z h rb .byte k gr ∧ ∀ i, i < k → gr i = gv i
theorem d31_0 : decode jdk_65_method_133_code 0 = .ok (.iload_n 1, 1) := by decide +kernel
theorem d31_1 : decode jdk_65_method_133_code 1 = .ok (.iload_n 2, 1) := by decide +kernel
theorem d31_2 : decode jdk_65_method_133_code 2 = .ok (.invokestatic 343, 3) := by decide +kernel
theorem d31_5 : decode jdk_65_method_133_code 5 = .ok (.iload_n 2, 1) := by decide +kernel
theorem d31_6 : decode jdk_65_method_133_code 6 = .ok (.iload_n 1, 1) := by decide +kernel
theorem d31_7 : decode jdk_65_method_133_code 7 = .ok (.isub, 1) := by decide +kernel
theorem d31_8 : decode jdk_65_method_133_code 8 = .ok (.istore_n 3, 1) := by decide +kernel
theorem d31_9 : decode jdk_65_method_133_code 9 = .ok (.iload_n 3, 1) := by decide +kernel
theorem d31_10 : decode jdk_65_method_133_code 10 = .ok (.newarray .byte, 2) := by decide +kernel
theorem d31_12 : decode jdk_65_method_133_code 12 = .ok (.astore 4, 2) := by decide +kernel
theorem d31_14 : decode jdk_65_method_133_code 14 = .ok (.aload_n 0, 1) := by decide +kernel
theorem d31_15 : decode jdk_65_method_133_code 15 = .ok (.iload_n 1, 1) := by decide +kernel
theorem d31_16 : decode jdk_65_method_133_code 16 = .ok (.aload 4, 2) := by decide +kernel
theorem d31_18 : decode jdk_65_method_133_code 18 = .ok (.iconst 0, 1) := by decide +kernel
theorem d31_19 : decode jdk_65_method_133_code 19 = .ok (.aload_n 0, 1) := by decide +kernel
theorem d31_20 : decode jdk_65_method_133_code 20 = .ok (.arraylength, 1) := by decide +kernel
theorem d31_21 : decode jdk_65_method_133_code 21 = .ok (.iload_n 1, 1) := by decide +kernel
theorem d31_22 : decode jdk_65_method_133_code 22 = .ok (.isub, 1) := by decide +kernel
theorem d31_23 : decode jdk_65_method_133_code 23 = .ok (.iload_n 3, 1) := by decide +kernel
theorem d31_24 : decode jdk_65_method_133_code 24 = .ok (.invokestatic 304, 3) := by decide +kernel
theorem pd_21 : parseMethodDescriptor "(II)I" = some ⟨[.int, .int], some .int⟩ := by decide +kernel
theorem d31_27 : decode jdk_65_method_133_code 27 = .ok (.invokestatic 150, 3) := by decide +kernel
theorem d31_30 : decode jdk_65_method_133_code 30 = .ok (.aload 4, 2) := by decide +kernel
theorem d31_32 : decode jdk_65_method_133_code 32 = .ok (.areturn, 1) := by decide +kernel
abbrev room31 : Room := { frames := 1, cells := 1, slots := 16, locals := 18 }
set_option maxRecDepth 65536 in
set_option maxHeartbeats 40000000 in
theorem rm31 (l : Launch) (Z : State) (a0 : Array Value) (hw : ∀ d ∈ tables_1, d.before a0 Z = true) (ws : List Jvm.Cond) (b : Addr) (fr : Int32) (to : Int32) (k : Nat) (gv : Nat → Int32) (h0 : Heap) (n0 : Nat) (A_b : Ia Z h0 b .byte 16 gv) (hby : BY 16 gv) (hfr : fr = 0) (hto : to.toInt = k) (hk : k ≤ 16) (Z0 : n0 ≤ h0.size) :
    OM l (⟨"java/util/Arrays", "copyOfRangeByte", "([BII)[B"⟩ : MethodName) jdk_65_method_133_code 5 (some (.array .byte)) room31 ws Z #[(.ref b), (.int fr), (.int to)] h0 n0 (Q31 Z b fr to k gv h0) := by
  refine OM.of (plainFor_of_name pn_31) (fun m => ef_31 m b fr to) ?_
  intro p e s m below meth c T X
  have K0 : Keep h0 h0 [] := Keep.refl _ _
  refine OG.iloadN X d31_0 rfl ?_
  refine OG.iloadN X d31_1 rfl ?_
  refine OG.callS X (hw _ (List.mem_of_getElem? (i := 170) rfl)) (hw _ (List.mem_of_getElem? (i := 171) rfl)) (by decide) (rm32 l Z a0 hw [] fr to h0 n0 (own_ft hfr hto)) (hw _ (List.mem_of_getElem? (i := 172) rfl)) (hw _ (List.mem_of_getElem? (i := 165) rfl)) (by decide) (W := 0) (by decide) rfl (argsL := [(.int fr), (.int to)]) pd_1 rfl d31_2 rfl (Nat.le_of_eq rfl) (by decide) (by decide) ?_
  rintro _ T1 h2 X1 ⟨rfl, eh2⟩
  rw [eh2] at X1
  show OG p e below s n0 room31.cells room31.slots (Q31 Z b fr to k gv h0) (T1.setTop (mkF m 5 #[.val (.ref b), .val (.int fr), .val (.int to), .unset, .unset] []))
  refine OG.iloadN X1 d31_5 rfl ?_
  refine OG.iloadN X1 d31_6 rfl ?_
  refine OG.isub X1 d31_7 ?_
  refine OG.istoreNV X1 d31_8 (l' := fun z => #[.val (.ref b), .val (.int fr), .val (.int to), .val (.int z), .unset]) (fun _ => rfl) ?_
  intro nl3 hnl3
  refine OG.iloadN X1 d31_9 rfl ?_
  refine OG.newP X1 (hw _ (List.mem_of_getElem? (i := 18) rfl)) d31_10 (own_nz3 hfr hnl3 hto) (cap := 16) (own_nc3 hfr hnl3 hto hk) (by decide) (by decide) (by decide) ?_
  rintro T3 h4 b6 gb6 X3 E5 ⟨cAb6, Nb6⟩
  have ne_b_b6 : b ≠ b6 := Nat.ne_of_lt (Nat.lt_of_lt_of_le A_b.lt (Nat.le_of_eq gb6.symm))
  have g_b6 : n0 ≤ b6 := Nat.le_trans Z0 (Nat.le_of_eq gb6.symm)
  have sz_b6 : h0.size ≤ b6 := Nat.le_trans K0.1 (Nat.le_of_eq gb6.symm)
  replace A_b := A_b.ext E5
  replace Z0 := Nat.le_trans Z0 E5.1
  replace K0 := K0.ext E5
  have A_b6 : Ia Z h4 b6 .byte (nl3).toInt.toNat (fun _ => 0) := Ia.new Nb6 (own_nz3 hfr hnl3 hto) rfl rfl
  rw [show (nl3).toInt.toNat = k by have := own_nl3 hfr hnl3; rw [this]; omega] at A_b6
  refine OG.astore X3 d31_12 (l' := #[.val (.ref b), .val (.int fr), .val (.int to), .val (.int nl3), .val (.ref b6)]) rfl rfl ?_
  refine OG.aloadN X3 d31_14 rfl rfl ?_
  refine OG.iloadN X3 d31_15 rfl ?_
  refine OG.aload X3 d31_16 rfl rfl ?_
  refine OG.iconst X3 d31_18 (z := (0 : Int32)) rfl ?_
  refine OG.aloadN X3 d31_19 rfl rfl ?_
  refine OG.arraylength X3 A_b (z := (16 : Int32)) rfl d31_20 ?_
  refine OG.iloadN X3 d31_21 rfl ?_
  refine OG.isub X3 d31_22 ?_
  refine OG.iloadN X3 d31_23 rfl ?_
  refine OG.callS X3 (hw _ (List.mem_of_getElem? (i := 173) rfl)) (hw _ (List.mem_of_getElem? (i := 174) rfl)) (by decide) (rm33 l Z a0 hw [] ((16 : Int32) - fr) nl3 h4 n0) (hw _ (List.mem_of_getElem? (i := 176) rfl)) (hw _ (List.mem_of_getElem? (i := 175) rfl)) (by decide) (W := 4) (by decide) rfl (argsL := [(.int ((16 : Int32) - fr)), (.int nl3)]) pd_21 rfl d31_24 rfl (Nat.le_of_eq rfl) (by decide) (by decide) ?_
  rintro _ T7 h8 X7 ⟨rfl, eh8⟩
  rw [eh8] at X7
  show OG p e below s n0 room31.cells room31.slots (Q31 Z b fr to k gv h0) (T7.setTop (mkF m 27 #[.val (.ref b), .val (.int fr), .val (.int to), .val (.int nl3), .val (.ref b6)] [(.int (F33 ((16 : Int32) - fr) nl3)), (.int (0 : Int32)), (.ref b6), (.int fr), (.ref b)]))
  subst hfr
  refine OG.arraycopyB X7 (hw _ (List.mem_of_getElem? (i := 177) rfl)) (hw _ (List.mem_of_getElem? (i := 131) rfl)) (hw _ (List.mem_of_getElem? (i := 129) rfl)) (hw _ (List.mem_of_getElem? (i := 130) rfl)) A_b A_b6 hby (BY.z k) (q := k) (d := 0) (own_mn hnl3 hto hk) rfl hk (Nat.le_of_eq (Nat.zero_add k)) g_b6 d31_27 rfl (by decide) (W := 0) (Nat.le_of_eq rfl) (by decide) ?_
  intro T90 h90 X90 K90 B90
  replace K0 := K0.trans K90 (allS (Or.inr sz_b6) all0)
  refine OG.aload X90 d31_30 rfl rfl ?_
  exact OG.retA X90 d31_32 rfl rfl (by decide) (by decide) ⟨b6, _, rfl, sz_b6, K0, B90, fun i hi => by show (if 0 ≤ i ∧ i < 0 + k then gv (i - 0) else 0) = gv i; rw [if_pos ⟨Nat.zero_le _, by omega⟩]; rfl⟩
theorem pn_30 : plainName "java/util/Arrays" = true := by first | (simp [plainName, overriddenIn]; done) | decide +kernel
theorem ef_30 (m : MethodId) (b : Addr) (fr : Int32) (to : Int32) : entryFrame m #[(.ref b), (.int fr), (.int to)] 3 = mkF m 0 #[.val (.ref b), .val (.int fr), .val (.int to)] [] := by first | (simp [entryFrame, mkF, argsToLocals, Value.category]; done) | rfl
def Q30 (Z : State) (b : Addr) (fr : Int32) (to : Int32) (k : Nat) (gv : Nat → Int32) (h0 : Heap) : Option Value → Heap → Prop := fun v h => ∃ (rb : Addr) (gr : Nat → Int32), v = some (.ref rb) ∧ h0.size ≤ rb ∧ Keep h0 h [] ∧ Ia Z h rb .byte k gr ∧ ∀ i, i < k → gr i = gv i
theorem d30_0 : decode jdk_65_method_132_code 0 = .ok (.iload_n 1, 1) := by decide +kernel
theorem d30_1 : decode jdk_65_method_132_code 1 = .ok (.ifCond .ne 9, 3) := by decide +kernel
theorem d30_4 : decode jdk_65_method_132_code 4 = .ok (.iload_n 2, 1) := by decide +kernel
theorem d30_5 : decode jdk_65_method_132_code 5 = .ok (.aload_n 0, 1) := by decide +kernel
theorem d30_6 : decode jdk_65_method_132_code 6 = .ok (.arraylength, 1) := by decide +kernel
theorem d30_7 : decode jdk_65_method_132_code 7 = .ok (.if_icmp .eq 10, 3) := by decide +kernel
theorem d30_10 : decode jdk_65_method_132_code 10 = .ok (.aload_n 0, 1) := by decide +kernel
theorem d30_11 : decode jdk_65_method_132_code 11 = .ok (.iload_n 1, 1) := by decide +kernel
theorem d30_12 : decode jdk_65_method_132_code 12 = .ok (.iload_n 2, 1) := by decide +kernel
theorem d30_13 : decode jdk_65_method_132_code 13 = .ok (.invokestatic 339, 3) := by decide +kernel
theorem pd_22 : parseMethodDescriptor "([BII)[B" = some ⟨[(.array .byte), .int, .int], some (.array .byte)⟩ := by decide +kernel
theorem d30_16 : decode jdk_65_method_132_code 16 = .ok (.areturn, 1) := by decide +kernel
abbrev room30 : Room := { frames := 2, cells := 1, slots := 16, locals := 34 }
set_option maxRecDepth 65536 in
set_option maxHeartbeats 40000000 in
theorem rm30 (l : Launch) (Z : State) (a0 : Array Value) (hw : ∀ d ∈ tables_1, d.before a0 Z = true) (ws : List Jvm.Cond) (b : Addr) (fr : Int32) (to : Int32) (k : Nat) (gv : Nat → Int32) (h0 : Heap) (n0 : Nat) (A_b : Ia Z h0 b .byte 16 gv) (hby : BY 16 gv) (hfr : fr = 0) (hto : to.toInt = k) (hk : k ≤ 16) (Z0 : n0 ≤ h0.size) (hne : ¬ to = 16) :
    OM l (⟨"java/util/Arrays", "copyOfRange", "([BII)[B"⟩ : MethodName) jdk_65_method_132_code 3 (some (.array .byte)) room30 ws Z #[(.ref b), (.int fr), (.int to)] h0 n0 (Q30 Z b fr to k gv h0) := by
  refine OM.of (plainFor_of_name pn_30) (fun m => ef_30 m b fr to) ?_
  intro p e s m below meth c T X
  refine OG.iloadN X d30_0 rfl ?_
  refine OG.if_ne_f X d30_1 hfr ?_
  refine OG.iloadN X d30_4 rfl ?_
  refine OG.aloadN X d30_5 rfl rfl ?_
  refine OG.arraylength X A_b (z := (16 : Int32)) rfl d30_6 ?_
  refine OG.icmp_eq_f X d30_7 hne ?_
  refine OG.aloadN X d30_10 rfl rfl ?_
  refine OG.iloadN X d30_11 rfl ?_
  refine OG.iloadN X d30_12 rfl ?_
  refine OG.callS X (hw _ (List.mem_of_getElem? (i := 167) rfl)) (hw _ (List.mem_of_getElem? (i := 168) rfl)) (by decide) (rm31 l Z a0 hw [] b fr to k gv h0 n0 A_b hby hfr hto hk Z0) (hw _ (List.mem_of_getElem? (i := 169) rfl)) (hw _ (List.mem_of_getElem? (i := 165) rfl)) (by decide) (W := 0) (by decide) rfl (argsL := [(.ref b), (.int fr), (.int to)]) pd_22 rfl d30_13 rfl (Nat.le_of_eq rfl) (by decide) (by decide) ?_
  rintro _ T1 h2 X1 ⟨rb, gr, rfl, hrb, K1, A_rb, hgr⟩
  show OG p e below s n0 room30.cells room30.slots (Q30 Z b fr to k gv h0) (T1.setTop (mkF m 16 #[.val (.ref b), .val (.int fr), .val (.int to)] [(.ref rb)]))
  exact OG.retA X1 d30_16 rfl rfl (by decide) (by decide) ⟨rb, gr, rfl, hrb, K1, A_rb, hgr⟩
theorem own_n16 {ct : Int32} {k : Nat} (h : ct.toInt = k) (hk : k ≤ 7) : ¬ ct = 16 := fun q => by
  subst q; have : (16 : Int32).toInt = 16 := rfl
  omega
theorem pn_25 : plainName "java/lang/String" = true := by first | (simp [plainName, overriddenIn]; done) | decide +kernel
theorem ef_25 (m : MethodId) (a : Addr) (sb : Addr) : entryFrame m #[(.ref a), (.ref sb), .null] 5 = mkF m 0 #[.val (.ref a), .val (.ref sb), .val .null, .unset, .unset] [] := by first | (simp [entryFrame, mkF, argsToLocals, Value.category]; done) | rfl
def Q25 (Z : State) (a : Addr) (sb : Addr) (vb : Addr) (ct : Int32) (k : Nat) (gv : Nat → Int32) (cz : Int32) (h0 : Heap) : Option Value → Heap → Prop := fun v h => ∃ (rb : Addr) (gr : Nat → Int32), v = none ∧ Keep h0 h [a] ∧ Exa Z h a "java/lang/String" ∧ Fld Z h a "java/lang/String" "coder" "B" (.int 0) ∧ Fld Z h a "java/lang/String" "value" "[B" (.ref rb) ∧ Ia Z h rb .byte k gr ∧ ∀ i, i < k → gr i = gv i
theorem d25_0 : decode jdk_42_method_150_code 0 = .ok (.aload_n 0, 1) := by decide +kernel
theorem d25_1 : decode jdk_42_method_150_code 1 = .ok (.invokespecial 1, 3) := by decide +kernel
theorem d25_4 : decode jdk_42_method_150_code 4 = .ok (.aload_n 1, 1) := by decide +kernel
theorem d25_5 : decode jdk_42_method_150_code 5 = .ok (.invokevirtual 552, 3) := by decide +kernel
theorem pd_23 : parseMethodDescriptor "()[B" = some ⟨[], some (.array .byte)⟩ := by decide +kernel
theorem d25_8 : decode jdk_42_method_150_code 8 = .ok (.astore_n 3, 1) := by decide +kernel
theorem d25_9 : decode jdk_42_method_150_code 9 = .ok (.aload_n 1, 1) := by decide +kernel
theorem d25_10 : decode jdk_42_method_150_code 10 = .ok (.invokevirtual 549, 3) := by decide +kernel
theorem d25_13 : decode jdk_42_method_150_code 13 = .ok (.istore 4, 2) := by decide +kernel
theorem d25_15 : decode jdk_42_method_150_code 15 = .ok (.aload_n 1, 1) := by decide +kernel
theorem d25_16 : decode jdk_42_method_150_code 16 = .ok (.invokevirtual 1047, 3) := by decide +kernel
theorem d25_19 : decode jdk_42_method_150_code 19 = .ok (.ifCond .eq 22, 3) := by decide +kernel
theorem d25_22 : decode jdk_42_method_150_code 22 = .ok (.aload_n 0, 1) := by decide +kernel
theorem d25_23 : decode jdk_42_method_150_code 23 = .ok (.iconst 0, 1) := by decide +kernel
theorem d25_24 : decode jdk_42_method_150_code 24 = .ok (.putfield 15, 3) := by decide +kernel
theorem d25_27 : decode jdk_42_method_150_code 27 = .ok (.aload_n 0, 1) := by decide +kernel
theorem d25_28 : decode jdk_42_method_150_code 28 = .ok (.aload_n 3, 1) := by decide +kernel
theorem d25_29 : decode jdk_42_method_150_code 29 = .ok (.iconst 0, 1) := by decide +kernel
theorem d25_30 : decode jdk_42_method_150_code 30 = .ok (.iload 4, 2) := by decide +kernel
theorem d25_32 : decode jdk_42_method_150_code 32 = .ok (.invokestatic 54, 3) := by decide +kernel
theorem d25_35 : decode jdk_42_method_150_code 35 = .ok (.putfield 9, 3) := by decide +kernel
theorem d25_38 : decode jdk_42_method_150_code 38 = .ok (.goto 59, 3) := by decide +kernel
theorem d25_97 : decode jdk_42_method_150_code 97 = .ok (.return_, 1) := by decide +kernel
abbrev room25 : Room := { frames := 3, cells := 1, slots := 16, locals := 49 }
set_option maxRecDepth 65536 in
set_option maxHeartbeats 40000000 in
theorem rm25 (l : Launch) (Z : State) (a0 : Array Value) (hw : ∀ d ∈ tables_1, d.before a0 Z = true) (ws : List Jvm.Cond) (a : Addr) (sb : Addr) (vb : Addr) (ct : Int32) (k : Nat) (gv : Nat → Int32) (cz : Int32) (h0 : Heap) (n0 : Nat) (E_a : Exa Z h0 a "java/lang/String") (F_coder_a : Fld Z h0 a "java/lang/String" "coder" "B" (.int 0)) (F_value_a : Fld Z h0 a "java/lang/String" "value" "[B" .null) (g_a : n0 ≤ a) (Z0 : n0 ≤ h0.size) (nsb : sb ≠ a) (nva : vb ≠ a) (hk : k ≤ 7) (E_sb : Exa Z h0 sb "java/lang/StringBuilder") (Fv_sb : Fld Z h0 sb "java/lang/AbstractStringBuilder" "value" "[B" (.ref vb)) (Fc_sb : Fld Z h0 sb "java/lang/AbstractStringBuilder" "coder" "B" (.int 0)) (Fn_sb : Fld Z h0 sb "java/lang/AbstractStringBuilder" "count" "I" (.int ct)) (A_vb : Ia Z h0 vb .byte 16 gv) (hby : BY 16 gv) (hct : ct.toInt = k) (S_c : Sta Z h0 "java/lang/String" "COMPACT_STRINGS" "Z" (.int cz)) (hcz : ¬ cz = 0) :
    OM l (⟨"java/lang/String", "<init>", "(Ljava/lang/AbstractStringBuilder;Ljava/lang/Void;)V"⟩ : MethodName) jdk_42_method_150_code 5 none room25 ws Z #[(.ref a), (.ref sb), .null] h0 n0 (Q25 Z a sb vb ct k gv cz h0) := by
  refine OM.of (plainFor_of_name pn_25) (fun m => ef_25 m a sb) ?_
  intro p e s m below meth c T X
  have K0 : Keep h0 h0 [a] := Keep.refl _ _
  refine OG.aloadN X d25_0 rfl rfl ?_
  refine OG.initO X (hw _ (List.mem_of_getElem? (i := 23) rfl)) (hw _ (List.mem_of_getElem? (i := 24) rfl)) (hw _ (List.mem_of_getElem? (i := 25) rfl)) d25_1 rfl (by decide) (W := 0) (Nat.le_of_eq rfl) (by decide) ?_
  intro T1 X1
  refine OG.aloadN X1 d25_4 rfl rfl ?_
  refine OG.callV X1 (hw _ (List.mem_of_getElem? (i := 145) rfl)) (hw _ (List.mem_of_getElem? (i := 146) rfl)) (notFace_of_selects (args := #[]) (mvT X1.warm (hw _ (List.mem_of_getElem? (i := 148) rfl)))) (hw _ (List.mem_of_getElem? (i := 148) rfl)) (hw _ (List.mem_of_getElem? (i := 147) rfl)) (by decide) E_sb (rm26 l Z a0 hw [] sb vb ct k gv cz h0 n0 E_sb Fv_sb Fc_sb Fn_sb A_vb hby hct S_c hcz) (hw _ (List.mem_of_getElem? (i := 149) rfl)) (hw _ (List.mem_of_getElem? (i := 76) rfl)) (by decide) (W := 0) (by decide) rfl (argsL := []) pd_23 rfl d25_5 rfl (Nat.le_of_eq rfl) (by decide) (by decide) ?_
  rintro _ T2 h3 X2 ⟨rfl, eh3⟩
  rw [eh3] at X2
  show OG p e below s n0 room25.cells room25.slots (Q25 Z a sb vb ct k gv cz h0) (T2.setTop (mkF m 8 #[.val (.ref a), .val (.ref sb), .val .null, .unset, .unset] [(.ref vb)]))
  refine OG.astoreN X2 d25_8 (l' := #[.val (.ref a), .val (.ref sb), .val .null, .val (.ref vb), .unset]) rfl rfl ?_
  refine OG.aloadN X2 d25_9 rfl rfl ?_
  refine OG.callV X2 (hw _ (List.mem_of_getElem? (i := 150) rfl)) (hw _ (List.mem_of_getElem? (i := 151) rfl)) (notFaceSame (args := #[]) (y' := (⟨"java/lang/AbstractStringBuilder", "getValue", "()[B"⟩ : MethodName)) rfl (mvT X2.warm (hw _ (List.mem_of_getElem? (i := 146) rfl))) (notFace_of_selects (args := #[]) (mvT X2.warm (hw _ (List.mem_of_getElem? (i := 148) rfl))))) (hw _ (List.mem_of_getElem? (i := 153) rfl)) (hw _ (List.mem_of_getElem? (i := 154) rfl)) (by decide) E_sb (rm27 l Z a0 hw [] sb vb ct k gv cz h0 n0 E_sb Fv_sb Fc_sb Fn_sb A_vb hby hct S_c hcz) (hw _ (List.mem_of_getElem? (i := 155) rfl)) (hw _ (List.mem_of_getElem? (i := 68) rfl)) (by decide) (W := 0) (by decide) rfl (argsL := []) pd_17 rfl d25_10 rfl (Nat.le_of_eq rfl) (by decide) (by decide) ?_
  rintro _ T4 h5 X4 ⟨rfl, eh5⟩
  rw [eh5] at X4
  show OG p e below s n0 room25.cells room25.slots (Q25 Z a sb vb ct k gv cz h0) (T4.setTop (mkF m 13 #[.val (.ref a), .val (.ref sb), .val .null, .val (.ref vb), .unset] [(.int ct)]))
  refine OG.istore X4 d25_13 (l' := #[.val (.ref a), .val (.ref sb), .val .null, .val (.ref vb), .val (.int ct)]) rfl ?_
  refine OG.aloadN X4 d25_15 rfl rfl ?_
  refine OG.callV X4 (hw _ (List.mem_of_getElem? (i := 158) rfl)) (hw _ (List.mem_of_getElem? (i := 159) rfl)) (notFace_of_selects (args := #[]) (mvT X4.warm (hw _ (List.mem_of_getElem? (i := 161) rfl)))) (hw _ (List.mem_of_getElem? (i := 161) rfl)) (hw _ (List.mem_of_getElem? (i := 160) rfl)) (by decide) E_sb (rm29 l Z a0 hw [] sb vb ct k gv cz h0 n0 E_sb Fv_sb Fc_sb Fn_sb A_vb hby hct S_c hcz) (hw _ (List.mem_of_getElem? (i := 162) rfl)) (hw _ (List.mem_of_getElem? (i := 76) rfl)) (by decide) (W := 0) (by decide) rfl (argsL := []) pd_3 rfl d25_16 rfl (Nat.le_of_eq rfl) (by decide) (by decide) ?_
  rintro _ T6 h7 X6 ⟨rfl, eh7⟩
  rw [eh7] at X6
  show OG p e below s n0 room25.cells room25.slots (Q25 Z a sb vb ct k gv cz h0) (T6.setTop (mkF m 19 #[.val (.ref a), .val (.ref sb), .val .null, .val (.ref vb), .val (.int ct)] [(.int (1 : Int32))]))
  refine OG.if_eq_f X6 d25_19 (by decide) ?_
  refine OG.aloadN X6 d25_22 rfl rfl ?_
  refine OG.iconst X6 d25_23 (z := (0 : Int32)) rfl ?_
  refine OG.putFN X6 (hw _ (List.mem_of_getElem? (i := 28) rfl)) Via.refl F_coder_a E_a (Or.inr ⟨(hw _ (List.mem_of_getElem? (i := 29) rfl)), rfl, rfl⟩) (hw _ (List.mem_of_getElem? (i := 14) rfl)) (ty := .byte) (v' := .int (0 : Int32).toInt8.toInt32) (by decide) rfl (fits_nar_byte _) d25_24 g_a ?_
  intro T8 h9 X8 W10
  replace E_a := E_a.wr W10
  replace F_coder_a := F_coder_a.same W10
  replace F_value_a := F_value_a.other W10 (Or.inr (slot_ne (Or.inr (hw _ (List.mem_of_getElem? (i := 27) rfl))) (Or.inr (hw _ (List.mem_of_getElem? (i := 29) rfl))) (by decide) (t := (.array .byte)) (t' := .byte) (by decide) (by decide)))
  replace E_sb := E_sb.wr W10
  replace Fv_sb := Fv_sb.other W10 (Or.inl nsb)
  replace Fc_sb := Fc_sb.other W10 (Or.inl nsb)
  replace Fn_sb := Fn_sb.other W10 (Or.inl nsb)
  replace A_vb := A_vb.other W10 nva
  replace S_c := S_c.wr W10
  replace Z0 := Nat.le_trans Z0 (Keep.of_wr W10).1
  replace K0 := K0.wr W10 (Or.inl (by simp))
  refine OG.aloadN X8 d25_27 rfl rfl ?_
  refine OG.aloadN X8 d25_28 rfl rfl ?_
  refine OG.iconst X8 d25_29 (z := (0 : Int32)) rfl ?_
  refine OG.iload X8 d25_30 rfl ?_
  refine OG.callS X8 (hw _ (List.mem_of_getElem? (i := 163) rfl)) (hw _ (List.mem_of_getElem? (i := 164) rfl)) (by decide) (rm30 l Z a0 hw [] vb (0 : Int32) ct k gv h9 n0 A_vb hby rfl hct (by omega) Z0 (own_n16 hct hk)) (hw _ (List.mem_of_getElem? (i := 166) rfl)) (hw _ (List.mem_of_getElem? (i := 165) rfl)) (by decide) (W := 1) (by decide) rfl (argsL := [(.ref vb), (.int (0 : Int32)), (.int ct)]) pd_22 rfl d25_32 rfl (Nat.le_of_eq rfl) (by decide) (by decide) ?_
  rintro _ T11 h12 X11 ⟨rb, gr, rfl, hrb, K11, A_rb, hgr⟩
  have n_rb_a : rb ≠ a := Nat.ne_of_gt (Nat.lt_of_lt_of_le E_a.lt hrb)
  have n_rb_sb : rb ≠ sb := Nat.ne_of_gt (Nat.lt_of_lt_of_le E_sb.lt hrb)
  have ns_K11 : NSt h9 [] := NSt.nil
  replace E_a := E_a.keep K11
  replace F_coder_a := F_coder_a.keep K11 nin0
  replace F_value_a := F_value_a.keep K11 nin0
  replace E_sb := E_sb.keep K11
  replace Fv_sb := Fv_sb.keep K11 nin0
  replace Fc_sb := Fc_sb.keep K11 nin0
  replace Fn_sb := Fn_sb.keep K11 nin0
  replace A_vb := A_vb.keep K11 nin0
  replace S_c := S_c.keepN K11 ns_K11
  replace Z0 := Nat.le_trans Z0 K11.1
  replace K0 := K0.trans K11 (all0)
  show OG p e below s n0 room25.cells room25.slots (Q25 Z a sb vb ct k gv cz h0) (T11.setTop (mkF m 35 #[.val (.ref a), .val (.ref sb), .val .null, .val (.ref vb), .val (.int ct)] [(.ref rb), (.ref a)]))
  refine OG.putF X11 (host := "") (Or.inl (hw _ (List.mem_of_getElem? (i := 26) rfl))) Via.refl F_value_a E_a (Or.inr ⟨(hw _ (List.mem_of_getElem? (i := 27) rfl)), rfl, rfl⟩) (hw _ (List.mem_of_getElem? (i := 14) rfl)) (ty := (.array .byte)) (by decide) rfl rfl d25_35 g_a ?_
  intro T13 h14 X13 W15
  replace E_a := E_a.wr W15
  replace F_coder_a := F_coder_a.other W15 (Or.inr (slot_ne (Or.inr (hw _ (List.mem_of_getElem? (i := 29) rfl))) (Or.inr (hw _ (List.mem_of_getElem? (i := 27) rfl))) (by decide) (t := .byte) (t' := (.array .byte)) (by decide) (by decide)))
  replace F_value_a := F_value_a.same W15
  replace E_sb := E_sb.wr W15
  replace Fv_sb := Fv_sb.other W15 (Or.inl nsb)
  replace Fc_sb := Fc_sb.other W15 (Or.inl nsb)
  replace Fn_sb := Fn_sb.other W15 (Or.inl nsb)
  replace A_vb := A_vb.other W15 nva
  replace S_c := S_c.wr W15
  replace Z0 := Nat.le_trans Z0 (Keep.of_wr W15).1
  replace K0 := K0.wr W15 (Or.inl (by simp))
  replace A_rb := A_rb.other W15 n_rb_a
  refine OG.goto X13 d25_38 (pc' := 97) (by decide) ?_
  exact OG.retV X13 d25_97 (by decide) (by decide) ⟨rb, gr, rfl, K0, E_a, (by rw [own_b0] at F_coder_a; exact F_coder_a), F_value_a, A_rb, hgr⟩
theorem pn_24 : plainName "java/lang/String" = true := by first | (simp [plainName, overriddenIn]; done) | decide +kernel
theorem ef_24 (m : MethodId) (a : Addr) (sb : Addr) : entryFrame m #[(.ref a), (.ref sb)] 2 = mkF m 0 #[.val (.ref a), .val (.ref sb)] [] := by first | (simp [entryFrame, mkF, argsToLocals, Value.category]; done) | rfl
def Q24 (Z : State) (a : Addr) (sb : Addr) (vb : Addr) (ct : Int32) (k : Nat) (gv : Nat → Int32) (cz : Int32) (h0 : Heap) : Option Value → Heap → Prop := fun v h => ∃ (rb : Addr) (gr : Nat → Int32), v = none ∧ Keep h0 h [a] ∧ Exa Z h a "java/lang/String" ∧ Fld Z h a "java/lang/String" "coder" "B" (.int 0) ∧ Fld Z h a "java/lang/String" "value" "[B" (.ref rb) ∧ Ia Z h rb .byte k gr ∧ ∀ i, i < k → gr i = gv i
theorem d24_0 : decode jdk_42_method_53_code 0 = .ok (.aload_n 0, 1) := by decide +kernel
theorem d24_1 : decode jdk_42_method_53_code 1 = .ok (.aload_n 1, 1) := by decide +kernel
theorem d24_2 : decode jdk_42_method_53_code 2 = .ok (.aconst_null, 1) := by decide +kernel
theorem d24_3 : decode jdk_42_method_53_code 3 = .ok (.invokespecial 489, 3) := by decide +kernel
theorem pd_24 : parseMethodDescriptor "(Ljava/lang/AbstractStringBuilder;Ljava/lang/Void;)V" = some ⟨[(.object "java/lang/AbstractStringBuilder"), (.object "java/lang/Void")], none⟩ := by decide +kernel
theorem d24_6 : decode jdk_42_method_53_code 6 = .ok (.return_, 1) := by decide +kernel
abbrev room24 : Room := { frames := 4, cells := 1, slots := 16, locals := 65 }
set_option maxRecDepth 65536 in
set_option maxHeartbeats 40000000 in
theorem rm24 (l : Launch) (Z : State) (a0 : Array Value) (hw : ∀ d ∈ tables_1, d.before a0 Z = true) (ws : List Jvm.Cond) (a : Addr) (sb : Addr) (vb : Addr) (ct : Int32) (k : Nat) (gv : Nat → Int32) (cz : Int32) (h0 : Heap) (n0 : Nat) (E_a : Exa Z h0 a "java/lang/String") (F_coder_a : Fld Z h0 a "java/lang/String" "coder" "B" (.int 0)) (F_value_a : Fld Z h0 a "java/lang/String" "value" "[B" .null) (g_a : n0 ≤ a) (Z0 : n0 ≤ h0.size) (nsb : sb ≠ a) (nva : vb ≠ a) (hk : k ≤ 7) (E_sb : Exa Z h0 sb "java/lang/StringBuilder") (Fv_sb : Fld Z h0 sb "java/lang/AbstractStringBuilder" "value" "[B" (.ref vb)) (Fc_sb : Fld Z h0 sb "java/lang/AbstractStringBuilder" "coder" "B" (.int 0)) (Fn_sb : Fld Z h0 sb "java/lang/AbstractStringBuilder" "count" "I" (.int ct)) (A_vb : Ia Z h0 vb .byte 16 gv) (hby : BY 16 gv) (hct : ct.toInt = k) (S_c : Sta Z h0 "java/lang/String" "COMPACT_STRINGS" "Z" (.int cz)) (hcz : ¬ cz = 0) :
    OM l (⟨"java/lang/String", "<init>", "(Ljava/lang/StringBuilder;)V"⟩ : MethodName) jdk_42_method_53_code 2 none room24 ws Z #[(.ref a), (.ref sb)] h0 n0 (Q24 Z a sb vb ct k gv cz h0) := by
  refine OM.of (plainFor_of_name pn_24) (fun m => ef_24 m a sb) ?_
  intro p e s m below meth c T X
  refine OG.aloadN X d24_0 rfl rfl ?_
  refine OG.aloadN X d24_1 rfl rfl ?_
  refine OG.aconstNull X d24_2 ?_
  refine OG.callC X rfl (hw _ (List.mem_of_getElem? (i := 142) rfl)) (hw _ (List.mem_of_getElem? (i := 143) rfl)) (by decide) (rm25 l Z a0 hw [] a sb vb ct k gv cz h0 n0 E_a F_coder_a F_value_a g_a Z0 nsb nva hk E_sb Fv_sb Fc_sb Fn_sb A_vb hby hct S_c hcz) (hw _ (List.mem_of_getElem? (i := 144) rfl)) (hw _ (List.mem_of_getElem? (i := 6) rfl)) (by decide) (W := 0) (by decide) rfl (argsL := [(.ref sb), .null]) pd_24 rfl d24_3 rfl (Nat.le_of_eq rfl) (by decide) (by decide) ?_
  rintro _ T1 h2 X1 ⟨rb, gr, rfl, K1, E1, Fc1, Fv1, A1, hgr⟩
  show OG p e below s n0 room24.cells room24.slots (Q24 Z a sb vb ct k gv cz h0) (T1.setTop (mkF m 6 #[.val (.ref a), .val (.ref sb)] []))
  exact OG.retV X1 d24_6 (by decide) (by decide) ⟨rb, gr, rfl, K1, E1, Fc1, Fv1, A1, hgr⟩
theorem pn_23 : plainName "java/lang/StringBuilder" = true := by first | (simp [plainName, overriddenIn]; done) | decide +kernel
theorem ef_23 (m : MethodId) (a : Addr) : entryFrame m #[(.ref a)] 1 = mkF m 0 #[.val (.ref a)] [] := by first | (simp [entryFrame, mkF, argsToLocals, Value.category]; done) | rfl
def Q23 (Z : State) (a : Addr) (vb : Addr) (ct : Int32) (k : Nat) (gv : Nat → Int32) (cz : Int32) (h0 : Heap) : Option Value → Heap → Prop := fun v h => ∃ (ra rb : Addr) (gr : Nat → Int32), v = some (.ref ra) ∧ h0.size ≤ ra ∧ Keep h0 h [] ∧ Exa Z h ra "java/lang/String" ∧ Fld Z h ra "java/lang/String" "coder" "B" (.int 0) ∧ Fld Z h ra "java/lang/String" "value" "[B" (.ref rb) ∧ Ia Z h rb .byte k gr ∧ ∀ i, i < k → gr i = gv i
theorem d23_0 : decode jdk_67_method_42_code 0 = .ok (.new 18, 3) := by decide +kernel
theorem d23_3 : decode jdk_67_method_42_code 3 = .ok (.dup, 1) := by decide +kernel
theorem d23_4 : decode jdk_67_method_42_code 4 = .ok (.aload_n 0, 1) := by decide +kernel
theorem d23_5 : decode jdk_67_method_42_code 5 = .ok (.invokespecial 137, 3) := by decide +kernel
theorem pd_25 : parseMethodDescriptor "(Ljava/lang/StringBuilder;)V" = some ⟨[(.object "java/lang/StringBuilder")], none⟩ := by decide +kernel
theorem d23_8 : decode jdk_67_method_42_code 8 = .ok (.areturn, 1) := by decide +kernel
abbrev room23 : Room := { frames := 5, cells := 2, slots := 20, locals := 79 }
set_option maxRecDepth 65536 in
set_option maxHeartbeats 40000000 in
theorem rm23 (l : Launch) (Z : State) (a0 : Array Value) (hw : ∀ d ∈ tables_1, d.before a0 Z = true) (ws : List Jvm.Cond) (a : Addr) (vb : Addr) (ct : Int32) (k : Nat) (gv : Nat → Int32) (cz : Int32) (h0 : Heap) (n0 : Nat) (E_a : Exa Z h0 a "java/lang/StringBuilder") (Fv_a : Fld Z h0 a "java/lang/AbstractStringBuilder" "value" "[B" (.ref vb)) (Fc_a : Fld Z h0 a "java/lang/AbstractStringBuilder" "coder" "B" (.int 0)) (Fn_a : Fld Z h0 a "java/lang/AbstractStringBuilder" "count" "I" (.int ct)) (A_vb : Ia Z h0 vb .byte 16 gv) (hby : BY 16 gv) (hct : ct.toInt = k) (hk : k ≤ 7) (Z0 : n0 ≤ h0.size) (S_c : Sta Z h0 "java/lang/String" "COMPACT_STRINGS" "Z" (.int cz)) (hcz : ¬ cz = 0) :
    OM l (⟨"java/lang/StringBuilder", "toString", "()Ljava/lang/String;"⟩ : MethodName) jdk_67_method_42_code 1 (some (.object "java/lang/String")) room23 ws Z #[(.ref a)] h0 n0 (Q23 Z a vb ct k gv cz h0) := by
  refine OM.of (plainFor_of_name pn_23) (fun m => ef_23 m a) ?_
  intro p e s m below meth c T X
  have K0 : Keep h0 h0 [] := Keep.refl _ _
  refine OG.newO X (hw _ (List.mem_of_getElem? (i := 138) rfl)) (hw _ (List.mem_of_getElem? (i := 14) rfl)) (hw _ (List.mem_of_getElem? (i := 6) rfl)) d23_0 (by decide) (by decide) ?_
  intro T1 h2 b4 gb4 X1 E3 E_b4 D_b4
  have ne_a_b4 : a ≠ b4 := Nat.ne_of_lt (Nat.lt_of_lt_of_le E_a.lt (Nat.le_of_eq gb4.symm))
  have ne_vb_b4 : vb ≠ b4 := Nat.ne_of_lt (Nat.lt_of_lt_of_le A_vb.lt (Nat.le_of_eq gb4.symm))
  have g_b4 : n0 ≤ b4 := Nat.le_trans Z0 (Nat.le_of_eq gb4.symm)
  have sz_b4 : h0.size ≤ b4 := Nat.le_trans K0.1 (Nat.le_of_eq gb4.symm)
  replace E_a := E_a.ext E3
  replace Fv_a := Fv_a.ext E3
  replace Fc_a := Fc_a.ext E3
  replace Fn_a := Fn_a.ext E3
  replace A_vb := A_vb.ext E3
  replace S_c := S_c.ext E3
  replace Z0 := Nat.le_trans Z0 E3.1
  replace K0 := K0.ext E3
  have F_value_b4 : Fld Z h2 b4 "java/lang/String" "value" "[B" .null := D_b4 (Or.inr (hw _ (List.mem_of_getElem? (i := 27) rfl))) (ty := (.array .byte)) (by decide)
  have F_coder_b4 : Fld Z h2 b4 "java/lang/String" "coder" "B" (.int 0) := D_b4 (Or.inr (hw _ (List.mem_of_getElem? (i := 29) rfl))) (ty := .byte) (by decide)
  refine OG.dup X1 d23_3 rfl ?_
  refine OG.aloadN X1 d23_4 rfl rfl ?_
  refine OG.callC X1 rfl (hw _ (List.mem_of_getElem? (i := 139) rfl)) (hw _ (List.mem_of_getElem? (i := 140) rfl)) (by decide) (rm24 l Z a0 hw [] b4 a vb ct k gv cz h2 n0 E_b4 F_coder_b4 F_value_b4 g_b4 Z0 ne_a_b4 ne_vb_b4 hk E_a Fv_a Fc_a Fn_a A_vb hby hct S_c hcz) (hw _ (List.mem_of_getElem? (i := 141) rfl)) (hw _ (List.mem_of_getElem? (i := 6) rfl)) (by decide) (W := 1) (by decide) rfl (argsL := [(.ref a)]) pd_25 rfl d23_5 rfl (Nat.le_of_eq rfl) (by decide) (by decide) ?_
  rintro _ T5 h6 X5 ⟨rb, gr, rfl, K1, E1, Fc1, Fv1, A1, hgr⟩
  replace K0 := K0.trans K1 ((allS (Or.inr sz_b4) all0))
  show OG p e below s n0 room23.cells room23.slots (Q23 Z a vb ct k gv cz h0) (T5.setTop (mkF m 8 #[.val (.ref a)] [(.ref b4)]))
  exact OG.retA X5 d23_8 rfl rfl (by decide) (by decide) ⟨b4, rb, gr, rfl, sz_b4, K0, E1, Fc1, Fv1, A1, hgr⟩
theorem Ia.neSize {Z : State} {h : Heap} {a b : Addr} {ty ty' : FieldType} {n n' : Nat} {f f' : Nat → Int32} (F : Ia Z h a ty n f) (G : Ia Z h b ty' n' f') (hn : n ≠ n') : a ≠ b := fun q => by
  subst q
  obtain ⟨c, A, r1, -⟩ := F
  obtain ⟨c', A', r1', -⟩ := G
  have e : c = c' := Option.some.inj (A.1.symm.trans A'.1)
  subst e
  exact hn (r1.symm.trans r1')
theorem Exa.neIaB {Z : State} {h : Heap} {x b : Addr} {K : String} {n m : Nat} {f : Nat → Int32} {a0 : Array Value} (E : Exa Z h x K) (F : Ia Z h b .byte n f) (hF : BY n f) (w : (Cond.instantiable K m).before a0 Z = true) : x ≠ b := by
  obtain ⟨k, V⟩ := F.toArvB hF (z := n.toInt32) (len32 F.len)
  exact Exa.neArv E V w
def CK (n1 n2 : Nat) (g1 g2 g : Nat → Int32) : Prop := g 0 = 123 ∧ (∀ i, i < n1 → g (1 + i) = g1 i) ∧ g (1 + n1) = 125 ∧ ∀ i, i < n2 → g (2 + n1 + i) = g2 i
theorem own_ck {n1 n2 : Nat} {g1 g2 v1 v2 v3 v4 g : Nat → Int32} (e1 : v1 = AP (fun _ => 0) 0 1 (fun _ => 123)) (e2 : v2 = AP v1 (0 + 1) n1 g1) (e3 : v3 = AP v2 (0 + 1 + n1) 1 (fun _ => 125)) (e4 : v4 = AP v3 (0 + 1 + n1 + 1) n2 g2) (hg : ∀ i, i < 0 + 1 + n1 + 1 + n2 → g i = v4 i) : CK n1 n2 g1 g2 g := by
  subst e1 e2 e3 e4
  refine ⟨?_, fun i hi => ?_, ?_, fun i hi => ?_⟩
  · rw [hg 0 (by omega)]; simp only [AP]
    rw [if_neg (by omega), if_neg (by omega), if_neg (by omega), if_pos (by omega)]
  · rw [hg _ (by omega)]; simp only [AP]
    rw [if_neg (by omega), if_neg (by omega), if_pos (by omega)]; congr 1; omega
  · rw [hg _ (by omega)]; simp only [AP]
    rw [if_neg (by omega), if_pos (by omega)]
  · rw [hg _ (by omega)]; simp only [AP]
    rw [if_pos (by omega)]; congr 1; omega
theorem own_q1 (t : String) (x : Int32) (h : t.toList.map (fun c => Value.int (Jvm.Lit.byteI c.toNat.toUInt16)) = [.int x]) : ∀ i, i < 1 → (t.toList.map (fun c => Value.int (Jvm.Lit.byteI c.toNat.toUInt16))).getD i (.int 0) = .int x := by
  intro i hi
  obtain rfl : i = 0 := by omega
  rw [h]; rfl
theorem pn_12 : plainName "com/example/iron_lock/ironlock/model/LockKeys" = true := by first | (simp [plainName, overriddenIn]; done) | decide +kernel
theorem ef_12 (m : MethodId) (a : Addr) (sf : Addr) : entryFrame m #[(.ref a), (.ref sf)] 2 = mkF m 0 #[.val (.ref a), .val (.ref sf)] [] := by first | (simp [entryFrame, mkF, argsToLocals, Value.category]; done) | rfl
def Q12 (Z : State) (a : Addr) (sf : Addr) (na b1 b2 : Addr) (n1 n2 : Nat) (g1 g2 : Nat → Int32) (z1 z2 cz : Int32) (h0 : Heap) : Option Value → Heap → Prop := fun v h => ∃ (ra rb : Addr) (gr : Nat → Int32), v = some (.ref ra) ∧ Keep h0 h [] ∧ Exa Z h ra "java/lang/String" ∧ Fld Z h ra "java/lang/String" "coder" "B" (.int 0) ∧ Fld Z h ra "java/lang/String" "value" "[B" (.ref rb) ∧ Ia Z h rb .byte (0 + 1 + n1 + 1 + n2) gr ∧ CK n1 n2 g1 g2 gr
theorem d12_0 : decode prog_4_method_3_code 0 = .ok (.aload_n 1, 1) := by decide +kernel
theorem d12_1 : decode prog_4_method_3_code 1 = .ok (.ldc 33, 2) := by decide +kernel
theorem d12_3 : decode prog_4_method_3_code 3 = .ok (.invokestatic 9, 3) := by decide +kernel
theorem d12_6 : decode prog_4_method_3_code 6 = .ok (.pop, 1) := by decide +kernel
theorem d12_7 : decode prog_4_method_3_code 7 = .ok (.new 35, 3) := by decide +kernel
theorem d12_10 : decode prog_4_method_3_code 10 = .ok (.dup, 1) := by decide +kernel
theorem d12_11 : decode prog_4_method_3_code 11 = .ok (.invokespecial 37, 3) := by decide +kernel
theorem pd_26 : parseMethodDescriptor "()V" = some ⟨[], none⟩ := by decide +kernel
theorem d12_14 : decode prog_4_method_3_code 14 = .ok (.ldc 38, 2) := by decide +kernel
theorem d12_16 : decode prog_4_method_3_code 16 = .ok (.invokevirtual 40, 3) := by decide +kernel
theorem pd_27 : parseMethodDescriptor "(Ljava/lang/String;)Ljava/lang/StringBuilder;" = some ⟨[(.object "java/lang/String")], some (.object "java/lang/StringBuilder")⟩ := by decide +kernel
theorem d12_19 : decode prog_4_method_3_code 19 = .ok (.aload_n 0, 1) := by decide +kernel
theorem d12_20 : decode prog_4_method_3_code 20 = .ok (.getfield 28, 3) := by decide +kernel
theorem d12_23 : decode prog_4_method_3_code 23 = .ok (.invokevirtual 40, 3) := by decide +kernel
theorem d12_26 : decode prog_4_method_3_code 26 = .ok (.ldc 44, 2) := by decide +kernel
theorem d12_28 : decode prog_4_method_3_code 28 = .ok (.invokevirtual 40, 3) := by decide +kernel
theorem d12_31 : decode prog_4_method_3_code 31 = .ok (.aload_n 1, 1) := by decide +kernel
theorem d12_32 : decode prog_4_method_3_code 32 = .ok (.invokevirtual 40, 3) := by decide +kernel
theorem d12_35 : decode prog_4_method_3_code 35 = .ok (.invokevirtual 46, 3) := by decide +kernel
theorem pd_28 : parseMethodDescriptor "()Ljava/lang/String;" = some ⟨[], some (.object "java/lang/String")⟩ := by decide +kernel
theorem d12_38 : decode prog_4_method_3_code 38 = .ok (.areturn, 1) := by decide +kernel
abbrev room12 : Room := { frames := 6, cells := 10, slots := 84, locals := 91 }
set_option maxRecDepth 65536 in
set_option maxHeartbeats 40000000 in
theorem rm12 (l : Launch) (Z : State) (a0 : Array Value) (hw : ∀ d ∈ tables_1, d.before a0 Z = true) (ws : List Jvm.Cond) (a : Addr) (sf : Addr) (na b1 b2 : Addr) (n1 n2 : Nat) (g1 g2 : Nat → Int32) (z1 z2 cz : Int32) (h0 : Heap) (n0 : Nat) (E_a : Exa Z h0 a "com/example/iron_lock/ironlock/model/LockKeys") (F_name_a : Fld Z h0 a "com/example/iron_lock/ironlock/model/LockKeys" "name" "Ljava/lang/String;" (.ref na)) (E_na : Exa Z h0 na "java/lang/String") (Fc_na : Fld Z h0 na "java/lang/String" "coder" "B" (.int 0)) (Fv_na : Fld Z h0 na "java/lang/String" "value" "[B" (.ref b1)) (A_b1 : Ia Z h0 b1 .byte n1 g1) (hz1 : z1.toInt = n1) (hb1 : BY n1 g1) (E_sf : Exa Z h0 sf "java/lang/String") (Fc_sf : Fld Z h0 sf "java/lang/String" "coder" "B" (.int 0)) (Fv_sf : Fld Z h0 sf "java/lang/String" "value" "[B" (.ref b2)) (A_b2 : Ia Z h0 b2 .byte n2 g2) (hz2 : z2.toInt = n2) (hb2 : BY n2 g2) (hn : n1 + n2 ≤ 5) (hn0 : n0 = h0.size) (Kz : Keep Z.heap h0 []) (S_c : Sta Z h0 "java/lang/String" "COMPACT_STRINGS" "Z" (.int cz)) (hcz : ¬ cz = 0) (hheld1 : Jvm.Lit.constHeld Z "com/example/iron_lock/ironlock/model/LockKeys" 33) (hheld2 : Jvm.Lit.constHeld Z "com/example/iron_lock/ironlock/model/LockKeys" 38) (hheld3 : Jvm.Lit.constHeld Z "com/example/iron_lock/ironlock/model/LockKeys" 44) (hcw : Jvm.Lit.compactW.before a0 Z = true) :
    OMW ["name", ""] ["}", "{", "suffix", "name", ""] l (⟨"com/example/iron_lock/ironlock/model/LockKeys", "companionKey", "(Ljava/lang/String;)Ljava/lang/String;"⟩ : MethodName) prog_4_method_3_code 2 (some (.object "java/lang/String")) room12 ws Z #[(.ref a), (.ref sf)] h0 n0 (Q12 Z a sf na b1 b2 n1 n2 g1 g2 z1 z2 cz h0) := by
  refine OMW.of (plainFor_of_name pn_12) (fun m => ef_12 m a sf) ?_
  intro p e s m below meth c T X hI hH
  have X := X n0
  have K0 : Keep h0 h0 [] := Keep.refl _ _
  have Z0 : n0 ≤ h0.size := Nat.le_of_eq hn0
  refine OGW.aloadN X d12_0 rfl rfl ?_
  refine OGW.ldcS X (text := "suffix") (z := 6) (n := 24) (hw _ (List.mem_of_getElem? (i := 65) rfl)) (fun d hd => by simp only [Bundle.stringAtoms, List.mem_cons, List.not_mem_nil, or_false] at hd; rcases hd with rfl | rfl | rfl | rfl | rfl | rfl | rfl <;> first | exact (hw _ (List.mem_of_getElem? (i := 6) rfl)) | exact (hw _ (List.mem_of_getElem? (i := 14) rfl)) | exact (hw _ (List.mem_of_getElem? (i := 18) rfl)) | exact (hw _ (List.mem_of_getElem? (i := 27) rfl)) | exact (hw _ (List.mem_of_getElem? (i := 29) rfl)) | exact (hw _ (List.mem_of_getElem? (i := 39) rfl)) | exact (hw _ (List.mem_of_getElem? (i := 40) rfl))) (by rw [hH]; exact K0.1) (by rw [hH, hn0]; exact Nat.le_refl _) (Nat.le_refl _) (fun b cl q => by rw [hH]; exact Kz.2.1 b cl q (by simp)) hI (by decide) hheld1 hcw ⟨by decide, rfl⟩ (by decide) rfl d12_1 (by decide) (by decide) (by decide) (by decide) ?_
  intro ra1 rq1 Tl1 hl1 kl1 Xl1 El1 Er1 Fcr1 Fvr1 Vq1 Il1 Ll1
  replace hH : (s.setVm Tl1.vm).heap = h0 := hH
  generalize s.setVm Tl1.vm = s at Xl1 Il1 Ll1 hH ⊢
  replace E_a := E_a.ext El1
  replace F_name_a := F_name_a.ext El1
  replace E_na := E_na.ext El1
  replace Fc_na := Fc_na.ext El1
  replace Fv_na := Fv_na.ext El1
  replace A_b1 := A_b1.ext El1
  replace E_sf := E_sf.ext El1
  replace Fc_sf := Fc_sf.ext El1
  replace Fv_sf := Fv_sf.ext El1
  replace A_b2 := A_b2.ext El1
  replace S_c := S_c.ext El1
  replace Z0 := Nat.le_trans Z0 El1.1
  replace K0 := K0.ext El1
  have Zhl1 : hl1.size ≤ hl1.size := Nat.le_refl _
  refine OGW.callS Xl1 (hw _ (List.mem_of_getElem? (i := 49) rfl)) (hw _ (List.mem_of_getElem? (i := 50) rfl)) (by decide) (rm10 l Z a0 hw [] sf ra1 hl1 n0) (hw _ (List.mem_of_getElem? (i := 52) rfl)) (hw _ (List.mem_of_getElem? (i := 51) rfl)) (by decide) (W := 0) (by decide) rfl (argsL := [(.ref sf), (.ref ra1)]) pd_14 rfl d12_3 rfl (Nat.le_of_eq rfl) (by decide) (by decide) ?_
  rintro _ T101 h102 X101 ⟨rfl, eh102⟩
  rw [eh102] at X101
  show OGW Z ["}", "{", "suffix", "name", ""] p e below s n0 room12.cells room12.slots (fun v hh => (Q12 Z a sf na b1 b2 n1 n2 g1 g2 z1 z2 cz h0) v hh ∧ hl1.size ≤ hh.size) (T101.setTop (mkF m 6 #[.val (.ref a), .val (.ref sf)] [(.ref sf)]))
  refine OGW.pop X101 d12_6 rfl ?_
  refine OGW.newO X101 (hw _ (List.mem_of_getElem? (i := 66) rfl)) (hw _ (List.mem_of_getElem? (i := 67) rfl)) (hw _ (List.mem_of_getElem? (i := 68) rfl)) d12_7 (by decide) (by decide) ?_
  intro T103 h104 b106 gb106 X103 E105 E_b106 D_b106
  have ne_a_b106 : a ≠ b106 := Nat.ne_of_lt (Nat.lt_of_lt_of_le E_a.lt (Nat.le_of_eq gb106.symm))
  have ne_na_b106 : na ≠ b106 := Nat.ne_of_lt (Nat.lt_of_lt_of_le E_na.lt (Nat.le_of_eq gb106.symm))
  have ne_b1_b106 : b1 ≠ b106 := Nat.ne_of_lt (Nat.lt_of_lt_of_le A_b1.lt (Nat.le_of_eq gb106.symm))
  have ne_sf_b106 : sf ≠ b106 := Nat.ne_of_lt (Nat.lt_of_lt_of_le E_sf.lt (Nat.le_of_eq gb106.symm))
  have ne_b2_b106 : b2 ≠ b106 := Nat.ne_of_lt (Nat.lt_of_lt_of_le A_b2.lt (Nat.le_of_eq gb106.symm))
  have g_b106 : n0 ≤ b106 := Nat.le_trans Z0 (Nat.le_of_eq gb106.symm)
  have sz_b106 : h0.size ≤ b106 := Nat.le_trans K0.1 (Nat.le_of_eq gb106.symm)
  replace E_a := E_a.ext E105
  replace F_name_a := F_name_a.ext E105
  replace E_na := E_na.ext E105
  replace Fc_na := Fc_na.ext E105
  replace Fv_na := Fv_na.ext E105
  replace A_b1 := A_b1.ext E105
  replace E_sf := E_sf.ext E105
  replace Fc_sf := Fc_sf.ext E105
  replace Fv_sf := Fv_sf.ext E105
  replace A_b2 := A_b2.ext E105
  replace S_c := S_c.ext E105
  replace Z0 := Nat.le_trans Z0 E105.1
  replace K0 := K0.ext E105
  replace Zhl1 := Nat.le_trans Zhl1 E105.1
  have F_value_b106 : Fld Z h104 b106 "java/lang/AbstractStringBuilder" "value" "[B" .null := D_b106 (Or.inl (hw _ (List.mem_of_getElem? (i := 81) rfl))) (ty := (.array .byte)) (by decide)
  have F_coder_b106 : Fld Z h104 b106 "java/lang/AbstractStringBuilder" "coder" "B" (.int 0) := D_b106 (Or.inl (hw _ (List.mem_of_getElem? (i := 83) rfl))) (ty := .byte) (by decide)
  have F_count_b106 : Fld Z h104 b106 "java/lang/AbstractStringBuilder" "count" "I" (.int 0) := D_b106 (Or.inl (hw _ (List.mem_of_getElem? (i := 106) rfl))) (ty := .int) (by decide)
  refine OGW.dup X103 d12_10 rfl ?_
  refine OGW.callC X103 rfl (hw _ (List.mem_of_getElem? (i := 69) rfl)) (hw _ (List.mem_of_getElem? (i := 70) rfl)) (by decide) (rm13 l Z a0 hw [] b106 cz h104 n0 E_b106 F_value_b106 F_coder_b106 F_count_b106 g_b106 Z0 S_c hcz) (hw _ (List.mem_of_getElem? (i := 71) rfl)) (hw _ (List.mem_of_getElem? (i := 68) rfl)) (by decide) (W := 1) (by decide) rfl (argsL := []) pd_26 rfl d12_11 rfl (Nat.le_of_eq rfl) (by decide) (by decide) ?_
  rintro _ T107 h108 X107 ⟨vb, rfl, Kb, hvb, Eb, Fvb, Fcb, Fnb, Ab⟩
  have n_vb_a : vb ≠ a := Nat.ne_of_gt (Nat.lt_of_lt_of_le E_a.lt hvb)
  have n_vb_na : vb ≠ na := Nat.ne_of_gt (Nat.lt_of_lt_of_le E_na.lt hvb)
  have n_vb_b1 : vb ≠ b1 := Nat.ne_of_gt (Nat.lt_of_lt_of_le A_b1.lt hvb)
  have n_vb_sf : vb ≠ sf := Nat.ne_of_gt (Nat.lt_of_lt_of_le E_sf.lt hvb)
  have n_vb_b2 : vb ≠ b2 := Nat.ne_of_gt (Nat.lt_of_lt_of_le A_b2.lt hvb)
  have n_vb_b106 : vb ≠ b106 := Nat.ne_of_gt (Nat.lt_of_lt_of_le E_b106.lt hvb)
  have sz_vb : h0.size ≤ vb := Nat.le_trans K0.1 hvb
  have g_vb : n0 ≤ vb := Nat.le_trans Z0 hvb
  have ns_Kb := (NSt.cons E_b106.ns NSt.nil)
  replace E_a := E_a.keep Kb
  replace F_name_a := F_name_a.keep Kb (ninS ne_a_b106 nin0)
  replace E_na := E_na.keep Kb
  replace Fc_na := Fc_na.keep Kb (ninS ne_na_b106 nin0)
  replace Fv_na := Fv_na.keep Kb (ninS ne_na_b106 nin0)
  replace A_b1 := A_b1.keep Kb (ninS ne_b1_b106 nin0)
  replace E_sf := E_sf.keep Kb
  replace Fc_sf := Fc_sf.keep Kb (ninS ne_sf_b106 nin0)
  replace Fv_sf := Fv_sf.keep Kb (ninS ne_sf_b106 nin0)
  replace A_b2 := A_b2.keep Kb (ninS ne_b2_b106 nin0)
  replace S_c := S_c.keepN Kb ns_Kb
  replace Z0 := Nat.le_trans Z0 Kb.1
  replace K0 := K0.trans Kb ((allS (Or.inr sz_b106) all0))
  replace Zhl1 := Nat.le_trans Zhl1 Kb.1
  replace E_b106 := E_b106.keep Kb
  show OGW Z ["}", "{", "suffix", "name", ""] p e below s n0 room12.cells room12.slots (fun v hh => (Q12 Z a sf na b1 b2 n1 n2 g1 g2 z1 z2 cz h0) v hh ∧ hl1.size ≤ hh.size) (T107.setTop (mkF m 14 #[.val (.ref a), .val (.ref sf)] [(.ref b106)]))
  refine OGW.ldcS X107 (text := "{") (z := 1) (n := 4) (hw _ (List.mem_of_getElem? (i := 84) rfl)) (fun d hd => by simp only [Bundle.stringAtoms, List.mem_cons, List.not_mem_nil, or_false] at hd; rcases hd with rfl | rfl | rfl | rfl | rfl | rfl | rfl <;> first | exact (hw _ (List.mem_of_getElem? (i := 6) rfl)) | exact (hw _ (List.mem_of_getElem? (i := 14) rfl)) | exact (hw _ (List.mem_of_getElem? (i := 18) rfl)) | exact (hw _ (List.mem_of_getElem? (i := 27) rfl)) | exact (hw _ (List.mem_of_getElem? (i := 29) rfl)) | exact (hw _ (List.mem_of_getElem? (i := 39) rfl)) | exact (hw _ (List.mem_of_getElem? (i := 40) rfl))) (by rw [hH]; exact K0.1) (by rw [hH, hn0]; exact Nat.le_refl _) (Nat.le_refl _) (fun b cl q => by rw [hH]; exact Kz.2.1 b cl q (by simp)) Il1 (by decide) hheld2 hcw ⟨by decide, rfl⟩ (by decide) rfl d12_14 (by decide) (by decide) (by decide) (by decide) ?_
  intro ra2 rq2 Tl2 hl2 kl2 Xl2 El2 Er2 Fcr2 Fvr2 Vq2 Il2 Ll2
  replace hH : (s.setVm Tl2.vm).heap = h0 := hH
  generalize s.setVm Tl2.vm = s at Xl2 Il2 Ll2 hH ⊢
  replace E_a := E_a.ext El2
  replace F_name_a := F_name_a.ext El2
  replace E_na := E_na.ext El2
  replace Fc_na := Fc_na.ext El2
  replace Fv_na := Fv_na.ext El2
  replace A_b1 := A_b1.ext El2
  replace E_sf := E_sf.ext El2
  replace Fc_sf := Fc_sf.ext El2
  replace Fv_sf := Fv_sf.ext El2
  replace A_b2 := A_b2.ext El2
  replace S_c := S_c.ext El2
  replace Z0 := Nat.le_trans Z0 El2.1
  replace K0 := K0.ext El2
  replace Zhl1 := Nat.le_trans Zhl1 El2.1
  replace Eb := Eb.ext El2
  replace Fvb := Fvb.ext El2
  replace Fcb := Fcb.ext El2
  replace Fnb := Fnb.ext El2
  replace Ab := Ab.ext El2
  have Zhl2 : hl2.size ≤ hl2.size := Nat.le_refl _
  have A_rq2 : Ia Z hl2 rq2 .byte 1 (fun _ => 123) := Ia.ofArv Vq2 rfl (own_q1 "{" 123 rfl)
  have n_ra2_s : ra2 ≠ b106 := Exa.ne Er2 Eb (by decide)
  have n_rq2_s : rq2 ≠ b106 := Ne.symm (Exa.neArv Eb Vq2 (hw _ (List.mem_of_getElem? (i := 67) rfl)))
  have n_rq2_v : rq2 ≠ vb := Ia.neSize A_rq2 Ab (by decide)
  have n_ra2_v : ra2 ≠ vb := Exa.neIaB Er2 Ab (BY.z 16) (hw _ (List.mem_of_getElem? (i := 14) rfl))
  refine OGW.callV Xl2 (hw _ (List.mem_of_getElem? (i := 85) rfl)) (hw _ (List.mem_of_getElem? (i := 86) rfl)) (notFace_of_selects (args := #[]) (mvT Xl2.warm (hw _ (List.mem_of_getElem? (i := 88) rfl)))) (hw _ (List.mem_of_getElem? (i := 88) rfl)) (hw _ (List.mem_of_getElem? (i := 87) rfl)) (by decide) Eb (rm15 l Z a0 hw [] b106 ra2 vb (0 : Int32) 0 (fun _ => 0) rq2 1 (fun _ => 123) cz (1 : Int32) hl2 n0 Eb Fvb Fcb Fnb Ab (BY.z 16) rfl Er2 Fcr2 Fvr2 A_rq2 rfl (fun _ _ => (by decide : (123 : Int32).toInt8.toInt32 = 123)) (by omega) g_vb g_b106 n_vb_b106 n_ra2_s n_rq2_s n_rq2_v n_ra2_v S_c hcz) (hw _ (List.mem_of_getElem? (i := 89) rfl)) (hw _ (List.mem_of_getElem? (i := 68) rfl)) (by decide) (W := 0) (by decide) rfl (argsL := [(.ref ra2)]) pd_27 rfl d12_16 rfl (Nat.le_of_eq rfl) (by decide) (by decide) ?_
  rintro _ T201 h202 X201 ⟨rfl, Ka1, Eb1, Fvb1, Fcb1, Fn1, A1⟩
  have ns_Ka1 := (NSt.cons Eb.ns (NSt.cons Ab.ns NSt.nil))
  replace E_a := E_a.keep Ka1
  replace F_name_a := F_name_a.keep Ka1 (ninS ne_a_b106 (ninS (Ne.symm n_vb_a) nin0))
  replace E_na := E_na.keep Ka1
  replace Fc_na := Fc_na.keep Ka1 (ninS ne_na_b106 (ninS (Ne.symm n_vb_na) nin0))
  replace Fv_na := Fv_na.keep Ka1 (ninS ne_na_b106 (ninS (Ne.symm n_vb_na) nin0))
  replace A_b1 := A_b1.keep Ka1 (ninS ne_b1_b106 (ninS (Ne.symm n_vb_b1) nin0))
  replace E_sf := E_sf.keep Ka1
  replace Fc_sf := Fc_sf.keep Ka1 (ninS ne_sf_b106 (ninS (Ne.symm n_vb_sf) nin0))
  replace Fv_sf := Fv_sf.keep Ka1 (ninS ne_sf_b106 (ninS (Ne.symm n_vb_sf) nin0))
  replace A_b2 := A_b2.keep Ka1 (ninS ne_b2_b106 (ninS (Ne.symm n_vb_b2) nin0))
  replace S_c := S_c.keepN Ka1 ns_Ka1
  replace Z0 := Nat.le_trans Z0 Ka1.1
  replace K0 := K0.trans Ka1 ((allS (Or.inr sz_b106) (allS (Or.inr sz_vb) all0)))
  replace Zhl1 := Nat.le_trans Zhl1 Ka1.1
  replace Eb := Eb.keep Ka1
  replace Zhl2 := Nat.le_trans Zhl2 Ka1.1
  replace Er2 := Er2.keep Ka1
  replace Fcr2 := Fcr2.keep Ka1 (ninS n_ra2_s (ninS n_ra2_v nin0))
  replace Fvr2 := Fvr2.keep Ka1 (ninS n_ra2_s (ninS n_ra2_v nin0))
  replace A_rq2 := A_rq2.keep Ka1 (ninS n_rq2_s (ninS n_rq2_v nin0))
  obtain ⟨ct1, hct1, Fnb1⟩ : ∃ c_ : Int32, c_.toInt = ((0 + 1) : Nat) ∧ Fld Z h202 b106 "java/lang/AbstractStringBuilder" "count" "I" (.int c_) := ⟨_, own_cs (ct := (0 : Int32)) (k := 0) (z := (1 : Int32)) (n := 1) rfl rfl (by omega), Fn1⟩
  obtain ⟨gv1, hgv1, Ab1, hby1⟩ : ∃ gv_ : Nat → Int32, gv_ = AP (fun _ => 0) 0 1 (fun _ => 123) ∧ Ia Z h202 vb .byte 16 gv_ ∧ BY 16 gv_ := ⟨_, rfl, A1, BY.ap (BY.z 16) (fun _ _ => (by decide : (123 : Int32).toInt8.toInt32 = 123))⟩
  show OGW Z ["}", "{", "suffix", "name", ""] p e below s n0 room12.cells room12.slots (fun v hh => (fun v hh => (Q12 Z a sf na b1 b2 n1 n2 g1 g2 z1 z2 cz h0) v hh ∧ hl1.size ≤ hh.size) v hh ∧ hl2.size ≤ hh.size) (T201.setTop (mkF m 19 #[.val (.ref a), .val (.ref sf)] [(.ref b106)]))
  refine OGW.aloadN X201 d12_19 rfl rfl ?_
  refine OGW.getF X201 (host := "") (Or.inl (hw _ (List.mem_of_getElem? (i := 58) rfl))) Via.refl F_name_a d12_20 ?_
  intro T203 X203
  refine OGW.callV X203 (hw _ (List.mem_of_getElem? (i := 85) rfl)) (hw _ (List.mem_of_getElem? (i := 86) rfl)) (notFace_of_selects (args := #[]) (mvT X203.warm (hw _ (List.mem_of_getElem? (i := 88) rfl)))) (hw _ (List.mem_of_getElem? (i := 88) rfl)) (hw _ (List.mem_of_getElem? (i := 87) rfl)) (by decide) Eb1 (rm15 l Z a0 hw [] b106 na vb ct1 (0 + 1) gv1 b1 n1 g1 cz z1 h202 n0 Eb1 Fvb1 Fcb1 Fnb1 Ab1 hby1 hct1 E_na Fc_na Fv_na A_b1 hz1 hb1 (by omega) g_vb g_b106 n_vb_b106 ne_na_b106 ne_b1_b106 (Ne.symm n_vb_b1) (Ne.symm n_vb_na) S_c hcz) (hw _ (List.mem_of_getElem? (i := 89) rfl)) (hw _ (List.mem_of_getElem? (i := 68) rfl)) (by decide) (W := 0) (by decide) rfl (argsL := [(.ref na)]) pd_27 rfl d12_23 rfl (Nat.le_of_eq rfl) (by decide) (by decide) ?_
  rintro _ T204 h205 X204 ⟨rfl, Ka2, Eb2, Fvb2, Fcb2, Fn2, A2⟩
  have ns_Ka2 := (NSt.cons Eb1.ns (NSt.cons Ab1.ns NSt.nil))
  replace E_a := E_a.keep Ka2
  replace F_name_a := F_name_a.keep Ka2 (ninS ne_a_b106 (ninS (Ne.symm n_vb_a) nin0))
  replace E_na := E_na.keep Ka2
  replace Fc_na := Fc_na.keep Ka2 (ninS ne_na_b106 (ninS (Ne.symm n_vb_na) nin0))
  replace Fv_na := Fv_na.keep Ka2 (ninS ne_na_b106 (ninS (Ne.symm n_vb_na) nin0))
  replace A_b1 := A_b1.keep Ka2 (ninS ne_b1_b106 (ninS (Ne.symm n_vb_b1) nin0))
  replace E_sf := E_sf.keep Ka2
  replace Fc_sf := Fc_sf.keep Ka2 (ninS ne_sf_b106 (ninS (Ne.symm n_vb_sf) nin0))
  replace Fv_sf := Fv_sf.keep Ka2 (ninS ne_sf_b106 (ninS (Ne.symm n_vb_sf) nin0))
  replace A_b2 := A_b2.keep Ka2 (ninS ne_b2_b106 (ninS (Ne.symm n_vb_b2) nin0))
  replace S_c := S_c.keepN Ka2 ns_Ka2
  replace Z0 := Nat.le_trans Z0 Ka2.1
  replace K0 := K0.trans Ka2 ((allS (Or.inr sz_b106) (allS (Or.inr sz_vb) all0)))
  replace Zhl1 := Nat.le_trans Zhl1 Ka2.1
  replace Eb1 := Eb1.keep Ka2
  replace Zhl2 := Nat.le_trans Zhl2 Ka2.1
  replace Er2 := Er2.keep Ka2
  replace Fcr2 := Fcr2.keep Ka2 (ninS n_ra2_s (ninS n_ra2_v nin0))
  replace Fvr2 := Fvr2.keep Ka2 (ninS n_ra2_s (ninS n_ra2_v nin0))
  replace A_rq2 := A_rq2.keep Ka2 (ninS n_rq2_s (ninS n_rq2_v nin0))
  obtain ⟨ct2, hct2, Fnb2⟩ : ∃ c_ : Int32, c_.toInt = (((0 + 1) + n1) : Nat) ∧ Fld Z h205 b106 "java/lang/AbstractStringBuilder" "count" "I" (.int c_) := ⟨_, own_cs (ct := ct1) (k := (0 + 1)) (z := z1) (n := n1) hct1 hz1 (by omega), Fn2⟩
  obtain ⟨gv2, hgv2, Ab2, hby2⟩ : ∃ gv_ : Nat → Int32, gv_ = AP gv1 (0 + 1) n1 g1 ∧ Ia Z h205 vb .byte 16 gv_ ∧ BY 16 gv_ := ⟨_, rfl, A2, BY.ap hby1 hb1⟩
  show OGW Z ["}", "{", "suffix", "name", ""] p e below s n0 room12.cells room12.slots (fun v hh => (fun v hh => (Q12 Z a sf na b1 b2 n1 n2 g1 g2 z1 z2 cz h0) v hh ∧ hl1.size ≤ hh.size) v hh ∧ hl2.size ≤ hh.size) (T204.setTop (mkF m 26 #[.val (.ref a), .val (.ref sf)] [(.ref b106)]))
  refine OGW.ldcS X204 (text := "}") (z := 1) (n := 4) (hw _ (List.mem_of_getElem? (i := 132) rfl)) (fun d hd => by simp only [Bundle.stringAtoms, List.mem_cons, List.not_mem_nil, or_false] at hd; rcases hd with rfl | rfl | rfl | rfl | rfl | rfl | rfl <;> first | exact (hw _ (List.mem_of_getElem? (i := 6) rfl)) | exact (hw _ (List.mem_of_getElem? (i := 14) rfl)) | exact (hw _ (List.mem_of_getElem? (i := 18) rfl)) | exact (hw _ (List.mem_of_getElem? (i := 27) rfl)) | exact (hw _ (List.mem_of_getElem? (i := 29) rfl)) | exact (hw _ (List.mem_of_getElem? (i := 39) rfl)) | exact (hw _ (List.mem_of_getElem? (i := 40) rfl))) (by rw [hH]; exact K0.1) (by rw [hH, hn0]; exact Nat.le_refl _) (Nat.le_refl _) (fun b cl q => by rw [hH]; exact Kz.2.1 b cl q (by simp)) Il2 (by decide) hheld3 hcw ⟨by decide, rfl⟩ (by decide) rfl d12_26 (by decide) (by decide) (by decide) (by decide) ?_
  intro ra3 rq3 Tl3 hl3 kl3 Xl3 El3 Er3 Fcr3 Fvr3 Vq3 Il3 Ll3
  replace hH : (s.setVm Tl3.vm).heap = h0 := hH
  generalize s.setVm Tl3.vm = s at Xl3 Il3 Ll3 hH ⊢
  replace E_a := E_a.ext El3
  replace F_name_a := F_name_a.ext El3
  replace E_na := E_na.ext El3
  replace Fc_na := Fc_na.ext El3
  replace Fv_na := Fv_na.ext El3
  replace A_b1 := A_b1.ext El3
  replace E_sf := E_sf.ext El3
  replace Fc_sf := Fc_sf.ext El3
  replace Fv_sf := Fv_sf.ext El3
  replace A_b2 := A_b2.ext El3
  replace S_c := S_c.ext El3
  replace Z0 := Nat.le_trans Z0 El3.1
  replace K0 := K0.ext El3
  replace Zhl1 := Nat.le_trans Zhl1 El3.1
  replace Eb2 := Eb2.ext El3
  replace Zhl2 := Nat.le_trans Zhl2 El3.1
  replace Er2 := Er2.ext El3
  replace Fcr2 := Fcr2.ext El3
  replace Fvr2 := Fvr2.ext El3
  replace A_rq2 := A_rq2.ext El3
  replace Fvb2 := Fvb2.ext El3
  replace Fcb2 := Fcb2.ext El3
  replace Fnb2 := Fnb2.ext El3
  replace Ab2 := Ab2.ext El3
  have Zhl3 : hl3.size ≤ hl3.size := Nat.le_refl _
  have A_rq3 : Ia Z hl3 rq3 .byte 1 (fun _ => 125) := Ia.ofArv Vq3 rfl (own_q1 "}" 125 rfl)
  have n_ra3_s : ra3 ≠ b106 := Exa.ne Er3 Eb2 (by decide)
  have n_rq3_s : rq3 ≠ b106 := Ne.symm (Exa.neArv Eb2 Vq3 (hw _ (List.mem_of_getElem? (i := 67) rfl)))
  have n_rq3_v : rq3 ≠ vb := Ia.neSize A_rq3 Ab2 (by decide)
  have n_ra3_v : ra3 ≠ vb := Exa.neIaB Er3 Ab2 hby2 (hw _ (List.mem_of_getElem? (i := 14) rfl))
  refine OGW.callV Xl3 (hw _ (List.mem_of_getElem? (i := 85) rfl)) (hw _ (List.mem_of_getElem? (i := 86) rfl)) (notFace_of_selects (args := #[]) (mvT Xl3.warm (hw _ (List.mem_of_getElem? (i := 88) rfl)))) (hw _ (List.mem_of_getElem? (i := 88) rfl)) (hw _ (List.mem_of_getElem? (i := 87) rfl)) (by decide) Eb2 (rm15 l Z a0 hw [] b106 ra3 vb ct2 ((0 + 1) + n1) gv2 rq3 1 (fun _ => 125) cz (1 : Int32) hl3 n0 Eb2 Fvb2 Fcb2 Fnb2 Ab2 hby2 hct2 Er3 Fcr3 Fvr3 A_rq3 rfl (fun _ _ => (by decide : (125 : Int32).toInt8.toInt32 = 125)) (by omega) g_vb g_b106 n_vb_b106 n_ra3_s n_rq3_s n_rq3_v n_ra3_v S_c hcz) (hw _ (List.mem_of_getElem? (i := 89) rfl)) (hw _ (List.mem_of_getElem? (i := 68) rfl)) (by decide) (W := 0) (by decide) rfl (argsL := [(.ref ra3)]) pd_27 rfl d12_28 rfl (Nat.le_of_eq rfl) (by decide) (by decide) ?_
  rintro _ T301 h302 X301 ⟨rfl, Ka3, Eb3, Fvb3, Fcb3, Fn3, A3⟩
  have ns_Ka3 := (NSt.cons Eb2.ns (NSt.cons Ab2.ns NSt.nil))
  replace E_a := E_a.keep Ka3
  replace F_name_a := F_name_a.keep Ka3 (ninS ne_a_b106 (ninS (Ne.symm n_vb_a) nin0))
  replace E_na := E_na.keep Ka3
  replace Fc_na := Fc_na.keep Ka3 (ninS ne_na_b106 (ninS (Ne.symm n_vb_na) nin0))
  replace Fv_na := Fv_na.keep Ka3 (ninS ne_na_b106 (ninS (Ne.symm n_vb_na) nin0))
  replace A_b1 := A_b1.keep Ka3 (ninS ne_b1_b106 (ninS (Ne.symm n_vb_b1) nin0))
  replace E_sf := E_sf.keep Ka3
  replace Fc_sf := Fc_sf.keep Ka3 (ninS ne_sf_b106 (ninS (Ne.symm n_vb_sf) nin0))
  replace Fv_sf := Fv_sf.keep Ka3 (ninS ne_sf_b106 (ninS (Ne.symm n_vb_sf) nin0))
  replace A_b2 := A_b2.keep Ka3 (ninS ne_b2_b106 (ninS (Ne.symm n_vb_b2) nin0))
  replace S_c := S_c.keepN Ka3 ns_Ka3
  replace Z0 := Nat.le_trans Z0 Ka3.1
  replace K0 := K0.trans Ka3 ((allS (Or.inr sz_b106) (allS (Or.inr sz_vb) all0)))
  replace Zhl1 := Nat.le_trans Zhl1 Ka3.1
  replace Eb2 := Eb2.keep Ka3
  replace Zhl2 := Nat.le_trans Zhl2 Ka3.1
  replace Er2 := Er2.keep Ka3
  replace Fcr2 := Fcr2.keep Ka3 (ninS n_ra2_s (ninS n_ra2_v nin0))
  replace Fvr2 := Fvr2.keep Ka3 (ninS n_ra2_s (ninS n_ra2_v nin0))
  replace A_rq2 := A_rq2.keep Ka3 (ninS n_rq2_s (ninS n_rq2_v nin0))
  replace Zhl3 := Nat.le_trans Zhl3 Ka3.1
  replace Er3 := Er3.keep Ka3
  replace Fcr3 := Fcr3.keep Ka3 (ninS n_ra3_s (ninS n_ra3_v nin0))
  replace Fvr3 := Fvr3.keep Ka3 (ninS n_ra3_s (ninS n_ra3_v nin0))
  replace A_rq3 := A_rq3.keep Ka3 (ninS n_rq3_s (ninS n_rq3_v nin0))
  obtain ⟨ct3, hct3, Fnb3⟩ : ∃ c_ : Int32, c_.toInt = ((((0 + 1) + n1) + 1) : Nat) ∧ Fld Z h302 b106 "java/lang/AbstractStringBuilder" "count" "I" (.int c_) := ⟨_, own_cs (ct := ct2) (k := ((0 + 1) + n1)) (z := (1 : Int32)) (n := 1) hct2 rfl (by omega), Fn3⟩
  obtain ⟨gv3, hgv3, Ab3, hby3⟩ : ∃ gv_ : Nat → Int32, gv_ = AP gv2 ((0 + 1) + n1) 1 (fun _ => 125) ∧ Ia Z h302 vb .byte 16 gv_ ∧ BY 16 gv_ := ⟨_, rfl, A3, BY.ap hby2 (fun _ _ => (by decide : (125 : Int32).toInt8.toInt32 = 125))⟩
  show OGW Z ["}", "{", "suffix", "name", ""] p e below s n0 room12.cells room12.slots (fun v hh => (fun v hh => (fun v hh => (Q12 Z a sf na b1 b2 n1 n2 g1 g2 z1 z2 cz h0) v hh ∧ hl1.size ≤ hh.size) v hh ∧ hl2.size ≤ hh.size) v hh ∧ hl3.size ≤ hh.size) (T301.setTop (mkF m 31 #[.val (.ref a), .val (.ref sf)] [(.ref b106)]))
  refine OGW.aloadN X301 d12_31 rfl rfl ?_
  refine OGW.callV X301 (hw _ (List.mem_of_getElem? (i := 85) rfl)) (hw _ (List.mem_of_getElem? (i := 86) rfl)) (notFace_of_selects (args := #[]) (mvT X301.warm (hw _ (List.mem_of_getElem? (i := 88) rfl)))) (hw _ (List.mem_of_getElem? (i := 88) rfl)) (hw _ (List.mem_of_getElem? (i := 87) rfl)) (by decide) Eb3 (rm15 l Z a0 hw [] b106 sf vb ct3 (((0 + 1) + n1) + 1) gv3 b2 n2 g2 cz z2 h302 n0 Eb3 Fvb3 Fcb3 Fnb3 Ab3 hby3 hct3 E_sf Fc_sf Fv_sf A_b2 hz2 hb2 (by omega) g_vb g_b106 n_vb_b106 ne_sf_b106 ne_b2_b106 (Ne.symm n_vb_b2) (Ne.symm n_vb_sf) S_c hcz) (hw _ (List.mem_of_getElem? (i := 89) rfl)) (hw _ (List.mem_of_getElem? (i := 68) rfl)) (by decide) (W := 0) (by decide) rfl (argsL := [(.ref sf)]) pd_27 rfl d12_32 rfl (Nat.le_of_eq rfl) (by decide) (by decide) ?_
  rintro _ T303 h304 X303 ⟨rfl, Ka4, Eb4, Fvb4, Fcb4, Fn4, A4⟩
  have ns_Ka4 := (NSt.cons Eb3.ns (NSt.cons Ab3.ns NSt.nil))
  replace E_a := E_a.keep Ka4
  replace F_name_a := F_name_a.keep Ka4 (ninS ne_a_b106 (ninS (Ne.symm n_vb_a) nin0))
  replace E_na := E_na.keep Ka4
  replace Fc_na := Fc_na.keep Ka4 (ninS ne_na_b106 (ninS (Ne.symm n_vb_na) nin0))
  replace Fv_na := Fv_na.keep Ka4 (ninS ne_na_b106 (ninS (Ne.symm n_vb_na) nin0))
  replace A_b1 := A_b1.keep Ka4 (ninS ne_b1_b106 (ninS (Ne.symm n_vb_b1) nin0))
  replace E_sf := E_sf.keep Ka4
  replace Fc_sf := Fc_sf.keep Ka4 (ninS ne_sf_b106 (ninS (Ne.symm n_vb_sf) nin0))
  replace Fv_sf := Fv_sf.keep Ka4 (ninS ne_sf_b106 (ninS (Ne.symm n_vb_sf) nin0))
  replace A_b2 := A_b2.keep Ka4 (ninS ne_b2_b106 (ninS (Ne.symm n_vb_b2) nin0))
  replace S_c := S_c.keepN Ka4 ns_Ka4
  replace Z0 := Nat.le_trans Z0 Ka4.1
  replace K0 := K0.trans Ka4 ((allS (Or.inr sz_b106) (allS (Or.inr sz_vb) all0)))
  replace Zhl1 := Nat.le_trans Zhl1 Ka4.1
  replace Eb3 := Eb3.keep Ka4
  replace Zhl2 := Nat.le_trans Zhl2 Ka4.1
  replace Er2 := Er2.keep Ka4
  replace Fcr2 := Fcr2.keep Ka4 (ninS n_ra2_s (ninS n_ra2_v nin0))
  replace Fvr2 := Fvr2.keep Ka4 (ninS n_ra2_s (ninS n_ra2_v nin0))
  replace A_rq2 := A_rq2.keep Ka4 (ninS n_rq2_s (ninS n_rq2_v nin0))
  replace Zhl3 := Nat.le_trans Zhl3 Ka4.1
  replace Er3 := Er3.keep Ka4
  replace Fcr3 := Fcr3.keep Ka4 (ninS n_ra3_s (ninS n_ra3_v nin0))
  replace Fvr3 := Fvr3.keep Ka4 (ninS n_ra3_s (ninS n_ra3_v nin0))
  replace A_rq3 := A_rq3.keep Ka4 (ninS n_rq3_s (ninS n_rq3_v nin0))
  obtain ⟨ct4, hct4, Fnb4⟩ : ∃ c_ : Int32, c_.toInt = (((((0 + 1) + n1) + 1) + n2) : Nat) ∧ Fld Z h304 b106 "java/lang/AbstractStringBuilder" "count" "I" (.int c_) := ⟨_, own_cs (ct := ct3) (k := (((0 + 1) + n1) + 1)) (z := z2) (n := n2) hct3 hz2 (by omega), Fn4⟩
  obtain ⟨gv4, hgv4, Ab4, hby4⟩ : ∃ gv_ : Nat → Int32, gv_ = AP gv3 (((0 + 1) + n1) + 1) n2 g2 ∧ Ia Z h304 vb .byte 16 gv_ ∧ BY 16 gv_ := ⟨_, rfl, A4, BY.ap hby3 hb2⟩
  show OGW Z ["}", "{", "suffix", "name", ""] p e below s n0 room12.cells room12.slots (fun v hh => (fun v hh => (fun v hh => (Q12 Z a sf na b1 b2 n1 n2 g1 g2 z1 z2 cz h0) v hh ∧ hl1.size ≤ hh.size) v hh ∧ hl2.size ≤ hh.size) v hh ∧ hl3.size ≤ hh.size) (T303.setTop (mkF m 35 #[.val (.ref a), .val (.ref sf)] [(.ref b106)]))
  refine OGW.callV X303 (hw _ (List.mem_of_getElem? (i := 133) rfl)) (hw _ (List.mem_of_getElem? (i := 134) rfl)) (notFace_of_selects (args := #[]) (mvT X303.warm (hw _ (List.mem_of_getElem? (i := 136) rfl)))) (hw _ (List.mem_of_getElem? (i := 136) rfl)) (hw _ (List.mem_of_getElem? (i := 135) rfl)) (by decide) Eb4 (rm23 l Z a0 hw [] b106 vb ct4 ((((0 + 1) + n1) + 1) + n2) gv4 cz h304 n0 Eb4 Fvb4 Fcb4 Fnb4 Ab4 hby4 hct4 (by omega) Z0 S_c hcz) (hw _ (List.mem_of_getElem? (i := 137) rfl)) (hw _ (List.mem_of_getElem? (i := 68) rfl)) (by decide) (W := 0) (by decide) rfl (argsL := []) pd_28 rfl d12_35 rfl (Nat.le_of_eq rfl) (by decide) (by decide) ?_
  rintro _ T305 h306 X305 ⟨rs_, rb, gr, rfl, hrs, Kt, Et, Fct, Fvt, At, hgr⟩
  replace Z0 := Nat.le_trans Z0 Kt.1
  replace K0 := K0.trans Kt (all0)
  replace Zhl1 := Nat.le_trans Zhl1 Kt.1
  replace Zhl2 := Nat.le_trans Zhl2 Kt.1
  replace Zhl3 := Nat.le_trans Zhl3 Kt.1
  show OGW Z ["}", "{", "suffix", "name", ""] p e below s n0 room12.cells room12.slots (fun v hh => (fun v hh => (fun v hh => (Q12 Z a sf na b1 b2 n1 n2 g1 g2 z1 z2 cz h0) v hh ∧ hl1.size ≤ hh.size) v hh ∧ hl2.size ≤ hh.size) v hh ∧ hl3.size ≤ hh.size) (T305.setTop (mkF m 38 #[.val (.ref a), .val (.ref sf)] [(.ref rs_)]))
  exact OGW.retA X305 d12_38 rfl rfl (by decide) (by decide) Il3 ⟨⟨⟨⟨rs_, rb, gr, rfl, K0, Et, Fct, Fvt, At, own_ck hgv1 hgv2 hgv3 hgv4 hgr⟩, Zhl1⟩, Zhl2⟩, Zhl3⟩
def FT (n1 : Nat) (f1 f2 : Nat → Int32) : Nat → Int32 := fun i => if i = 0 then 123 else if i < 1 + n1 then f1 (i - 1) else if i = 1 + n1 then 125 else f2 (i - (2 + n1))
theorem own_tot {n1 n2 : Nat} {f1 f2 g1 g2 g : Nat → Int32} (h : CK n1 n2 g1 g2 g) (h1 : L1 n1 f1 g1) (h2 : L1 n2 f2 g2) : L1 (0 + 1 + n1 + 1 + n2) (FT n1 f1 f2) g := by
  obtain ⟨a1, a2, a3, a4⟩ := h
  intro i hi
  unfold FT
  by_cases q0 : i = 0
  · subst q0; rw [if_pos rfl, a1]; decide
  · rw [if_neg q0]
    by_cases q1 : i < 1 + n1
    · rw [if_pos q1]
      have e : i = 1 + (i - 1) := by omega
      have r := h1 (i - 1) (by omega)
      exact ⟨r.1, by rw [← r.2, ← a2 (i - 1) (by omega), ← e]⟩
    · rw [if_neg q1]
      by_cases q2 : i = 1 + n1
      · rw [if_pos q2, q2, a3]; decide
      · rw [if_neg q2]
        have e : i = 2 + n1 + (i - (2 + n1)) := by omega
        have r := h2 (i - (2 + n1)) (by omega)
        exact ⟨r.1, by rw [← r.2, ← a4 (i - (2 + n1)) (by omega), ← e]⟩
theorem own_ib {sl : Int32} : ∀ t ∈ (if sl = 0 then "" :: ([] : List String) else []), t ∈ [""] := by
  intro t ht
  split at ht
  · exact ht
  · cases ht
theorem own_chr {x q : Int32} (h : q = (x &&& 255).toUInt32.toUInt16.toUInt32.toInt32) : 0 ≤ q.toInt ∧ q.toInt ≤ 255 := by
  have h1 := c_and x 255 (by decide)
  have h2 := c_i2c (x &&& 255)
  have e : (255 : Int32).toInt = 255 := rfl
  rw [← h] at h2
  omega
theorem own_rem3 (x : Int32) : 0 ≤ ((x &&& 3) % 3).toInt ∧ ((x &&& 3) % 3).toInt ≤ 2 := by
  have h1 := c_and x 3 (by decide)
  have h2 := c_irem (x &&& 3) 3 3 rfl
  omega
theorem own_nl {x n : Int32} (h : n = 1 + (x &&& 3) % 3) : 1 ≤ n.toInt ∧ n.toInt ≤ 3 := by
  have h1 := own_rem3 x
  have h2 := c_iadd 1 ((x &&& 3) % 3)
  have h3 := rng32 (1 + (x &&& 3) % 3)
  have e : (1 : Int32).toInt = 1 := rfl
  subst h
  omega
theorem own_add1 {n : Int32} (h : 1 ≤ n.toInt ∧ n.toInt ≤ 3) (k : Int32) (hk : 0 ≤ k.toInt ∧ k.toInt ≤ 9) : (n + k).toInt = n.toInt + k.toInt := by
  have h2 := c_iadd n k
  have h3 := rng32 (n + k)
  omega
theorem own_len {nl sl tz : Int32} (h1 : 1 ≤ nl.toInt ∧ nl.toInt ≤ 3) (h2 : 0 ≤ sl.toInt ∧ sl.toInt ≤ 2) (ht : tz.toInt = (0 + 1 + nl.toInt.toNat + 1 + sl.toInt.toNat : Nat)) : tz = nl + sl + 2 := by
  rw [← Int32.toInt_inj]
  have a1 := own_add1 h1 sl (by omega)
  have a2 := c_iadd (nl + sl) 2
  have a3 := rng32 (nl + sl + 2)
  have e : (2 : Int32).toInt = 2 := rfl
  omega
theorem own_k2 {nl : Int32} {k : Int32} (h : ¬ nl < k) : k.toInt ≤ nl.toInt := by rw [Int32.lt_iff_toInt_lt] at h; omega
theorem own_g1 {n : Nat} {f1 f2 : Nat → Int32} {j : Nat} (hj : 1 ≤ j) (hn : j ≤ n) : FT n f1 f2 j = f1 (j - 1) := by
  unfold FT; rw [if_neg (by omega), if_pos (by omega)]
theorem own_g2 {n : Nat} {f1 f2 : Nat → Int32} {j : Nat} (hj : j = 1 + n) : FT n f1 f2 j = 125 := by
  unfold FT; rw [if_neg (by omega), if_neg (by omega), if_pos hj]
theorem own_g3 {n : Nat} {f1 f2 : Nat → Int32} {j k : Nat} (hj : j = 2 + n + k) : FT n f1 f2 j = f2 k := by
  unfold FT; rw [if_neg (by omega), if_neg (by omega), if_neg (by omega)]; congr 1; omega
theorem pn_0 : plainName "com/example/iron_lock/ironlock/model/LockKeysCompanionKeyPinLaw" = true := by first | (simp [plainName, overriddenIn]; done) | decide +kernel
theorem ef_0 (m : MethodId) (i0 : Int32) (i1 : Int32) (i2 : Int32) (i3 : Int32) (i4 : Int32) (i5 : Int32) : entryFrame m #[(.int i0), (.int i1), (.int i2), (.int i3), (.int i4), (.int i5)] maxLocals = mkF m 0 #[.val (.int i0), .val (.int i1), .val (.int i2), .val (.int i3), .val (.int i4), .val (.int i5), .unset, .unset, .unset, .unset, .unset, .unset, .unset, .unset, .unset, .unset] [] := by first | (simp [entryFrame, mkF, argsToLocals, Value.category, maxLocals]; done) | rfl
def Q0 (Z : State) (i0 : Int32) (i1 : Int32) (i2 : Int32) (i3 : Int32) (i4 : Int32) (i5 : Int32) (cz : Int32) (fw : Value) (h0 : Heap) : Option Value → Heap → Prop := fun v h => v = some (.int 1)
theorem pd_29 : parseMethodDescriptor "(ICCC)Ljava/lang/String;" = some ⟨[.int, .char, .char, .char], some (.object "java/lang/String")⟩ := by decide +kernel
theorem pd_30 : parseMethodDescriptor "(Ljava/lang/String;)Ljava/lang/String;" = some ⟨[(.object "java/lang/String")], some (.object "java/lang/String")⟩ := by decide +kernel
theorem pd_31 : parseMethodDescriptor "(I)C" = some ⟨[.int], some .char⟩ := by decide +kernel
set_option maxRecDepth 65536 in
set_option maxHeartbeats 40000000 in
theorem rm0 (l : Launch) (Z : State) (a0 : Array Value) (hw : ∀ d ∈ tables_1, d.before a0 Z = true) (ws : List Jvm.Cond) (i0 : Int32) (i1 : Int32) (i2 : Int32) (i3 : Int32) (i4 : Int32) (i5 : Int32) (cz : Int32) (fw : Value) (h0 : Heap) (n0 : Nat) (Z0 : n0 ≤ h0.size) (hh0 : h0 = Z.heap) (S_c : Sta Z h0 "java/lang/String" "COMPACT_STRINGS" "Z" (.int cz)) (hcz : ¬ cz = 0) (S_f : Sta Z h0 "jdk/internal/util/Preconditions" "SIOOBE_FORMATTER" "Ljava/util/function/BiFunction;" fw) (hk_fw : fw.isRef = true) (hheld7 : Jvm.Lit.constHeld Z "java/lang/String" 7) (hheldN : Jvm.Lit.constHeld Z "com/example/iron_lock/ironlock/model/LockKeys" 7) (hheldS : Jvm.Lit.constHeld Z "com/example/iron_lock/ironlock/model/LockKeys" 33) (hheldO : Jvm.Lit.constHeld Z "com/example/iron_lock/ironlock/model/LockKeys" 38) (hheldC : Jvm.Lit.constHeld Z "com/example/iron_lock/ironlock/model/LockKeys" 44) (hcw : Jvm.Lit.compactW.before a0 Z = true) :
    OMW [] ["}", "{", "suffix", "name", ""] l x code maxLocals ret room_1 ws Z #[(.int i0), (.int i1), (.int i2), (.int i3), (.int i4), (.int i5)] h0 n0 (Q0 Z i0 i1 i2 i3 i4 i5 cz fw h0) := by
  refine OMW.of (plainFor_of_name pn_0) (fun m => ef_0 m i0 i1 i2 i3 i4 i5) ?_
  intro p e s m below meth c T X hI hH
  have X := X n0
  have K0 : Keep h0 h0 [] := Keep.refl _ _
  refine OGW.iloadN X at_0 rfl ?_
  refine OGW.sipush X at_1 (z := (255 : Int32)) rfl ?_
  refine OGW.iand X at_4 ?_
  refine OGW.i2c X at_5 ?_
  refine OGW.istoreV X at_6 (l' := fun z => #[.val (.int i0), .val (.int i1), .val (.int i2), .val (.int i3), .val (.int i4), .val (.int i5), .val (.int z), .unset, .unset, .unset, .unset, .unset, .unset, .unset, .unset, .unset]) (fun _ => rfl) ?_
  intro ca hca
  refine OGW.iloadN X at_8 rfl ?_
  refine OGW.sipush X at_9 (z := (255 : Int32)) rfl ?_
  refine OGW.iand X at_12 ?_
  refine OGW.i2c X at_13 ?_
  refine OGW.istoreV X at_14 (l' := fun z => #[.val (.int i0), .val (.int i1), .val (.int i2), .val (.int i3), .val (.int i4), .val (.int i5), .val (.int ca), .val (.int z), .unset, .unset, .unset, .unset, .unset, .unset, .unset, .unset]) (fun _ => rfl) ?_
  intro cb hcb
  refine OGW.iloadN X at_16 rfl ?_
  refine OGW.sipush X at_17 (z := (255 : Int32)) rfl ?_
  refine OGW.iand X at_20 ?_
  refine OGW.i2c X at_21 ?_
  refine OGW.istoreV X at_22 (l' := fun z => #[.val (.int i0), .val (.int i1), .val (.int i2), .val (.int i3), .val (.int i4), .val (.int i5), .val (.int ca), .val (.int cb), .val (.int z), .unset, .unset, .unset, .unset, .unset, .unset, .unset]) (fun _ => rfl) ?_
  intro cc hcc
  refine OGW.iloadN X at_24 rfl ?_
  refine OGW.sipush X at_25 (z := (255 : Int32)) rfl ?_
  refine OGW.iand X at_28 ?_
  refine OGW.i2c X at_29 ?_
  refine OGW.istoreV X at_30 (l' := fun z => #[.val (.int i0), .val (.int i1), .val (.int i2), .val (.int i3), .val (.int i4), .val (.int i5), .val (.int ca), .val (.int cb), .val (.int cc), .val (.int z), .unset, .unset, .unset, .unset, .unset, .unset]) (fun _ => rfl) ?_
  intro cd hcd
  refine OGW.iload X at_32 rfl ?_
  refine OGW.sipush X at_34 (z := (255 : Int32)) rfl ?_
  refine OGW.iand X at_37 ?_
  refine OGW.i2c X at_38 ?_
  refine OGW.istoreV X at_39 (l' := fun z => #[.val (.int i0), .val (.int i1), .val (.int i2), .val (.int i3), .val (.int i4), .val (.int i5), .val (.int ca), .val (.int cb), .val (.int cc), .val (.int cd), .val (.int z), .unset, .unset, .unset, .unset, .unset]) (fun _ => rfl) ?_
  intro ce hce
  refine OGW.iconst X at_41 (z := (1 : Int32)) rfl ?_
  refine OGW.iload X at_42 rfl ?_
  refine OGW.iconst X at_44 (z := (3 : Int32)) rfl ?_
  refine OGW.iand X at_45 ?_
  refine OGW.iconst X at_46 (z := (3 : Int32)) rfl ?_
  refine OGW.irem X at_47 (by decide) ?_
  refine OGW.iadd X at_48 ?_
  refine OGW.istoreV X at_49 (l' := fun z => #[.val (.int i0), .val (.int i1), .val (.int i2), .val (.int i3), .val (.int i4), .val (.int i5), .val (.int ca), .val (.int cb), .val (.int cc), .val (.int cd), .val (.int ce), .val (.int z), .unset, .unset, .unset, .unset]) (fun _ => rfl) ?_
  intro nl hnl
  refine OGW.iload X at_51 rfl ?_
  refine OGW.iconst X at_53 (z := (2 : Int32)) rfl ?_
  refine OGW.iushr X at_54 ?_
  refine OGW.iconst X at_55 (z := (3 : Int32)) rfl ?_
  refine OGW.iand X at_56 ?_
  refine OGW.iconst X at_57 (z := (3 : Int32)) rfl ?_
  refine OGW.irem X at_58 (by decide) ?_
  refine OGW.istoreV X at_59 (l' := fun z => #[.val (.int i0), .val (.int i1), .val (.int i2), .val (.int i3), .val (.int i4), .val (.int i5), .val (.int ca), .val (.int cb), .val (.int cc), .val (.int cd), .val (.int ce), .val (.int nl), .val (.int z), .unset, .unset, .unset]) (fun _ => rfl) ?_
  intro sl hsl
  have rca := own_chr hca
  have rcb := own_chr hcb
  have rcc := own_chr hcc
  have rcd := own_chr hcd
  have rce := own_chr hce
  have rnl := own_nl hnl
  have rsl : 0 ≤ sl.toInt ∧ sl.toInt ≤ 2 := by rw [hsl]; exact own_rem3 _
  have hz1 : nl.toInt = (nl.toInt.toNat : Nat) := by omega
  have hz2 : sl.toInt = (sl.toInt.toNat : Nat) := by omega
  have nl0 : ¬ nl = 0 := fun q => by rw [q] at rnl; exact absurd rnl.1 (by decide)
  have Kz : Keep Z.heap h0 [] := by rw [← hh0]; exact Keep.refl _ _
  refine OGW.iload X at_61 rfl ?_
  refine OGW.iload X at_63 rfl ?_
  refine OGW.iload X at_65 rfl ?_
  refine OGW.iload X at_67 rfl ?_
  have Kz1 : Keep Z.heap h0 [] := Kz.trans K0 all0
  refine OGW.callSW X (hw _ (List.mem_of_getElem? (i := 0) rfl)) (hw _ (List.mem_of_getElem? (i := 1) rfl)) (by decide) hI (rm1 l Z a0 hw [] nl ca cb cc cz [] h0 n0 Z0 (by omega) rca rcb rcc Kz1 (fun _ => by simp) S_c hcz hheld7 hcw) (hw _ (List.mem_of_getElem? (i := 3) rfl)) (hw _ (List.mem_of_getElem? (i := 2) rfl)) (by decide) (W := 0) (by decide) rfl (argsL := [(.int nl), (.int ca), (.int cb), (.int cc)]) pd_29 rfl at_69 rfl (Nat.le_of_eq rfl) (by decide) (by decide) ?_
  rintro _ Ts1 hs1 Xs1 ⟨na, b1, g1, rfl, hge1, Ks1, E_na, Fc_na, Fv_na, A_b1, hL1⟩ I1
  replace hH : (s.setVm Ts1.vm).heap = h0 := hH
  generalize s.setVm Ts1.vm = s at Xs1 I1 hH ⊢
  have ns_Ks1 : NSt h0 [] := NSt.nil
  replace Z0 := Nat.le_trans Z0 Ks1.1
  replace S_c := S_c.keepN Ks1 ns_Ks1
  replace S_f := S_f.keepN Ks1 ns_Ks1
  replace K0 := K0.trans Ks1 (all0)
  have Zhs1 : hs1.size ≤ hs1.size := Nat.le_refl _
  rw [if_neg nl0] at I1
  show OGW Z ["}", "{", "suffix", "name", ""] p e below s n0 room_1.cells room_1.slots (fun v hh => (Q0 Z i0 i1 i2 i3 i4 i5 cz fw h0) v hh ∧ hs1.size ≤ hh.size) (Ts1.setTop (mkF m 72 #[.val (.int i0), .val (.int i1), .val (.int i2), .val (.int i3), .val (.int i4), .val (.int i5), .val (.int ca), .val (.int cb), .val (.int cc), .val (.int cd), .val (.int ce), .val (.int nl), .val (.int sl), .unset, .unset, .unset] [(.ref na)]))
  refine OGW.astore Xs1 at_72 (l' := #[.val (.int i0), .val (.int i1), .val (.int i2), .val (.int i3), .val (.int i4), .val (.int i5), .val (.int ca), .val (.int cb), .val (.int cc), .val (.int cd), .val (.int ce), .val (.int nl), .val (.int sl), .val (.ref na), .unset, .unset]) rfl rfl ?_
  refine OGW.iload Xs1 at_74 rfl ?_
  refine OGW.iload Xs1 at_76 rfl ?_
  refine OGW.iload Xs1 at_78 rfl ?_
  refine OGW.iload Xs1 at_80 rfl ?_
  have Kz2 : Keep Z.heap hs1 [] := Kz.trans K0 all0
  refine OGW.callSW Xs1 (hw _ (List.mem_of_getElem? (i := 0) rfl)) (hw _ (List.mem_of_getElem? (i := 1) rfl)) (by decide) I1 (rm1 l Z a0 hw [] sl cd ce ce cz [] hs1 n0 Z0 (by omega) rcd rce rce Kz2 (fun _ => by simp) S_c hcz hheld7 hcw) (hw _ (List.mem_of_getElem? (i := 3) rfl)) (hw _ (List.mem_of_getElem? (i := 2) rfl)) (by decide) (W := 0) (by decide) rfl (argsL := [(.int sl), (.int cd), (.int ce), (.int ce)]) pd_29 rfl at_82 rfl (Nat.le_of_eq rfl) (by decide) (by decide) ?_
  rintro _ Ts2 hs2 Xs2 ⟨sf, b2, g2, rfl, hge2, Ks2, E_sf, Fc_sf, Fv_sf, A_b2, hL2⟩ I2
  replace hH : (s.setVm Ts2.vm).heap = h0 := hH
  generalize s.setVm Ts2.vm = s at Xs2 I2 hH ⊢
  have n_sf_na : sf ≠ na := Nat.ne_of_gt (Nat.lt_of_lt_of_le E_na.lt hge2)
  have ns_Ks2 : NSt hs1 [] := NSt.nil
  replace Z0 := Nat.le_trans Z0 Ks2.1
  replace S_c := S_c.keepN Ks2 ns_Ks2
  replace S_f := S_f.keepN Ks2 ns_Ks2
  replace K0 := K0.trans Ks2 (all0)
  replace Zhs1 := Nat.le_trans Zhs1 Ks2.1
  replace E_na := E_na.keep Ks2
  replace Fc_na := Fc_na.keep Ks2 nin0
  replace Fv_na := Fv_na.keep Ks2 nin0
  replace A_b1 := A_b1.keep Ks2 nin0
  have Zhs2 : hs2.size ≤ hs2.size := Nat.le_refl _
  replace I2 : IB Z s.vm [""] := IB.mono I2 own_ib
  show OGW Z ["}", "{", "suffix", "name", ""] p e below s n0 room_1.cells room_1.slots (fun v hh => (fun v hh => (Q0 Z i0 i1 i2 i3 i4 i5 cz fw h0) v hh ∧ hs1.size ≤ hh.size) v hh ∧ hs2.size ≤ hh.size) (Ts2.setTop (mkF m 85 #[.val (.int i0), .val (.int i1), .val (.int i2), .val (.int i3), .val (.int i4), .val (.int i5), .val (.int ca), .val (.int cb), .val (.int cc), .val (.int cd), .val (.int ce), .val (.int nl), .val (.int sl), .val (.ref na), .unset, .unset] [(.ref sf)]))
  refine OGW.astore Xs2 at_85 (l' := #[.val (.int i0), .val (.int i1), .val (.int i2), .val (.int i3), .val (.int i4), .val (.int i5), .val (.int ca), .val (.int cb), .val (.int cc), .val (.int cd), .val (.int ce), .val (.int nl), .val (.int sl), .val (.ref na), .val (.ref sf), .unset]) rfl rfl ?_
  refine OGW.newO Xs2 (hw _ (List.mem_of_getElem? (i := 41) rfl)) (hw _ (List.mem_of_getElem? (i := 42) rfl)) (hw _ (List.mem_of_getElem? (i := 43) rfl)) at_87 (by decide) (by decide) ?_
  intro T201 h202 b204 gb204 X201 E203 E_b204 D_b204
  have ne_na_b204 : na ≠ b204 := Nat.ne_of_lt (Nat.lt_of_lt_of_le E_na.lt (Nat.le_of_eq gb204.symm))
  have ne_b1_b204 : b1 ≠ b204 := Nat.ne_of_lt (Nat.lt_of_lt_of_le A_b1.lt (Nat.le_of_eq gb204.symm))
  have ne_sf_b204 : sf ≠ b204 := Nat.ne_of_lt (Nat.lt_of_lt_of_le E_sf.lt (Nat.le_of_eq gb204.symm))
  have ne_b2_b204 : b2 ≠ b204 := Nat.ne_of_lt (Nat.lt_of_lt_of_le A_b2.lt (Nat.le_of_eq gb204.symm))
  have g_b204 : n0 ≤ b204 := Nat.le_trans Z0 (Nat.le_of_eq gb204.symm)
  have sz_b204 : h0.size ≤ b204 := Nat.le_trans K0.1 (Nat.le_of_eq gb204.symm)
  replace Z0 := Nat.le_trans Z0 E203.1
  replace S_c := S_c.ext E203
  replace S_f := S_f.ext E203
  replace K0 := K0.ext E203
  replace Zhs1 := Nat.le_trans Zhs1 E203.1
  replace E_na := E_na.ext E203
  replace Fc_na := Fc_na.ext E203
  replace Fv_na := Fv_na.ext E203
  replace A_b1 := A_b1.ext E203
  replace Zhs2 := Nat.le_trans Zhs2 E203.1
  replace E_sf := E_sf.ext E203
  replace Fc_sf := Fc_sf.ext E203
  replace Fv_sf := Fv_sf.ext E203
  replace A_b2 := A_b2.ext E203
  have F_name_b204 : Fld Z h202 b204 "com/example/iron_lock/ironlock/model/LockKeys" "name" "Ljava/lang/String;" .null := D_b204 (Or.inr (hw _ (List.mem_of_getElem? (i := 59) rfl))) (ty := (.object "java/lang/String")) (by decide)
  refine OGW.dup X201 at_90 rfl ?_
  refine OGW.aload X201 at_91 rfl rfl ?_
  have Kz3 : Keep Z.heap h202 [] := Kz.trans K0 all0
  refine OGW.callCW X201 rfl (hw _ (List.mem_of_getElem? (i := 44) rfl)) (hw _ (List.mem_of_getElem? (i := 45) rfl)) (by decide) I2 (rm9 l Z a0 hw [] b204 na b1 _ g1 cz nl h202 n0 E_b204 F_name_b204 g_b204 Z0 Kz3 E_na Fc_na Fv_na A_b1 hz1 nl0 ne_na_b204 ne_b1_b204 S_c hcz hheldN hcw) (hw _ (List.mem_of_getElem? (i := 46) rfl)) (hw _ (List.mem_of_getElem? (i := 43) rfl)) (by decide) (W := 1) (by decide) rfl (argsL := [(.ref na)]) pd_15 rfl at_93 rfl (Nat.le_of_eq rfl) (by decide) (by decide) ?_
  rintro _ T3 h3 X3 ⟨rfl, K3, E3, F3⟩ I3
  replace hH : (s.setVm T3.vm).heap = h0 := hH
  generalize s.setVm T3.vm = s at X3 I3 hH ⊢
  have ns_K3 := (NSt.cons E_b204.ns NSt.nil)
  replace Z0 := Nat.le_trans Z0 K3.1
  replace S_c := S_c.keepN K3 ns_K3
  replace S_f := S_f.keepN K3 ns_K3
  replace K0 := K0.trans K3 ((allS (Or.inr sz_b204) all0))
  replace Zhs1 := Nat.le_trans Zhs1 K3.1
  replace E_na := E_na.keep K3
  replace Fc_na := Fc_na.keep K3 (ninS ne_na_b204 nin0)
  replace Fv_na := Fv_na.keep K3 (ninS ne_na_b204 nin0)
  replace A_b1 := A_b1.keep K3 (ninS ne_b1_b204 nin0)
  replace Zhs2 := Nat.le_trans Zhs2 K3.1
  replace E_sf := E_sf.keep K3
  replace Fc_sf := Fc_sf.keep K3 (ninS ne_sf_b204 nin0)
  replace Fv_sf := Fv_sf.keep K3 (ninS ne_sf_b204 nin0)
  replace A_b2 := A_b2.keep K3 (ninS ne_b2_b204 nin0)
  replace E_b204 := E_b204.keep K3
  have Zh3 : h3.size ≤ h3.size := Nat.le_refl _
  show OGW Z ["}", "{", "suffix", "name", ""] p e below s n0 room_1.cells room_1.slots (fun v hh => (fun v hh => (fun v hh => (Q0 Z i0 i1 i2 i3 i4 i5 cz fw h0) v hh ∧ hs1.size ≤ hh.size) v hh ∧ hs2.size ≤ hh.size) v hh ∧ h3.size ≤ hh.size) (T3.setTop (mkF m 96 #[.val (.int i0), .val (.int i1), .val (.int i2), .val (.int i3), .val (.int i4), .val (.int i5), .val (.int ca), .val (.int cb), .val (.int cc), .val (.int cd), .val (.int ce), .val (.int nl), .val (.int sl), .val (.ref na), .val (.ref sf), .unset] [(.ref b204)]))
  refine OGW.aload X3 at_96 rfl rfl ?_
  have Kz4 : Keep Z.heap h3 [] := Kz.trans K0 all0
  refine OGW.callVW X3 (hw _ (List.mem_of_getElem? (i := 60) rfl)) (hw _ (List.mem_of_getElem? (i := 61) rfl)) (notFace_of_selects (args := #[]) (mvT X3.warm (hw _ (List.mem_of_getElem? (i := 63) rfl)))) (hw _ (List.mem_of_getElem? (i := 63) rfl)) (hw _ (List.mem_of_getElem? (i := 62) rfl)) (by decide) E3 I3 (OMW.lower (rm12 l Z a0 hw [] b204 sf na b1 b2 _ _ g1 g2 nl sl cz h3 h3.size E3 F3 E_na Fc_na Fv_na A_b1 hz1 (BY.l1 hL1) E_sf Fc_sf Fv_sf A_b2 hz2 (BY.l1 hL2) (by omega) rfl Kz4 S_c hcz hheldS hheldO hheldC hcw) Z0) (hw _ (List.mem_of_getElem? (i := 64) rfl)) (hw _ (List.mem_of_getElem? (i := 43) rfl)) (by decide) (W := 0) (by decide) rfl (argsL := [(.ref sf)]) pd_30 rfl at_98 rfl (Nat.le_of_eq rfl) (by decide) (by decide) ?_
  rintro _ T4 h4 X4 ⟨rr, rb, gr, rfl, K4, E_rr, Fc_rr, Fv_rr, A_rb, hck⟩ I4
  replace hH : (s.setVm T4.vm).heap = h0 := hH
  generalize s.setVm T4.vm = s at X4 I4 hH ⊢
  have ns_K4 : NSt h3 [] := NSt.nil
  replace Z0 := Nat.le_trans Z0 K4.1
  replace S_c := S_c.keepN K4 ns_K4
  replace S_f := S_f.keepN K4 ns_K4
  replace K0 := K0.trans K4 (all0)
  replace Zhs1 := Nat.le_trans Zhs1 K4.1
  replace Zhs2 := Nat.le_trans Zhs2 K4.1
  replace Zh3 := Nat.le_trans Zh3 K4.1
  have Zh4 : h4.size ≤ h4.size := Nat.le_refl _
  have hL : L1 (0 + 1 + nl.toInt.toNat + 1 + sl.toInt.toNat) (FT nl.toInt.toNat (chs ca cb cc) (chs cd ce ce)) gr := own_tot hck hL1 hL2
  obtain ⟨tz, htz⟩ : ∃ tz : Int32, tz.toInt = ((0 + 1 + nl.toInt.toNat + 1 + sl.toInt.toNat) : Nat) := ⟨((0 + 1 + nl.toInt.toNat + 1 + sl.toInt.toNat) : Nat).toInt32, len32 (by omega)⟩
  show OGW Z ["}", "{", "suffix", "name", ""] p e below s n0 room_1.cells room_1.slots (fun v hh => (fun v hh => (fun v hh => (fun v hh => (Q0 Z i0 i1 i2 i3 i4 i5 cz fw h0) v hh ∧ hs1.size ≤ hh.size) v hh ∧ hs2.size ≤ hh.size) v hh ∧ h3.size ≤ hh.size) v hh ∧ h4.size ≤ hh.size) (T4.setTop (mkF m 101 #[.val (.int i0), .val (.int i1), .val (.int i2), .val (.int i3), .val (.int i4), .val (.int i5), .val (.int ca), .val (.int cb), .val (.int cc), .val (.int cd), .val (.int ce), .val (.int nl), .val (.int sl), .val (.ref na), .val (.ref sf), .unset] [(.ref rr)]))
  refine OGW.astore X4 at_101 (l' := #[.val (.int i0), .val (.int i1), .val (.int i2), .val (.int i3), .val (.int i4), .val (.int i5), .val (.int ca), .val (.int cb), .val (.int cc), .val (.int cd), .val (.int ce), .val (.int nl), .val (.int sl), .val (.ref na), .val (.ref sf), .val (.ref rr)]) rfl rfl ?_
  refine OGW.aload X4 at_103 rfl rfl ?_
  refine OGW.callV X4 (hw _ (List.mem_of_getElem? (i := 178) rfl)) (hw _ (List.mem_of_getElem? (i := 96) rfl)) (notFace_of_selects (args := #[]) (mvT X4.warm (hw _ (List.mem_of_getElem? (i := 98) rfl)))) (hw _ (List.mem_of_getElem? (i := 98) rfl)) (hw _ (List.mem_of_getElem? (i := 97) rfl)) (by decide) E_rr (rm17 l Z a0 hw [] rr rb _ gr cz tz h4 n0 S_c hcz E_rr Fc_rr Fv_rr A_rb htz ) (hw _ (List.mem_of_getElem? (i := 99) rfl)) (hw _ (List.mem_of_getElem? (i := 6) rfl)) (by decide) (W := 0) (by decide) rfl (argsL := []) pd_17 rfl at_105 rfl (Nat.le_of_eq rfl) (by decide) (by decide) ?_
  rintro _ T401 h402 X401 ⟨rfl, eh402⟩
  rw [eh402] at X401
  show OGW Z ["}", "{", "suffix", "name", ""] p e below s n0 room_1.cells room_1.slots (fun v hh => (fun v hh => (fun v hh => (fun v hh => (Q0 Z i0 i1 i2 i3 i4 i5 cz fw h0) v hh ∧ hs1.size ≤ hh.size) v hh ∧ hs2.size ≤ hh.size) v hh ∧ h3.size ≤ hh.size) v hh ∧ h4.size ≤ hh.size) (T401.setTop (mkF m 108 #[.val (.int i0), .val (.int i1), .val (.int i2), .val (.int i3), .val (.int i4), .val (.int i5), .val (.int ca), .val (.int cb), .val (.int cc), .val (.int cd), .val (.int ce), .val (.int nl), .val (.int sl), .val (.ref na), .val (.ref sf), .val (.ref rr)] [(.int tz)]))
  refine OGW.iload X401 at_108 rfl ?_
  refine OGW.iload X401 at_110 rfl ?_
  refine OGW.iadd X401 at_112 ?_
  refine OGW.iconst X401 at_113 (z := (2 : Int32)) rfl ?_
  refine OGW.iadd X401 at_114 ?_
  refine OGW.icmp_eq_t X401 at_115 (pc' := 120) (by decide) (own_len rnl rsl htz) ?_
  refine OGW.aload X401 at_120 rfl rfl ?_
  refine OGW.iconst X401 at_122 (z := (0 : Int32)) rfl ?_
  refine OGW.callV X401 (hw _ (List.mem_of_getElem? (i := 179) rfl)) (hw _ (List.mem_of_getElem? (i := 180) rfl)) (notFace_of_selects (args := #[]) (mvT X401.warm (hw _ (List.mem_of_getElem? (i := 182) rfl)))) (hw _ (List.mem_of_getElem? (i := 182) rfl)) (hw _ (List.mem_of_getElem? (i := 181) rfl)) (by decide) E_rr (rm34 l Z a0 hw [] rr (0 : Int32) rb _ gr cz tz fw (FT nl.toInt.toNat (chs ca cb cc) (chs cd ce ce)) h4 n0 S_c hcz E_rr Fc_rr Fv_rr A_rb htz (by have e : (0 : Int32).toInt = 0 := rfl; omega) hL S_f hk_fw) (hw _ (List.mem_of_getElem? (i := 183) rfl)) (hw _ (List.mem_of_getElem? (i := 6) rfl)) (by decide) (W := 0) (by decide) rfl (argsL := [(.int (0 : Int32))]) pd_31 rfl at_123 rfl (Nat.le_of_eq rfl) (by decide) (by decide) ?_
  rintro _ T403 h404 X403 ⟨rfl, eh404⟩
  rw [eh404] at X403
  show OGW Z ["}", "{", "suffix", "name", ""] p e below s n0 room_1.cells room_1.slots (fun v hh => (fun v hh => (fun v hh => (fun v hh => (Q0 Z i0 i1 i2 i3 i4 i5 cz fw h0) v hh ∧ hs1.size ≤ hh.size) v hh ∧ hs2.size ≤ hh.size) v hh ∧ h3.size ≤ hh.size) v hh ∧ h4.size ≤ hh.size) (T403.setTop (mkF m 126 #[.val (.int i0), .val (.int i1), .val (.int i2), .val (.int i3), .val (.int i4), .val (.int i5), .val (.int ca), .val (.int cb), .val (.int cc), .val (.int cd), .val (.int ce), .val (.int nl), .val (.int sl), .val (.ref na), .val (.ref sf), .val (.ref rr)] [(.int ((FT nl.toInt.toNat (chs ca cb cc) (chs cd ce ce)) (0 : Int32).toInt.toNat))]))
  refine OGW.bipush X403 at_126 (z := (123 : Int32)) rfl ?_
  refine OGW.icmp_eq_t X403 at_128 (pc' := 133) (by decide) rfl ?_
  refine OGW.aload X403 at_133 rfl rfl ?_
  refine OGW.iconst X403 at_135 (z := (1 : Int32)) rfl ?_
  refine OGW.callV X403 (hw _ (List.mem_of_getElem? (i := 179) rfl)) (hw _ (List.mem_of_getElem? (i := 180) rfl)) (notFace_of_selects (args := #[]) (mvT X403.warm (hw _ (List.mem_of_getElem? (i := 182) rfl)))) (hw _ (List.mem_of_getElem? (i := 182) rfl)) (hw _ (List.mem_of_getElem? (i := 181) rfl)) (by decide) E_rr (rm34 l Z a0 hw [] rr (1 : Int32) rb _ gr cz tz fw (FT nl.toInt.toNat (chs ca cb cc) (chs cd ce ce)) h4 n0 S_c hcz E_rr Fc_rr Fv_rr A_rb htz (by have e : (1 : Int32).toInt = 1 := rfl; omega) hL S_f hk_fw) (hw _ (List.mem_of_getElem? (i := 183) rfl)) (hw _ (List.mem_of_getElem? (i := 6) rfl)) (by decide) (W := 0) (by decide) rfl (argsL := [(.int (1 : Int32))]) pd_31 rfl at_136 rfl (Nat.le_of_eq rfl) (by decide) (by decide) ?_
  rintro _ T405 h406 X405 ⟨rfl, eh406⟩
  rw [eh406] at X405
  show OGW Z ["}", "{", "suffix", "name", ""] p e below s n0 room_1.cells room_1.slots (fun v hh => (fun v hh => (fun v hh => (fun v hh => (Q0 Z i0 i1 i2 i3 i4 i5 cz fw h0) v hh ∧ hs1.size ≤ hh.size) v hh ∧ hs2.size ≤ hh.size) v hh ∧ h3.size ≤ hh.size) v hh ∧ h4.size ≤ hh.size) (T405.setTop (mkF m 139 #[.val (.int i0), .val (.int i1), .val (.int i2), .val (.int i3), .val (.int i4), .val (.int i5), .val (.int ca), .val (.int cb), .val (.int cc), .val (.int cd), .val (.int ce), .val (.int nl), .val (.int sl), .val (.ref na), .val (.ref sf), .val (.ref rr)] [(.int ((FT nl.toInt.toNat (chs ca cb cc) (chs cd ce ce)) (1 : Int32).toInt.toNat))]))
  refine OGW.iload X405 at_139 rfl ?_
  refine OGW.icmp_eq_t X405 at_141 (pc' := 146) (by decide) (own_g1 (j := 1) (by decide) (by omega)) ?_
  refine OGW.iload X405 at_146 rfl ?_
  refine OGW.iconst X405 at_148 (z := (2 : Int32)) rfl ?_
  refine OGW.icmp_lt X405 at_149 (pc' := 165) (by decide) ?_ ?_
  · intro c149
    refine OGW.iload X405 at_165 rfl ?_
    refine OGW.iconst X405 at_167 (z := (3 : Int32)) rfl ?_
    refine OGW.icmp_lt X405 at_168 (pc' := 184) (by decide) ?_ ?_
    · intro c168
      refine OGW.aload X405 at_184 rfl rfl ?_
      refine OGW.iload X405 at_186 rfl ?_
      refine OGW.iconst X405 at_188 (z := (1 : Int32)) rfl ?_
      refine OGW.iadd X405 at_189 ?_
      refine OGW.callV X405 (hw _ (List.mem_of_getElem? (i := 179) rfl)) (hw _ (List.mem_of_getElem? (i := 180) rfl)) (notFace_of_selects (args := #[]) (mvT X405.warm (hw _ (List.mem_of_getElem? (i := 182) rfl)))) (hw _ (List.mem_of_getElem? (i := 182) rfl)) (hw _ (List.mem_of_getElem? (i := 181) rfl)) (by decide) E_rr (rm34 l Z a0 hw [] rr (nl + (1 : Int32)) rb _ gr cz tz fw (FT nl.toInt.toNat (chs ca cb cc) (chs cd ce ce)) h4 n0 S_c hcz E_rr Fc_rr Fv_rr A_rb htz (by have e : (1 : Int32).toInt = 1 := rfl; have e2 := own_add1 rnl 1 (by decide); omega) hL S_f hk_fw) (hw _ (List.mem_of_getElem? (i := 183) rfl)) (hw _ (List.mem_of_getElem? (i := 6) rfl)) (by decide) (W := 0) (by decide) rfl (argsL := [(.int (nl + (1 : Int32)))]) pd_31 rfl at_190 rfl (Nat.le_of_eq rfl) (by decide) (by decide) ?_
      rintro _ T407 h408 X407 ⟨rfl, eh408⟩
      rw [eh408] at X407
      show OGW Z ["}", "{", "suffix", "name", ""] p e below s n0 room_1.cells room_1.slots (fun v hh => (fun v hh => (fun v hh => (fun v hh => (Q0 Z i0 i1 i2 i3 i4 i5 cz fw h0) v hh ∧ hs1.size ≤ hh.size) v hh ∧ hs2.size ≤ hh.size) v hh ∧ h3.size ≤ hh.size) v hh ∧ h4.size ≤ hh.size) (T407.setTop (mkF m 193 #[.val (.int i0), .val (.int i1), .val (.int i2), .val (.int i3), .val (.int i4), .val (.int i5), .val (.int ca), .val (.int cb), .val (.int cc), .val (.int cd), .val (.int ce), .val (.int nl), .val (.int sl), .val (.ref na), .val (.ref sf), .val (.ref rr)] [(.int ((FT nl.toInt.toNat (chs ca cb cc) (chs cd ce ce)) (nl + (1 : Int32)).toInt.toNat))]))
      refine OGW.bipush X407 at_193 (z := (125 : Int32)) rfl ?_
      refine OGW.icmp_eq_t X407 at_195 (pc' := 200) (by decide) (own_g2 (by have e2 := own_add1 rnl 1 (by decide); have e : (1 : Int32).toInt = 1 := rfl; omega)) ?_
      refine OGW.iload X407 at_200 rfl ?_
      refine OGW.iconst X407 at_202 (z := (1 : Int32)) rfl ?_
      refine OGW.icmp_lt X407 at_203 (pc' := 222) (by decide) ?_ ?_
      · intro c203
        refine OGW.iload X407 at_222 rfl ?_
        refine OGW.iconst X407 at_224 (z := (2 : Int32)) rfl ?_
        refine OGW.icmp_lt X407 at_225 (pc' := 244) (by decide) ?_ ?_
        · intro c225
          refine OGW.iconst X407 at_244 (z := (1 : Int32)) rfl ?_
          exact OGW.retN X407 (t := .boolean) at_245 (by simp) (by decide) (by decide) I4 ⟨⟨⟨⟨rfl, Zhs1⟩, Zhs2⟩, Zh3⟩, Zh4⟩
        · intro c225
          refine OGW.aload X407 at_228 rfl rfl ?_
          refine OGW.iload X407 at_230 rfl ?_
          refine OGW.iconst X407 at_232 (z := (3 : Int32)) rfl ?_
          refine OGW.iadd X407 at_233 ?_
          refine OGW.callV X407 (hw _ (List.mem_of_getElem? (i := 179) rfl)) (hw _ (List.mem_of_getElem? (i := 180) rfl)) (notFace_of_selects (args := #[]) (mvT X407.warm (hw _ (List.mem_of_getElem? (i := 182) rfl)))) (hw _ (List.mem_of_getElem? (i := 182) rfl)) (hw _ (List.mem_of_getElem? (i := 181) rfl)) (by decide) E_rr (rm34 l Z a0 hw [] rr (nl + (3 : Int32)) rb _ gr cz tz fw (FT nl.toInt.toNat (chs ca cb cc) (chs cd ce ce)) h4 n0 S_c hcz E_rr Fc_rr Fv_rr A_rb htz (by have e : (3 : Int32).toInt = 3 := rfl; have e2 := own_add1 rnl 3 (by decide); have e3 := own_k2 c225; have e4 : (2 : Int32).toInt = 2 := rfl; omega) hL S_f hk_fw) (hw _ (List.mem_of_getElem? (i := 183) rfl)) (hw _ (List.mem_of_getElem? (i := 6) rfl)) (by decide) (W := 0) (by decide) rfl (argsL := [(.int (nl + (3 : Int32)))]) pd_31 rfl at_234 rfl (Nat.le_of_eq rfl) (by decide) (by decide) ?_
          rintro _ T409 h410 X409 ⟨rfl, eh410⟩
          rw [eh410] at X409
          show OGW Z ["}", "{", "suffix", "name", ""] p e below s n0 room_1.cells room_1.slots (fun v hh => (fun v hh => (fun v hh => (fun v hh => (Q0 Z i0 i1 i2 i3 i4 i5 cz fw h0) v hh ∧ hs1.size ≤ hh.size) v hh ∧ hs2.size ≤ hh.size) v hh ∧ h3.size ≤ hh.size) v hh ∧ h4.size ≤ hh.size) (T409.setTop (mkF m 237 #[.val (.int i0), .val (.int i1), .val (.int i2), .val (.int i3), .val (.int i4), .val (.int i5), .val (.int ca), .val (.int cb), .val (.int cc), .val (.int cd), .val (.int ce), .val (.int nl), .val (.int sl), .val (.ref na), .val (.ref sf), .val (.ref rr)] [(.int ((FT nl.toInt.toNat (chs ca cb cc) (chs cd ce ce)) (nl + (3 : Int32)).toInt.toNat))]))
          refine OGW.iload X409 at_237 rfl ?_
          refine OGW.icmp_eq_t X409 at_239 (pc' := 244) (by decide) (own_g3 (k := 1) (by have e2 := own_add1 rnl 3 (by decide); have e : (3 : Int32).toInt = 3 := rfl; omega)) ?_
          refine OGW.iconst X409 at_244 (z := (1 : Int32)) rfl ?_
          exact OGW.retN X409 (t := .boolean) at_245 (by simp) (by decide) (by decide) I4 ⟨⟨⟨⟨rfl, Zhs1⟩, Zhs2⟩, Zh3⟩, Zh4⟩
      · intro c203
        refine OGW.aload X407 at_206 rfl rfl ?_
        refine OGW.iload X407 at_208 rfl ?_
        refine OGW.iconst X407 at_210 (z := (2 : Int32)) rfl ?_
        refine OGW.iadd X407 at_211 ?_
        refine OGW.callV X407 (hw _ (List.mem_of_getElem? (i := 179) rfl)) (hw _ (List.mem_of_getElem? (i := 180) rfl)) (notFace_of_selects (args := #[]) (mvT X407.warm (hw _ (List.mem_of_getElem? (i := 182) rfl)))) (hw _ (List.mem_of_getElem? (i := 182) rfl)) (hw _ (List.mem_of_getElem? (i := 181) rfl)) (by decide) E_rr (rm34 l Z a0 hw [] rr (nl + (2 : Int32)) rb _ gr cz tz fw (FT nl.toInt.toNat (chs ca cb cc) (chs cd ce ce)) h4 n0 S_c hcz E_rr Fc_rr Fv_rr A_rb htz (by have e : (2 : Int32).toInt = 2 := rfl; have e2 := own_add1 rnl 2 (by decide); have e3 := own_k2 c203; have e4 : (1 : Int32).toInt = 1 := rfl; omega) hL S_f hk_fw) (hw _ (List.mem_of_getElem? (i := 183) rfl)) (hw _ (List.mem_of_getElem? (i := 6) rfl)) (by decide) (W := 0) (by decide) rfl (argsL := [(.int (nl + (2 : Int32)))]) pd_31 rfl at_212 rfl (Nat.le_of_eq rfl) (by decide) (by decide) ?_
        rintro _ T411 h412 X411 ⟨rfl, eh412⟩
        rw [eh412] at X411
        show OGW Z ["}", "{", "suffix", "name", ""] p e below s n0 room_1.cells room_1.slots (fun v hh => (fun v hh => (fun v hh => (fun v hh => (Q0 Z i0 i1 i2 i3 i4 i5 cz fw h0) v hh ∧ hs1.size ≤ hh.size) v hh ∧ hs2.size ≤ hh.size) v hh ∧ h3.size ≤ hh.size) v hh ∧ h4.size ≤ hh.size) (T411.setTop (mkF m 215 #[.val (.int i0), .val (.int i1), .val (.int i2), .val (.int i3), .val (.int i4), .val (.int i5), .val (.int ca), .val (.int cb), .val (.int cc), .val (.int cd), .val (.int ce), .val (.int nl), .val (.int sl), .val (.ref na), .val (.ref sf), .val (.ref rr)] [(.int ((FT nl.toInt.toNat (chs ca cb cc) (chs cd ce ce)) (nl + (2 : Int32)).toInt.toNat))]))
        refine OGW.iload X411 at_215 rfl ?_
        refine OGW.icmp_eq_t X411 at_217 (pc' := 222) (by decide) (own_g3 (k := 0) (by have e2 := own_add1 rnl 2 (by decide); have e : (2 : Int32).toInt = 2 := rfl; omega)) ?_
        refine OGW.iload X411 at_222 rfl ?_
        refine OGW.iconst X411 at_224 (z := (2 : Int32)) rfl ?_
        refine OGW.icmp_lt X411 at_225 (pc' := 244) (by decide) ?_ ?_
        · intro c225
          refine OGW.iconst X411 at_244 (z := (1 : Int32)) rfl ?_
          exact OGW.retN X411 (t := .boolean) at_245 (by simp) (by decide) (by decide) I4 ⟨⟨⟨⟨rfl, Zhs1⟩, Zhs2⟩, Zh3⟩, Zh4⟩
        · intro c225
          refine OGW.aload X411 at_228 rfl rfl ?_
          refine OGW.iload X411 at_230 rfl ?_
          refine OGW.iconst X411 at_232 (z := (3 : Int32)) rfl ?_
          refine OGW.iadd X411 at_233 ?_
          refine OGW.callV X411 (hw _ (List.mem_of_getElem? (i := 179) rfl)) (hw _ (List.mem_of_getElem? (i := 180) rfl)) (notFace_of_selects (args := #[]) (mvT X411.warm (hw _ (List.mem_of_getElem? (i := 182) rfl)))) (hw _ (List.mem_of_getElem? (i := 182) rfl)) (hw _ (List.mem_of_getElem? (i := 181) rfl)) (by decide) E_rr (rm34 l Z a0 hw [] rr (nl + (3 : Int32)) rb _ gr cz tz fw (FT nl.toInt.toNat (chs ca cb cc) (chs cd ce ce)) h4 n0 S_c hcz E_rr Fc_rr Fv_rr A_rb htz (by have e : (3 : Int32).toInt = 3 := rfl; have e2 := own_add1 rnl 3 (by decide); have e3 := own_k2 c225; have e4 : (2 : Int32).toInt = 2 := rfl; omega) hL S_f hk_fw) (hw _ (List.mem_of_getElem? (i := 183) rfl)) (hw _ (List.mem_of_getElem? (i := 6) rfl)) (by decide) (W := 0) (by decide) rfl (argsL := [(.int (nl + (3 : Int32)))]) pd_31 rfl at_234 rfl (Nat.le_of_eq rfl) (by decide) (by decide) ?_
          rintro _ T413 h414 X413 ⟨rfl, eh414⟩
          rw [eh414] at X413
          show OGW Z ["}", "{", "suffix", "name", ""] p e below s n0 room_1.cells room_1.slots (fun v hh => (fun v hh => (fun v hh => (fun v hh => (Q0 Z i0 i1 i2 i3 i4 i5 cz fw h0) v hh ∧ hs1.size ≤ hh.size) v hh ∧ hs2.size ≤ hh.size) v hh ∧ h3.size ≤ hh.size) v hh ∧ h4.size ≤ hh.size) (T413.setTop (mkF m 237 #[.val (.int i0), .val (.int i1), .val (.int i2), .val (.int i3), .val (.int i4), .val (.int i5), .val (.int ca), .val (.int cb), .val (.int cc), .val (.int cd), .val (.int ce), .val (.int nl), .val (.int sl), .val (.ref na), .val (.ref sf), .val (.ref rr)] [(.int ((FT nl.toInt.toNat (chs ca cb cc) (chs cd ce ce)) (nl + (3 : Int32)).toInt.toNat))]))
          refine OGW.iload X413 at_237 rfl ?_
          refine OGW.icmp_eq_t X413 at_239 (pc' := 244) (by decide) (own_g3 (k := 1) (by have e2 := own_add1 rnl 3 (by decide); have e : (3 : Int32).toInt = 3 := rfl; omega)) ?_
          refine OGW.iconst X413 at_244 (z := (1 : Int32)) rfl ?_
          exact OGW.retN X413 (t := .boolean) at_245 (by simp) (by decide) (by decide) I4 ⟨⟨⟨⟨rfl, Zhs1⟩, Zhs2⟩, Zh3⟩, Zh4⟩
    · intro c168
      refine OGW.aload X405 at_171 rfl rfl ?_
      refine OGW.iconst X405 at_173 (z := (3 : Int32)) rfl ?_
      refine OGW.callV X405 (hw _ (List.mem_of_getElem? (i := 179) rfl)) (hw _ (List.mem_of_getElem? (i := 180) rfl)) (notFace_of_selects (args := #[]) (mvT X405.warm (hw _ (List.mem_of_getElem? (i := 182) rfl)))) (hw _ (List.mem_of_getElem? (i := 182) rfl)) (hw _ (List.mem_of_getElem? (i := 181) rfl)) (by decide) E_rr (rm34 l Z a0 hw [] rr (3 : Int32) rb _ gr cz tz fw (FT nl.toInt.toNat (chs ca cb cc) (chs cd ce ce)) h4 n0 S_c hcz E_rr Fc_rr Fv_rr A_rb htz (by have e : (3 : Int32).toInt = 3 := rfl; have e3 := own_k2 c168; have e4 : (3 : Int32).toInt = 3 := rfl; omega) hL S_f hk_fw) (hw _ (List.mem_of_getElem? (i := 183) rfl)) (hw _ (List.mem_of_getElem? (i := 6) rfl)) (by decide) (W := 0) (by decide) rfl (argsL := [(.int (3 : Int32))]) pd_31 rfl at_174 rfl (Nat.le_of_eq rfl) (by decide) (by decide) ?_
      rintro _ T415 h416 X415 ⟨rfl, eh416⟩
      rw [eh416] at X415
      show OGW Z ["}", "{", "suffix", "name", ""] p e below s n0 room_1.cells room_1.slots (fun v hh => (fun v hh => (fun v hh => (fun v hh => (Q0 Z i0 i1 i2 i3 i4 i5 cz fw h0) v hh ∧ hs1.size ≤ hh.size) v hh ∧ hs2.size ≤ hh.size) v hh ∧ h3.size ≤ hh.size) v hh ∧ h4.size ≤ hh.size) (T415.setTop (mkF m 177 #[.val (.int i0), .val (.int i1), .val (.int i2), .val (.int i3), .val (.int i4), .val (.int i5), .val (.int ca), .val (.int cb), .val (.int cc), .val (.int cd), .val (.int ce), .val (.int nl), .val (.int sl), .val (.ref na), .val (.ref sf), .val (.ref rr)] [(.int ((FT nl.toInt.toNat (chs ca cb cc) (chs cd ce ce)) (3 : Int32).toInt.toNat))]))
      refine OGW.iload X415 at_177 rfl ?_
      refine OGW.icmp_eq_t X415 at_179 (pc' := 184) (by decide) (own_g1 (j := 3) (by decide) (by have e3 := own_k2 c168; have e : (3 : Int32).toInt = 3 := rfl; omega)) ?_
      refine OGW.aload X415 at_184 rfl rfl ?_
      refine OGW.iload X415 at_186 rfl ?_
      refine OGW.iconst X415 at_188 (z := (1 : Int32)) rfl ?_
      refine OGW.iadd X415 at_189 ?_
      refine OGW.callV X415 (hw _ (List.mem_of_getElem? (i := 179) rfl)) (hw _ (List.mem_of_getElem? (i := 180) rfl)) (notFace_of_selects (args := #[]) (mvT X415.warm (hw _ (List.mem_of_getElem? (i := 182) rfl)))) (hw _ (List.mem_of_getElem? (i := 182) rfl)) (hw _ (List.mem_of_getElem? (i := 181) rfl)) (by decide) E_rr (rm34 l Z a0 hw [] rr (nl + (1 : Int32)) rb _ gr cz tz fw (FT nl.toInt.toNat (chs ca cb cc) (chs cd ce ce)) h4 n0 S_c hcz E_rr Fc_rr Fv_rr A_rb htz (by have e : (1 : Int32).toInt = 1 := rfl; have e2 := own_add1 rnl 1 (by decide); omega) hL S_f hk_fw) (hw _ (List.mem_of_getElem? (i := 183) rfl)) (hw _ (List.mem_of_getElem? (i := 6) rfl)) (by decide) (W := 0) (by decide) rfl (argsL := [(.int (nl + (1 : Int32)))]) pd_31 rfl at_190 rfl (Nat.le_of_eq rfl) (by decide) (by decide) ?_
      rintro _ T417 h418 X417 ⟨rfl, eh418⟩
      rw [eh418] at X417
      show OGW Z ["}", "{", "suffix", "name", ""] p e below s n0 room_1.cells room_1.slots (fun v hh => (fun v hh => (fun v hh => (fun v hh => (Q0 Z i0 i1 i2 i3 i4 i5 cz fw h0) v hh ∧ hs1.size ≤ hh.size) v hh ∧ hs2.size ≤ hh.size) v hh ∧ h3.size ≤ hh.size) v hh ∧ h4.size ≤ hh.size) (T417.setTop (mkF m 193 #[.val (.int i0), .val (.int i1), .val (.int i2), .val (.int i3), .val (.int i4), .val (.int i5), .val (.int ca), .val (.int cb), .val (.int cc), .val (.int cd), .val (.int ce), .val (.int nl), .val (.int sl), .val (.ref na), .val (.ref sf), .val (.ref rr)] [(.int ((FT nl.toInt.toNat (chs ca cb cc) (chs cd ce ce)) (nl + (1 : Int32)).toInt.toNat))]))
      refine OGW.bipush X417 at_193 (z := (125 : Int32)) rfl ?_
      refine OGW.icmp_eq_t X417 at_195 (pc' := 200) (by decide) (own_g2 (by have e2 := own_add1 rnl 1 (by decide); have e : (1 : Int32).toInt = 1 := rfl; omega)) ?_
      refine OGW.iload X417 at_200 rfl ?_
      refine OGW.iconst X417 at_202 (z := (1 : Int32)) rfl ?_
      refine OGW.icmp_lt X417 at_203 (pc' := 222) (by decide) ?_ ?_
      · intro c203
        refine OGW.iload X417 at_222 rfl ?_
        refine OGW.iconst X417 at_224 (z := (2 : Int32)) rfl ?_
        refine OGW.icmp_lt X417 at_225 (pc' := 244) (by decide) ?_ ?_
        · intro c225
          refine OGW.iconst X417 at_244 (z := (1 : Int32)) rfl ?_
          exact OGW.retN X417 (t := .boolean) at_245 (by simp) (by decide) (by decide) I4 ⟨⟨⟨⟨rfl, Zhs1⟩, Zhs2⟩, Zh3⟩, Zh4⟩
        · intro c225
          refine OGW.aload X417 at_228 rfl rfl ?_
          refine OGW.iload X417 at_230 rfl ?_
          refine OGW.iconst X417 at_232 (z := (3 : Int32)) rfl ?_
          refine OGW.iadd X417 at_233 ?_
          refine OGW.callV X417 (hw _ (List.mem_of_getElem? (i := 179) rfl)) (hw _ (List.mem_of_getElem? (i := 180) rfl)) (notFace_of_selects (args := #[]) (mvT X417.warm (hw _ (List.mem_of_getElem? (i := 182) rfl)))) (hw _ (List.mem_of_getElem? (i := 182) rfl)) (hw _ (List.mem_of_getElem? (i := 181) rfl)) (by decide) E_rr (rm34 l Z a0 hw [] rr (nl + (3 : Int32)) rb _ gr cz tz fw (FT nl.toInt.toNat (chs ca cb cc) (chs cd ce ce)) h4 n0 S_c hcz E_rr Fc_rr Fv_rr A_rb htz (by have e : (3 : Int32).toInt = 3 := rfl; have e2 := own_add1 rnl 3 (by decide); have e3 := own_k2 c225; have e4 : (2 : Int32).toInt = 2 := rfl; omega) hL S_f hk_fw) (hw _ (List.mem_of_getElem? (i := 183) rfl)) (hw _ (List.mem_of_getElem? (i := 6) rfl)) (by decide) (W := 0) (by decide) rfl (argsL := [(.int (nl + (3 : Int32)))]) pd_31 rfl at_234 rfl (Nat.le_of_eq rfl) (by decide) (by decide) ?_
          rintro _ T419 h420 X419 ⟨rfl, eh420⟩
          rw [eh420] at X419
          show OGW Z ["}", "{", "suffix", "name", ""] p e below s n0 room_1.cells room_1.slots (fun v hh => (fun v hh => (fun v hh => (fun v hh => (Q0 Z i0 i1 i2 i3 i4 i5 cz fw h0) v hh ∧ hs1.size ≤ hh.size) v hh ∧ hs2.size ≤ hh.size) v hh ∧ h3.size ≤ hh.size) v hh ∧ h4.size ≤ hh.size) (T419.setTop (mkF m 237 #[.val (.int i0), .val (.int i1), .val (.int i2), .val (.int i3), .val (.int i4), .val (.int i5), .val (.int ca), .val (.int cb), .val (.int cc), .val (.int cd), .val (.int ce), .val (.int nl), .val (.int sl), .val (.ref na), .val (.ref sf), .val (.ref rr)] [(.int ((FT nl.toInt.toNat (chs ca cb cc) (chs cd ce ce)) (nl + (3 : Int32)).toInt.toNat))]))
          refine OGW.iload X419 at_237 rfl ?_
          refine OGW.icmp_eq_t X419 at_239 (pc' := 244) (by decide) (own_g3 (k := 1) (by have e2 := own_add1 rnl 3 (by decide); have e : (3 : Int32).toInt = 3 := rfl; omega)) ?_
          refine OGW.iconst X419 at_244 (z := (1 : Int32)) rfl ?_
          exact OGW.retN X419 (t := .boolean) at_245 (by simp) (by decide) (by decide) I4 ⟨⟨⟨⟨rfl, Zhs1⟩, Zhs2⟩, Zh3⟩, Zh4⟩
      · intro c203
        refine OGW.aload X417 at_206 rfl rfl ?_
        refine OGW.iload X417 at_208 rfl ?_
        refine OGW.iconst X417 at_210 (z := (2 : Int32)) rfl ?_
        refine OGW.iadd X417 at_211 ?_
        refine OGW.callV X417 (hw _ (List.mem_of_getElem? (i := 179) rfl)) (hw _ (List.mem_of_getElem? (i := 180) rfl)) (notFace_of_selects (args := #[]) (mvT X417.warm (hw _ (List.mem_of_getElem? (i := 182) rfl)))) (hw _ (List.mem_of_getElem? (i := 182) rfl)) (hw _ (List.mem_of_getElem? (i := 181) rfl)) (by decide) E_rr (rm34 l Z a0 hw [] rr (nl + (2 : Int32)) rb _ gr cz tz fw (FT nl.toInt.toNat (chs ca cb cc) (chs cd ce ce)) h4 n0 S_c hcz E_rr Fc_rr Fv_rr A_rb htz (by have e : (2 : Int32).toInt = 2 := rfl; have e2 := own_add1 rnl 2 (by decide); have e3 := own_k2 c203; have e4 : (1 : Int32).toInt = 1 := rfl; omega) hL S_f hk_fw) (hw _ (List.mem_of_getElem? (i := 183) rfl)) (hw _ (List.mem_of_getElem? (i := 6) rfl)) (by decide) (W := 0) (by decide) rfl (argsL := [(.int (nl + (2 : Int32)))]) pd_31 rfl at_212 rfl (Nat.le_of_eq rfl) (by decide) (by decide) ?_
        rintro _ T421 h422 X421 ⟨rfl, eh422⟩
        rw [eh422] at X421
        show OGW Z ["}", "{", "suffix", "name", ""] p e below s n0 room_1.cells room_1.slots (fun v hh => (fun v hh => (fun v hh => (fun v hh => (Q0 Z i0 i1 i2 i3 i4 i5 cz fw h0) v hh ∧ hs1.size ≤ hh.size) v hh ∧ hs2.size ≤ hh.size) v hh ∧ h3.size ≤ hh.size) v hh ∧ h4.size ≤ hh.size) (T421.setTop (mkF m 215 #[.val (.int i0), .val (.int i1), .val (.int i2), .val (.int i3), .val (.int i4), .val (.int i5), .val (.int ca), .val (.int cb), .val (.int cc), .val (.int cd), .val (.int ce), .val (.int nl), .val (.int sl), .val (.ref na), .val (.ref sf), .val (.ref rr)] [(.int ((FT nl.toInt.toNat (chs ca cb cc) (chs cd ce ce)) (nl + (2 : Int32)).toInt.toNat))]))
        refine OGW.iload X421 at_215 rfl ?_
        refine OGW.icmp_eq_t X421 at_217 (pc' := 222) (by decide) (own_g3 (k := 0) (by have e2 := own_add1 rnl 2 (by decide); have e : (2 : Int32).toInt = 2 := rfl; omega)) ?_
        refine OGW.iload X421 at_222 rfl ?_
        refine OGW.iconst X421 at_224 (z := (2 : Int32)) rfl ?_
        refine OGW.icmp_lt X421 at_225 (pc' := 244) (by decide) ?_ ?_
        · intro c225
          refine OGW.iconst X421 at_244 (z := (1 : Int32)) rfl ?_
          exact OGW.retN X421 (t := .boolean) at_245 (by simp) (by decide) (by decide) I4 ⟨⟨⟨⟨rfl, Zhs1⟩, Zhs2⟩, Zh3⟩, Zh4⟩
        · intro c225
          refine OGW.aload X421 at_228 rfl rfl ?_
          refine OGW.iload X421 at_230 rfl ?_
          refine OGW.iconst X421 at_232 (z := (3 : Int32)) rfl ?_
          refine OGW.iadd X421 at_233 ?_
          refine OGW.callV X421 (hw _ (List.mem_of_getElem? (i := 179) rfl)) (hw _ (List.mem_of_getElem? (i := 180) rfl)) (notFace_of_selects (args := #[]) (mvT X421.warm (hw _ (List.mem_of_getElem? (i := 182) rfl)))) (hw _ (List.mem_of_getElem? (i := 182) rfl)) (hw _ (List.mem_of_getElem? (i := 181) rfl)) (by decide) E_rr (rm34 l Z a0 hw [] rr (nl + (3 : Int32)) rb _ gr cz tz fw (FT nl.toInt.toNat (chs ca cb cc) (chs cd ce ce)) h4 n0 S_c hcz E_rr Fc_rr Fv_rr A_rb htz (by have e : (3 : Int32).toInt = 3 := rfl; have e2 := own_add1 rnl 3 (by decide); have e3 := own_k2 c225; have e4 : (2 : Int32).toInt = 2 := rfl; omega) hL S_f hk_fw) (hw _ (List.mem_of_getElem? (i := 183) rfl)) (hw _ (List.mem_of_getElem? (i := 6) rfl)) (by decide) (W := 0) (by decide) rfl (argsL := [(.int (nl + (3 : Int32)))]) pd_31 rfl at_234 rfl (Nat.le_of_eq rfl) (by decide) (by decide) ?_
          rintro _ T423 h424 X423 ⟨rfl, eh424⟩
          rw [eh424] at X423
          show OGW Z ["}", "{", "suffix", "name", ""] p e below s n0 room_1.cells room_1.slots (fun v hh => (fun v hh => (fun v hh => (fun v hh => (Q0 Z i0 i1 i2 i3 i4 i5 cz fw h0) v hh ∧ hs1.size ≤ hh.size) v hh ∧ hs2.size ≤ hh.size) v hh ∧ h3.size ≤ hh.size) v hh ∧ h4.size ≤ hh.size) (T423.setTop (mkF m 237 #[.val (.int i0), .val (.int i1), .val (.int i2), .val (.int i3), .val (.int i4), .val (.int i5), .val (.int ca), .val (.int cb), .val (.int cc), .val (.int cd), .val (.int ce), .val (.int nl), .val (.int sl), .val (.ref na), .val (.ref sf), .val (.ref rr)] [(.int ((FT nl.toInt.toNat (chs ca cb cc) (chs cd ce ce)) (nl + (3 : Int32)).toInt.toNat))]))
          refine OGW.iload X423 at_237 rfl ?_
          refine OGW.icmp_eq_t X423 at_239 (pc' := 244) (by decide) (own_g3 (k := 1) (by have e2 := own_add1 rnl 3 (by decide); have e : (3 : Int32).toInt = 3 := rfl; omega)) ?_
          refine OGW.iconst X423 at_244 (z := (1 : Int32)) rfl ?_
          exact OGW.retN X423 (t := .boolean) at_245 (by simp) (by decide) (by decide) I4 ⟨⟨⟨⟨rfl, Zhs1⟩, Zhs2⟩, Zh3⟩, Zh4⟩
  · intro c149
    refine OGW.aload X405 at_152 rfl rfl ?_
    refine OGW.iconst X405 at_154 (z := (2 : Int32)) rfl ?_
    refine OGW.callV X405 (hw _ (List.mem_of_getElem? (i := 179) rfl)) (hw _ (List.mem_of_getElem? (i := 180) rfl)) (notFace_of_selects (args := #[]) (mvT X405.warm (hw _ (List.mem_of_getElem? (i := 182) rfl)))) (hw _ (List.mem_of_getElem? (i := 182) rfl)) (hw _ (List.mem_of_getElem? (i := 181) rfl)) (by decide) E_rr (rm34 l Z a0 hw [] rr (2 : Int32) rb _ gr cz tz fw (FT nl.toInt.toNat (chs ca cb cc) (chs cd ce ce)) h4 n0 S_c hcz E_rr Fc_rr Fv_rr A_rb htz (by have e : (2 : Int32).toInt = 2 := rfl; have e3 := own_k2 c149; have e4 : (2 : Int32).toInt = 2 := rfl; omega) hL S_f hk_fw) (hw _ (List.mem_of_getElem? (i := 183) rfl)) (hw _ (List.mem_of_getElem? (i := 6) rfl)) (by decide) (W := 0) (by decide) rfl (argsL := [(.int (2 : Int32))]) pd_31 rfl at_155 rfl (Nat.le_of_eq rfl) (by decide) (by decide) ?_
    rintro _ T425 h426 X425 ⟨rfl, eh426⟩
    rw [eh426] at X425
    show OGW Z ["}", "{", "suffix", "name", ""] p e below s n0 room_1.cells room_1.slots (fun v hh => (fun v hh => (fun v hh => (fun v hh => (Q0 Z i0 i1 i2 i3 i4 i5 cz fw h0) v hh ∧ hs1.size ≤ hh.size) v hh ∧ hs2.size ≤ hh.size) v hh ∧ h3.size ≤ hh.size) v hh ∧ h4.size ≤ hh.size) (T425.setTop (mkF m 158 #[.val (.int i0), .val (.int i1), .val (.int i2), .val (.int i3), .val (.int i4), .val (.int i5), .val (.int ca), .val (.int cb), .val (.int cc), .val (.int cd), .val (.int ce), .val (.int nl), .val (.int sl), .val (.ref na), .val (.ref sf), .val (.ref rr)] [(.int ((FT nl.toInt.toNat (chs ca cb cc) (chs cd ce ce)) (2 : Int32).toInt.toNat))]))
    refine OGW.iload X425 at_158 rfl ?_
    refine OGW.icmp_eq_t X425 at_160 (pc' := 165) (by decide) (own_g1 (j := 2) (by decide) (by have e3 := own_k2 c149; have e : (2 : Int32).toInt = 2 := rfl; omega)) ?_
    refine OGW.iload X425 at_165 rfl ?_
    refine OGW.iconst X425 at_167 (z := (3 : Int32)) rfl ?_
    refine OGW.icmp_lt X425 at_168 (pc' := 184) (by decide) ?_ ?_
    · intro c168
      refine OGW.aload X425 at_184 rfl rfl ?_
      refine OGW.iload X425 at_186 rfl ?_
      refine OGW.iconst X425 at_188 (z := (1 : Int32)) rfl ?_
      refine OGW.iadd X425 at_189 ?_
      refine OGW.callV X425 (hw _ (List.mem_of_getElem? (i := 179) rfl)) (hw _ (List.mem_of_getElem? (i := 180) rfl)) (notFace_of_selects (args := #[]) (mvT X425.warm (hw _ (List.mem_of_getElem? (i := 182) rfl)))) (hw _ (List.mem_of_getElem? (i := 182) rfl)) (hw _ (List.mem_of_getElem? (i := 181) rfl)) (by decide) E_rr (rm34 l Z a0 hw [] rr (nl + (1 : Int32)) rb _ gr cz tz fw (FT nl.toInt.toNat (chs ca cb cc) (chs cd ce ce)) h4 n0 S_c hcz E_rr Fc_rr Fv_rr A_rb htz (by have e : (1 : Int32).toInt = 1 := rfl; have e2 := own_add1 rnl 1 (by decide); omega) hL S_f hk_fw) (hw _ (List.mem_of_getElem? (i := 183) rfl)) (hw _ (List.mem_of_getElem? (i := 6) rfl)) (by decide) (W := 0) (by decide) rfl (argsL := [(.int (nl + (1 : Int32)))]) pd_31 rfl at_190 rfl (Nat.le_of_eq rfl) (by decide) (by decide) ?_
      rintro _ T427 h428 X427 ⟨rfl, eh428⟩
      rw [eh428] at X427
      show OGW Z ["}", "{", "suffix", "name", ""] p e below s n0 room_1.cells room_1.slots (fun v hh => (fun v hh => (fun v hh => (fun v hh => (Q0 Z i0 i1 i2 i3 i4 i5 cz fw h0) v hh ∧ hs1.size ≤ hh.size) v hh ∧ hs2.size ≤ hh.size) v hh ∧ h3.size ≤ hh.size) v hh ∧ h4.size ≤ hh.size) (T427.setTop (mkF m 193 #[.val (.int i0), .val (.int i1), .val (.int i2), .val (.int i3), .val (.int i4), .val (.int i5), .val (.int ca), .val (.int cb), .val (.int cc), .val (.int cd), .val (.int ce), .val (.int nl), .val (.int sl), .val (.ref na), .val (.ref sf), .val (.ref rr)] [(.int ((FT nl.toInt.toNat (chs ca cb cc) (chs cd ce ce)) (nl + (1 : Int32)).toInt.toNat))]))
      refine OGW.bipush X427 at_193 (z := (125 : Int32)) rfl ?_
      refine OGW.icmp_eq_t X427 at_195 (pc' := 200) (by decide) (own_g2 (by have e2 := own_add1 rnl 1 (by decide); have e : (1 : Int32).toInt = 1 := rfl; omega)) ?_
      refine OGW.iload X427 at_200 rfl ?_
      refine OGW.iconst X427 at_202 (z := (1 : Int32)) rfl ?_
      refine OGW.icmp_lt X427 at_203 (pc' := 222) (by decide) ?_ ?_
      · intro c203
        refine OGW.iload X427 at_222 rfl ?_
        refine OGW.iconst X427 at_224 (z := (2 : Int32)) rfl ?_
        refine OGW.icmp_lt X427 at_225 (pc' := 244) (by decide) ?_ ?_
        · intro c225
          refine OGW.iconst X427 at_244 (z := (1 : Int32)) rfl ?_
          exact OGW.retN X427 (t := .boolean) at_245 (by simp) (by decide) (by decide) I4 ⟨⟨⟨⟨rfl, Zhs1⟩, Zhs2⟩, Zh3⟩, Zh4⟩
        · intro c225
          refine OGW.aload X427 at_228 rfl rfl ?_
          refine OGW.iload X427 at_230 rfl ?_
          refine OGW.iconst X427 at_232 (z := (3 : Int32)) rfl ?_
          refine OGW.iadd X427 at_233 ?_
          refine OGW.callV X427 (hw _ (List.mem_of_getElem? (i := 179) rfl)) (hw _ (List.mem_of_getElem? (i := 180) rfl)) (notFace_of_selects (args := #[]) (mvT X427.warm (hw _ (List.mem_of_getElem? (i := 182) rfl)))) (hw _ (List.mem_of_getElem? (i := 182) rfl)) (hw _ (List.mem_of_getElem? (i := 181) rfl)) (by decide) E_rr (rm34 l Z a0 hw [] rr (nl + (3 : Int32)) rb _ gr cz tz fw (FT nl.toInt.toNat (chs ca cb cc) (chs cd ce ce)) h4 n0 S_c hcz E_rr Fc_rr Fv_rr A_rb htz (by have e : (3 : Int32).toInt = 3 := rfl; have e2 := own_add1 rnl 3 (by decide); have e3 := own_k2 c225; have e4 : (2 : Int32).toInt = 2 := rfl; omega) hL S_f hk_fw) (hw _ (List.mem_of_getElem? (i := 183) rfl)) (hw _ (List.mem_of_getElem? (i := 6) rfl)) (by decide) (W := 0) (by decide) rfl (argsL := [(.int (nl + (3 : Int32)))]) pd_31 rfl at_234 rfl (Nat.le_of_eq rfl) (by decide) (by decide) ?_
          rintro _ T429 h430 X429 ⟨rfl, eh430⟩
          rw [eh430] at X429
          show OGW Z ["}", "{", "suffix", "name", ""] p e below s n0 room_1.cells room_1.slots (fun v hh => (fun v hh => (fun v hh => (fun v hh => (Q0 Z i0 i1 i2 i3 i4 i5 cz fw h0) v hh ∧ hs1.size ≤ hh.size) v hh ∧ hs2.size ≤ hh.size) v hh ∧ h3.size ≤ hh.size) v hh ∧ h4.size ≤ hh.size) (T429.setTop (mkF m 237 #[.val (.int i0), .val (.int i1), .val (.int i2), .val (.int i3), .val (.int i4), .val (.int i5), .val (.int ca), .val (.int cb), .val (.int cc), .val (.int cd), .val (.int ce), .val (.int nl), .val (.int sl), .val (.ref na), .val (.ref sf), .val (.ref rr)] [(.int ((FT nl.toInt.toNat (chs ca cb cc) (chs cd ce ce)) (nl + (3 : Int32)).toInt.toNat))]))
          refine OGW.iload X429 at_237 rfl ?_
          refine OGW.icmp_eq_t X429 at_239 (pc' := 244) (by decide) (own_g3 (k := 1) (by have e2 := own_add1 rnl 3 (by decide); have e : (3 : Int32).toInt = 3 := rfl; omega)) ?_
          refine OGW.iconst X429 at_244 (z := (1 : Int32)) rfl ?_
          exact OGW.retN X429 (t := .boolean) at_245 (by simp) (by decide) (by decide) I4 ⟨⟨⟨⟨rfl, Zhs1⟩, Zhs2⟩, Zh3⟩, Zh4⟩
      · intro c203
        refine OGW.aload X427 at_206 rfl rfl ?_
        refine OGW.iload X427 at_208 rfl ?_
        refine OGW.iconst X427 at_210 (z := (2 : Int32)) rfl ?_
        refine OGW.iadd X427 at_211 ?_
        refine OGW.callV X427 (hw _ (List.mem_of_getElem? (i := 179) rfl)) (hw _ (List.mem_of_getElem? (i := 180) rfl)) (notFace_of_selects (args := #[]) (mvT X427.warm (hw _ (List.mem_of_getElem? (i := 182) rfl)))) (hw _ (List.mem_of_getElem? (i := 182) rfl)) (hw _ (List.mem_of_getElem? (i := 181) rfl)) (by decide) E_rr (rm34 l Z a0 hw [] rr (nl + (2 : Int32)) rb _ gr cz tz fw (FT nl.toInt.toNat (chs ca cb cc) (chs cd ce ce)) h4 n0 S_c hcz E_rr Fc_rr Fv_rr A_rb htz (by have e : (2 : Int32).toInt = 2 := rfl; have e2 := own_add1 rnl 2 (by decide); have e3 := own_k2 c203; have e4 : (1 : Int32).toInt = 1 := rfl; omega) hL S_f hk_fw) (hw _ (List.mem_of_getElem? (i := 183) rfl)) (hw _ (List.mem_of_getElem? (i := 6) rfl)) (by decide) (W := 0) (by decide) rfl (argsL := [(.int (nl + (2 : Int32)))]) pd_31 rfl at_212 rfl (Nat.le_of_eq rfl) (by decide) (by decide) ?_
        rintro _ T431 h432 X431 ⟨rfl, eh432⟩
        rw [eh432] at X431
        show OGW Z ["}", "{", "suffix", "name", ""] p e below s n0 room_1.cells room_1.slots (fun v hh => (fun v hh => (fun v hh => (fun v hh => (Q0 Z i0 i1 i2 i3 i4 i5 cz fw h0) v hh ∧ hs1.size ≤ hh.size) v hh ∧ hs2.size ≤ hh.size) v hh ∧ h3.size ≤ hh.size) v hh ∧ h4.size ≤ hh.size) (T431.setTop (mkF m 215 #[.val (.int i0), .val (.int i1), .val (.int i2), .val (.int i3), .val (.int i4), .val (.int i5), .val (.int ca), .val (.int cb), .val (.int cc), .val (.int cd), .val (.int ce), .val (.int nl), .val (.int sl), .val (.ref na), .val (.ref sf), .val (.ref rr)] [(.int ((FT nl.toInt.toNat (chs ca cb cc) (chs cd ce ce)) (nl + (2 : Int32)).toInt.toNat))]))
        refine OGW.iload X431 at_215 rfl ?_
        refine OGW.icmp_eq_t X431 at_217 (pc' := 222) (by decide) (own_g3 (k := 0) (by have e2 := own_add1 rnl 2 (by decide); have e : (2 : Int32).toInt = 2 := rfl; omega)) ?_
        refine OGW.iload X431 at_222 rfl ?_
        refine OGW.iconst X431 at_224 (z := (2 : Int32)) rfl ?_
        refine OGW.icmp_lt X431 at_225 (pc' := 244) (by decide) ?_ ?_
        · intro c225
          refine OGW.iconst X431 at_244 (z := (1 : Int32)) rfl ?_
          exact OGW.retN X431 (t := .boolean) at_245 (by simp) (by decide) (by decide) I4 ⟨⟨⟨⟨rfl, Zhs1⟩, Zhs2⟩, Zh3⟩, Zh4⟩
        · intro c225
          refine OGW.aload X431 at_228 rfl rfl ?_
          refine OGW.iload X431 at_230 rfl ?_
          refine OGW.iconst X431 at_232 (z := (3 : Int32)) rfl ?_
          refine OGW.iadd X431 at_233 ?_
          refine OGW.callV X431 (hw _ (List.mem_of_getElem? (i := 179) rfl)) (hw _ (List.mem_of_getElem? (i := 180) rfl)) (notFace_of_selects (args := #[]) (mvT X431.warm (hw _ (List.mem_of_getElem? (i := 182) rfl)))) (hw _ (List.mem_of_getElem? (i := 182) rfl)) (hw _ (List.mem_of_getElem? (i := 181) rfl)) (by decide) E_rr (rm34 l Z a0 hw [] rr (nl + (3 : Int32)) rb _ gr cz tz fw (FT nl.toInt.toNat (chs ca cb cc) (chs cd ce ce)) h4 n0 S_c hcz E_rr Fc_rr Fv_rr A_rb htz (by have e : (3 : Int32).toInt = 3 := rfl; have e2 := own_add1 rnl 3 (by decide); have e3 := own_k2 c225; have e4 : (2 : Int32).toInt = 2 := rfl; omega) hL S_f hk_fw) (hw _ (List.mem_of_getElem? (i := 183) rfl)) (hw _ (List.mem_of_getElem? (i := 6) rfl)) (by decide) (W := 0) (by decide) rfl (argsL := [(.int (nl + (3 : Int32)))]) pd_31 rfl at_234 rfl (Nat.le_of_eq rfl) (by decide) (by decide) ?_
          rintro _ T433 h434 X433 ⟨rfl, eh434⟩
          rw [eh434] at X433
          show OGW Z ["}", "{", "suffix", "name", ""] p e below s n0 room_1.cells room_1.slots (fun v hh => (fun v hh => (fun v hh => (fun v hh => (Q0 Z i0 i1 i2 i3 i4 i5 cz fw h0) v hh ∧ hs1.size ≤ hh.size) v hh ∧ hs2.size ≤ hh.size) v hh ∧ h3.size ≤ hh.size) v hh ∧ h4.size ≤ hh.size) (T433.setTop (mkF m 237 #[.val (.int i0), .val (.int i1), .val (.int i2), .val (.int i3), .val (.int i4), .val (.int i5), .val (.int ca), .val (.int cb), .val (.int cc), .val (.int cd), .val (.int ce), .val (.int nl), .val (.int sl), .val (.ref na), .val (.ref sf), .val (.ref rr)] [(.int ((FT nl.toInt.toNat (chs ca cb cc) (chs cd ce ce)) (nl + (3 : Int32)).toInt.toNat))]))
          refine OGW.iload X433 at_237 rfl ?_
          refine OGW.icmp_eq_t X433 at_239 (pc' := 244) (by decide) (own_g3 (k := 1) (by have e2 := own_add1 rnl 3 (by decide); have e : (3 : Int32).toInt = 3 := rfl; omega)) ?_
          refine OGW.iconst X433 at_244 (z := (1 : Int32)) rfl ?_
          exact OGW.retN X433 (t := .boolean) at_245 (by simp) (by decide) (by decide) I4 ⟨⟨⟨⟨rfl, Zhs1⟩, Zhs2⟩, Zh3⟩, Zh4⟩
    · intro c168
      refine OGW.aload X425 at_171 rfl rfl ?_
      refine OGW.iconst X425 at_173 (z := (3 : Int32)) rfl ?_
      refine OGW.callV X425 (hw _ (List.mem_of_getElem? (i := 179) rfl)) (hw _ (List.mem_of_getElem? (i := 180) rfl)) (notFace_of_selects (args := #[]) (mvT X425.warm (hw _ (List.mem_of_getElem? (i := 182) rfl)))) (hw _ (List.mem_of_getElem? (i := 182) rfl)) (hw _ (List.mem_of_getElem? (i := 181) rfl)) (by decide) E_rr (rm34 l Z a0 hw [] rr (3 : Int32) rb _ gr cz tz fw (FT nl.toInt.toNat (chs ca cb cc) (chs cd ce ce)) h4 n0 S_c hcz E_rr Fc_rr Fv_rr A_rb htz (by have e : (3 : Int32).toInt = 3 := rfl; have e3 := own_k2 c168; have e4 : (3 : Int32).toInt = 3 := rfl; omega) hL S_f hk_fw) (hw _ (List.mem_of_getElem? (i := 183) rfl)) (hw _ (List.mem_of_getElem? (i := 6) rfl)) (by decide) (W := 0) (by decide) rfl (argsL := [(.int (3 : Int32))]) pd_31 rfl at_174 rfl (Nat.le_of_eq rfl) (by decide) (by decide) ?_
      rintro _ T435 h436 X435 ⟨rfl, eh436⟩
      rw [eh436] at X435
      show OGW Z ["}", "{", "suffix", "name", ""] p e below s n0 room_1.cells room_1.slots (fun v hh => (fun v hh => (fun v hh => (fun v hh => (Q0 Z i0 i1 i2 i3 i4 i5 cz fw h0) v hh ∧ hs1.size ≤ hh.size) v hh ∧ hs2.size ≤ hh.size) v hh ∧ h3.size ≤ hh.size) v hh ∧ h4.size ≤ hh.size) (T435.setTop (mkF m 177 #[.val (.int i0), .val (.int i1), .val (.int i2), .val (.int i3), .val (.int i4), .val (.int i5), .val (.int ca), .val (.int cb), .val (.int cc), .val (.int cd), .val (.int ce), .val (.int nl), .val (.int sl), .val (.ref na), .val (.ref sf), .val (.ref rr)] [(.int ((FT nl.toInt.toNat (chs ca cb cc) (chs cd ce ce)) (3 : Int32).toInt.toNat))]))
      refine OGW.iload X435 at_177 rfl ?_
      refine OGW.icmp_eq_t X435 at_179 (pc' := 184) (by decide) (own_g1 (j := 3) (by decide) (by have e3 := own_k2 c168; have e : (3 : Int32).toInt = 3 := rfl; omega)) ?_
      refine OGW.aload X435 at_184 rfl rfl ?_
      refine OGW.iload X435 at_186 rfl ?_
      refine OGW.iconst X435 at_188 (z := (1 : Int32)) rfl ?_
      refine OGW.iadd X435 at_189 ?_
      refine OGW.callV X435 (hw _ (List.mem_of_getElem? (i := 179) rfl)) (hw _ (List.mem_of_getElem? (i := 180) rfl)) (notFace_of_selects (args := #[]) (mvT X435.warm (hw _ (List.mem_of_getElem? (i := 182) rfl)))) (hw _ (List.mem_of_getElem? (i := 182) rfl)) (hw _ (List.mem_of_getElem? (i := 181) rfl)) (by decide) E_rr (rm34 l Z a0 hw [] rr (nl + (1 : Int32)) rb _ gr cz tz fw (FT nl.toInt.toNat (chs ca cb cc) (chs cd ce ce)) h4 n0 S_c hcz E_rr Fc_rr Fv_rr A_rb htz (by have e : (1 : Int32).toInt = 1 := rfl; have e2 := own_add1 rnl 1 (by decide); omega) hL S_f hk_fw) (hw _ (List.mem_of_getElem? (i := 183) rfl)) (hw _ (List.mem_of_getElem? (i := 6) rfl)) (by decide) (W := 0) (by decide) rfl (argsL := [(.int (nl + (1 : Int32)))]) pd_31 rfl at_190 rfl (Nat.le_of_eq rfl) (by decide) (by decide) ?_
      rintro _ T437 h438 X437 ⟨rfl, eh438⟩
      rw [eh438] at X437
      show OGW Z ["}", "{", "suffix", "name", ""] p e below s n0 room_1.cells room_1.slots (fun v hh => (fun v hh => (fun v hh => (fun v hh => (Q0 Z i0 i1 i2 i3 i4 i5 cz fw h0) v hh ∧ hs1.size ≤ hh.size) v hh ∧ hs2.size ≤ hh.size) v hh ∧ h3.size ≤ hh.size) v hh ∧ h4.size ≤ hh.size) (T437.setTop (mkF m 193 #[.val (.int i0), .val (.int i1), .val (.int i2), .val (.int i3), .val (.int i4), .val (.int i5), .val (.int ca), .val (.int cb), .val (.int cc), .val (.int cd), .val (.int ce), .val (.int nl), .val (.int sl), .val (.ref na), .val (.ref sf), .val (.ref rr)] [(.int ((FT nl.toInt.toNat (chs ca cb cc) (chs cd ce ce)) (nl + (1 : Int32)).toInt.toNat))]))
      refine OGW.bipush X437 at_193 (z := (125 : Int32)) rfl ?_
      refine OGW.icmp_eq_t X437 at_195 (pc' := 200) (by decide) (own_g2 (by have e2 := own_add1 rnl 1 (by decide); have e : (1 : Int32).toInt = 1 := rfl; omega)) ?_
      refine OGW.iload X437 at_200 rfl ?_
      refine OGW.iconst X437 at_202 (z := (1 : Int32)) rfl ?_
      refine OGW.icmp_lt X437 at_203 (pc' := 222) (by decide) ?_ ?_
      · intro c203
        refine OGW.iload X437 at_222 rfl ?_
        refine OGW.iconst X437 at_224 (z := (2 : Int32)) rfl ?_
        refine OGW.icmp_lt X437 at_225 (pc' := 244) (by decide) ?_ ?_
        · intro c225
          refine OGW.iconst X437 at_244 (z := (1 : Int32)) rfl ?_
          exact OGW.retN X437 (t := .boolean) at_245 (by simp) (by decide) (by decide) I4 ⟨⟨⟨⟨rfl, Zhs1⟩, Zhs2⟩, Zh3⟩, Zh4⟩
        · intro c225
          refine OGW.aload X437 at_228 rfl rfl ?_
          refine OGW.iload X437 at_230 rfl ?_
          refine OGW.iconst X437 at_232 (z := (3 : Int32)) rfl ?_
          refine OGW.iadd X437 at_233 ?_
          refine OGW.callV X437 (hw _ (List.mem_of_getElem? (i := 179) rfl)) (hw _ (List.mem_of_getElem? (i := 180) rfl)) (notFace_of_selects (args := #[]) (mvT X437.warm (hw _ (List.mem_of_getElem? (i := 182) rfl)))) (hw _ (List.mem_of_getElem? (i := 182) rfl)) (hw _ (List.mem_of_getElem? (i := 181) rfl)) (by decide) E_rr (rm34 l Z a0 hw [] rr (nl + (3 : Int32)) rb _ gr cz tz fw (FT nl.toInt.toNat (chs ca cb cc) (chs cd ce ce)) h4 n0 S_c hcz E_rr Fc_rr Fv_rr A_rb htz (by have e : (3 : Int32).toInt = 3 := rfl; have e2 := own_add1 rnl 3 (by decide); have e3 := own_k2 c225; have e4 : (2 : Int32).toInt = 2 := rfl; omega) hL S_f hk_fw) (hw _ (List.mem_of_getElem? (i := 183) rfl)) (hw _ (List.mem_of_getElem? (i := 6) rfl)) (by decide) (W := 0) (by decide) rfl (argsL := [(.int (nl + (3 : Int32)))]) pd_31 rfl at_234 rfl (Nat.le_of_eq rfl) (by decide) (by decide) ?_
          rintro _ T439 h440 X439 ⟨rfl, eh440⟩
          rw [eh440] at X439
          show OGW Z ["}", "{", "suffix", "name", ""] p e below s n0 room_1.cells room_1.slots (fun v hh => (fun v hh => (fun v hh => (fun v hh => (Q0 Z i0 i1 i2 i3 i4 i5 cz fw h0) v hh ∧ hs1.size ≤ hh.size) v hh ∧ hs2.size ≤ hh.size) v hh ∧ h3.size ≤ hh.size) v hh ∧ h4.size ≤ hh.size) (T439.setTop (mkF m 237 #[.val (.int i0), .val (.int i1), .val (.int i2), .val (.int i3), .val (.int i4), .val (.int i5), .val (.int ca), .val (.int cb), .val (.int cc), .val (.int cd), .val (.int ce), .val (.int nl), .val (.int sl), .val (.ref na), .val (.ref sf), .val (.ref rr)] [(.int ((FT nl.toInt.toNat (chs ca cb cc) (chs cd ce ce)) (nl + (3 : Int32)).toInt.toNat))]))
          refine OGW.iload X439 at_237 rfl ?_
          refine OGW.icmp_eq_t X439 at_239 (pc' := 244) (by decide) (own_g3 (k := 1) (by have e2 := own_add1 rnl 3 (by decide); have e : (3 : Int32).toInt = 3 := rfl; omega)) ?_
          refine OGW.iconst X439 at_244 (z := (1 : Int32)) rfl ?_
          exact OGW.retN X439 (t := .boolean) at_245 (by simp) (by decide) (by decide) I4 ⟨⟨⟨⟨rfl, Zhs1⟩, Zhs2⟩, Zh3⟩, Zh4⟩
      · intro c203
        refine OGW.aload X437 at_206 rfl rfl ?_
        refine OGW.iload X437 at_208 rfl ?_
        refine OGW.iconst X437 at_210 (z := (2 : Int32)) rfl ?_
        refine OGW.iadd X437 at_211 ?_
        refine OGW.callV X437 (hw _ (List.mem_of_getElem? (i := 179) rfl)) (hw _ (List.mem_of_getElem? (i := 180) rfl)) (notFace_of_selects (args := #[]) (mvT X437.warm (hw _ (List.mem_of_getElem? (i := 182) rfl)))) (hw _ (List.mem_of_getElem? (i := 182) rfl)) (hw _ (List.mem_of_getElem? (i := 181) rfl)) (by decide) E_rr (rm34 l Z a0 hw [] rr (nl + (2 : Int32)) rb _ gr cz tz fw (FT nl.toInt.toNat (chs ca cb cc) (chs cd ce ce)) h4 n0 S_c hcz E_rr Fc_rr Fv_rr A_rb htz (by have e : (2 : Int32).toInt = 2 := rfl; have e2 := own_add1 rnl 2 (by decide); have e3 := own_k2 c203; have e4 : (1 : Int32).toInt = 1 := rfl; omega) hL S_f hk_fw) (hw _ (List.mem_of_getElem? (i := 183) rfl)) (hw _ (List.mem_of_getElem? (i := 6) rfl)) (by decide) (W := 0) (by decide) rfl (argsL := [(.int (nl + (2 : Int32)))]) pd_31 rfl at_212 rfl (Nat.le_of_eq rfl) (by decide) (by decide) ?_
        rintro _ T441 h442 X441 ⟨rfl, eh442⟩
        rw [eh442] at X441
        show OGW Z ["}", "{", "suffix", "name", ""] p e below s n0 room_1.cells room_1.slots (fun v hh => (fun v hh => (fun v hh => (fun v hh => (Q0 Z i0 i1 i2 i3 i4 i5 cz fw h0) v hh ∧ hs1.size ≤ hh.size) v hh ∧ hs2.size ≤ hh.size) v hh ∧ h3.size ≤ hh.size) v hh ∧ h4.size ≤ hh.size) (T441.setTop (mkF m 215 #[.val (.int i0), .val (.int i1), .val (.int i2), .val (.int i3), .val (.int i4), .val (.int i5), .val (.int ca), .val (.int cb), .val (.int cc), .val (.int cd), .val (.int ce), .val (.int nl), .val (.int sl), .val (.ref na), .val (.ref sf), .val (.ref rr)] [(.int ((FT nl.toInt.toNat (chs ca cb cc) (chs cd ce ce)) (nl + (2 : Int32)).toInt.toNat))]))
        refine OGW.iload X441 at_215 rfl ?_
        refine OGW.icmp_eq_t X441 at_217 (pc' := 222) (by decide) (own_g3 (k := 0) (by have e2 := own_add1 rnl 2 (by decide); have e : (2 : Int32).toInt = 2 := rfl; omega)) ?_
        refine OGW.iload X441 at_222 rfl ?_
        refine OGW.iconst X441 at_224 (z := (2 : Int32)) rfl ?_
        refine OGW.icmp_lt X441 at_225 (pc' := 244) (by decide) ?_ ?_
        · intro c225
          refine OGW.iconst X441 at_244 (z := (1 : Int32)) rfl ?_
          exact OGW.retN X441 (t := .boolean) at_245 (by simp) (by decide) (by decide) I4 ⟨⟨⟨⟨rfl, Zhs1⟩, Zhs2⟩, Zh3⟩, Zh4⟩
        · intro c225
          refine OGW.aload X441 at_228 rfl rfl ?_
          refine OGW.iload X441 at_230 rfl ?_
          refine OGW.iconst X441 at_232 (z := (3 : Int32)) rfl ?_
          refine OGW.iadd X441 at_233 ?_
          refine OGW.callV X441 (hw _ (List.mem_of_getElem? (i := 179) rfl)) (hw _ (List.mem_of_getElem? (i := 180) rfl)) (notFace_of_selects (args := #[]) (mvT X441.warm (hw _ (List.mem_of_getElem? (i := 182) rfl)))) (hw _ (List.mem_of_getElem? (i := 182) rfl)) (hw _ (List.mem_of_getElem? (i := 181) rfl)) (by decide) E_rr (rm34 l Z a0 hw [] rr (nl + (3 : Int32)) rb _ gr cz tz fw (FT nl.toInt.toNat (chs ca cb cc) (chs cd ce ce)) h4 n0 S_c hcz E_rr Fc_rr Fv_rr A_rb htz (by have e : (3 : Int32).toInt = 3 := rfl; have e2 := own_add1 rnl 3 (by decide); have e3 := own_k2 c225; have e4 : (2 : Int32).toInt = 2 := rfl; omega) hL S_f hk_fw) (hw _ (List.mem_of_getElem? (i := 183) rfl)) (hw _ (List.mem_of_getElem? (i := 6) rfl)) (by decide) (W := 0) (by decide) rfl (argsL := [(.int (nl + (3 : Int32)))]) pd_31 rfl at_234 rfl (Nat.le_of_eq rfl) (by decide) (by decide) ?_
          rintro _ T443 h444 X443 ⟨rfl, eh444⟩
          rw [eh444] at X443
          show OGW Z ["}", "{", "suffix", "name", ""] p e below s n0 room_1.cells room_1.slots (fun v hh => (fun v hh => (fun v hh => (fun v hh => (Q0 Z i0 i1 i2 i3 i4 i5 cz fw h0) v hh ∧ hs1.size ≤ hh.size) v hh ∧ hs2.size ≤ hh.size) v hh ∧ h3.size ≤ hh.size) v hh ∧ h4.size ≤ hh.size) (T443.setTop (mkF m 237 #[.val (.int i0), .val (.int i1), .val (.int i2), .val (.int i3), .val (.int i4), .val (.int i5), .val (.int ca), .val (.int cb), .val (.int cc), .val (.int cd), .val (.int ce), .val (.int nl), .val (.int sl), .val (.ref na), .val (.ref sf), .val (.ref rr)] [(.int ((FT nl.toInt.toNat (chs ca cb cc) (chs cd ce ce)) (nl + (3 : Int32)).toInt.toNat))]))
          refine OGW.iload X443 at_237 rfl ?_
          refine OGW.icmp_eq_t X443 at_239 (pc' := 244) (by decide) (own_g3 (k := 1) (by have e2 := own_add1 rnl 3 (by decide); have e : (3 : Int32).toInt = 3 := rfl; omega)) ?_
          refine OGW.iconst X443 at_244 (z := (1 : Int32)) rfl ?_
          exact OGW.retN X443 (t := .boolean) at_245 (by simp) (by decide) (by decide) I4 ⟨⟨⟨⟨rfl, Zhs1⟩, Zhs2⟩, Zh3⟩, Zh4⟩
set_option maxRecDepth 65536 in
set_option maxHeartbeats 40000000 in
theorem comes_1 {Post : Tables → Env → Array Value → State → Outcome → State → Prop} (hpost : ∀ tb e args s v u, (limb_1_1.after args s (.returned v) u = true ∧ limb_1_2.after args s (.returned v) u = true ∧ True) → ReturnedEndW s (.returned v) u (Jvm.fieldLocs frame_1_writes args s ++ Jvm.arrayLocs frame_1_arrays args s ++ Jvm.staticLocs frame_1_statics s) 40 5312 → Post tb e args s (.returned v) u) :
    ArmFor flags0 classFile x code maxLocals ret World_1 tables_1 room_1 Calls_1 rest_1 Pre_1 Post := by
  intro l hfl _ _ p e ha hc hk s m args below hf hA hF happ hP
  obtain ⟨hcalls, hrest, hpre⟩ := hP
  obtain ⟨-, -, -, hnamed, -, -, -, hat⟩ := (Spec.applies_iff hf).mp happ
  obtain ⟨hg, hn⟩ := and_e (Cond.before_iff.mp (show (Jvm.Cond.and given_1 narrow_1).before args s = true from hpre))
  obtain ⟨g1, g2⟩ := and_e hg
  obtain ⟨g3, g4⟩ := and_e g2
  obtain ⟨g5, g6⟩ := and_e g4
  obtain ⟨g7, g8⟩ := and_e g6
  obtain ⟨g9, g10⟩ := and_e g8
  obtain ⟨g11, g12⟩ := and_e g10
  obtain ⟨w0, w1, w2, w3, w4, w5, rfl⟩ : ∃ w0 w1 w2 w3 w4 w5 : Value, args = #[w0, w1, w2, w3, w4, w5] := by
    have hs : args.size = 6 := by simpa [Cond.value, given_1] using g1
    obtain ⟨L⟩ := args
    match L, hs with
    | [w0, w1, w2, w3, w4, w5], _ => exact ⟨w0, w1, w2, w3, w4, w5, rfl⟩
  have hw := fun d (hd : d ∈ tables_1) => atoms_spec (ws := Jvm.Cond.code x code maxLocals ret :: tables_1) hat d (List.mem_cons_of_mem _ hd)
  have hfit : Fit s := fun {y c} hc i hi => by
    obtain ⟨ha, rfl⟩ := Array.getElem?_eq_some_iff.mp hc
    have q := List.all_eq_true.mp ((Array.all_eq_true_iff_forall_mem.mp hF) _ (Array.getElem_mem ha)) i (List.mem_range.mpr hi)
    simpa [Array.getElem?_eq_getElem hi] using q
  obtain ⟨hsets, hown0⟩ := atoms_of _ (rest_1_c_eq ▸ (show rest_1_c.before _ s = true from hrest))
  have hr0 := Cond.before_iff.mp hown0
  obtain ⟨i0, ei0⟩ := is_v g3
  obtain rfl : w0 = (.int i0) := Option.some.inj ei0
  obtain ⟨i1, ei1⟩ := is_v g5
  obtain rfl : w1 = (.int i1) := Option.some.inj ei1
  obtain ⟨i2, ei2⟩ := is_v g7
  obtain rfl : w2 = (.int i2) := Option.some.inj ei2
  obtain ⟨i3, ei3⟩ := is_v g9
  obtain rfl : w3 = (.int i3) := Option.some.inj ei3
  obtain ⟨i4, ei4⟩ := is_v g11
  obtain rfl : w4 = (.int i4) := Option.some.inj ei4
  obtain ⟨i5, ei5⟩ := is_v g12
  obtain rfl : w5 = (.int i5) := Option.some.inj ei5
  have n3 := not_v (Cond.before_iff.mp (hsets _ (List.mem_of_getElem? (i := 2) rfl)))
  obtain ⟨cz, ecz⟩ := is_v (Cond.before_iff.mp (hsets _ (List.mem_of_getElem? (i := 1) rfl)))
  have S_c : Sta s s.heap "java/lang/String" "COMPACT_STRINGS" "Z" (.int cz) := Sta.start ecz (Or.inl (hsets _ (List.mem_of_getElem? (i := 0) rfl)))
  have hcz : ¬ (cz = (0 : Int32)) := gotF (Cond.eq_ints ecz (Term.int_eval (0))) n3
  obtain ⟨fw, efw, hk_fw⟩ := isR_v (Cond.before_iff.mp (hsets _ (List.mem_of_getElem? (i := 8) rfl)))
  have S_f := Sta.start efw (Or.inl (hsets _ (List.mem_of_getElem? (i := 7) rfl)))
  obtain ⟨n, o, h1, h2, h3, _, L, rfl, ⟨rfl, N⟩, hq, -⟩ := rm0 l s _ hw tables_1 i0 i1 i2 i3 i4 i5 cz fw s.heap s.heap.size (Nat.le_refl _) rfl S_c hcz S_f hk_fw (hcalls.1 ("java/lang/String", 7) (by simp [consts_1])) (hcalls.1 ("com/example/iron_lock/ironlock/model/LockKeys", 7) (by simp [consts_1])) (hcalls.1 ("com/example/iron_lock/ironlock/model/LockKeys", 33) (by simp [consts_1])) (hcalls.1 ("com/example/iron_lock/ironlock/model/LockKeys", 38) (by simp [consts_1])) (hcalls.1 ("com/example/iron_lock/ironlock/model/LockKeys", 44) (by simp [consts_1])) (hsets _ (List.mem_of_getElem? (i := 2) rfl)) p e ha hc hk s m _ below hf ((Spec.applies_iff_loose hf).mp happ).1 ⟨rfl, State.Warmed39.refl s, IB.start, rfl⟩ trivial
  refine ⟨n, _, h1, h2, h3, hpost _ _ _ _ _ _ ⟨Cond.after_iff.mpr rfl, Cond.after_iff.mpr (eq_i res_at (Term.int_eval (1)) rfl), trivial⟩ ⟨hq.1, hq.2.1, hq.2.2.1, (hq.2.2.2.sift fun y hy => Or.inr (N y hy)).mono (by decide) (by decide)⟩⟩
theorem main_1_1 : Claimed_1_1 := comes_1 fun _ _ _ _ _ _ h hF => ⟨h.1, hF⟩
theorem main_1_2 : Claimed_1_2 := comes_1 fun _ _ _ _ _ _ h hF => ⟨h.2.1, hF⟩
end Jvm.Pilot.@@N@@
namespace Jvm.Pilot.@@N@@
open Jvm Jvm.ClassFile Sem Op Lib Jvm.Free Jvm.Stand Jvm.Pilot.@@N@@.Jvm.D
/-! MADE BY PROGRAM (witnessworld.py) out of the Statement's table words and the real class files: 27 classes; the members and pool entries that the words name. The judged class is class 1, her method 1. -/
namespace start1
open Jvm.ClassFile
def u (s : String) : CpInfo := .utf8 (stringToUtf16 s)
/-- a pool by its gaps: so many unusable entries, then the entry; so many at the end -/
def gap : Nat → List CpInfo → List CpInfo
  | 0, r => r
  | n + 1, r => .unusable :: gap n r
def poolList (es : List (Nat × CpInfo)) (last : Nat) : List CpInfo := es.foldr (fun e r => gap e.1 (e.2 :: r)) (gap last [])
def pool (es : List (Nat × CpInfo)) (last : Nat) : Array CpInfo := ⟨poolList es last⟩
def fileOf (pool : Array CpInfo) (this : Nat) (attrs : Array Attribute := #[]) (ms : Array MethodInfo := #[]) (fl : Nat := 33) (sup : Nat := 0) (ifs : Array Nat := #[]) (fds : Array FieldInfo := #[]) : ClassFile where
  minorVersion := 0
  majorVersion := 65
  constantPool := pool
  accessFlags := fl
  thisClass := this
  superClass := sup
  interfaces := ifs
  fields := fds
  methods := ms
  attributes := attrs
def plain (name : String) (sup : Option ClassId) : Class where
  name := name
  kind := .ordinary
  loader := none
  accessFlags := 33
  super := sup
  interfaces := #[]
  cf := none
  fields := #[]
  methods := #[]
  instanceTypes := #[]
  staticTypes := #[]
  resolved := #[]
  callSites := []
  init := .initialized
  statics := none
  mirror := none

def pool0 : Array CpInfo := pool [(5, u "<init>"), (0, u "()V"), (1, .class_ 10), (1, u "java/lang/Object")] 113

def k0c0 : Code := { maxStack := 0, maxLocals := 1, code := object_method_1_code, exceptionTable := #[], attributes := #[] }
def k0m0 : Method := { name := "<init>", desc := "()V", sig := { parameters := [], returnType := none }, accessFlags := 1, code := some k0c0 }
/-- java/lang/Object -/
def k0 : Class := { plain "java/lang/Object" none with
  accessFlags := 33
  interfaces := #[]
  cf := some (fileOf pool0 8 #[] #[{ accessFlags := 1, nameIndex := 5, descriptorIndex := 6, attributes := #[] }] 33 0 #[] #[])
  fields := #[]
  methods := #[k0m0]
  instanceTypes := #[]
  staticTypes := #[]
  resolved := Array.replicate 124 none
  statics := none }

def pool1 : Array CpInfo := pool [(2, .class_ 4), (1, u "java/lang/Object"), (0, u "<init>"), (0, u "()V"), (0, .methodref 8 9), (0, .class_ 10), (0, .nameAndType 11 12), (0, u "com/example/iron_lock/ironlock/model/LockKeysCompanionKeyPinLaw"), (0, u "str"), (0, u "(ICCC)Ljava/lang/String;"), (0, .class_ 14), (0, u "com/example/iron_lock/ironlock/model/LockKeys"), (0, .methodref 13 16), (0, .nameAndType 5 17), (0, u "(Ljava/lang/String;)V"), (0, .methodref 13 19), (0, .nameAndType 20 21), (0, u "companionKey"), (0, u "(Ljava/lang/String;)Ljava/lang/String;"), (0, .methodref 23 24), (0, .class_ 25), (0, .nameAndType 26 27), (0, u "java/lang/String"), (0, u "length"), (0, u "()I"), (0, .methodref 23 29), (0, .nameAndType 30 31), (0, u "charAt"), (0, u "(I)C"), (0, .methodref 23 33), (0, .nameAndType 5 34), (0, u "([C)V"), (0, .methodref 23 36), (0, .nameAndType 37 38), (0, u "valueOf"), (0, u "(C)Ljava/lang/String;"), (2, u "law"), (0, u "(IIIIII)Z")] 3

def k1m0 : Method := { name := "<init>", desc := "()V", sig := { parameters := [], returnType := none }, accessFlags := 1, code := none }
def k1c1 : Code := { maxStack := 4, maxLocals := 16, code := code, exceptionTable := #[], attributes := #[] }
def k1m1 : Method := { name := "law", desc := "(IIIIII)Z", sig := { parameters := [.int, .int, .int, .int, .int, .int], returnType := some .boolean }, accessFlags := 9, code := some k1c1 }
def k1c2 : Code := { maxStack := 6, maxLocals := 4, code := method_3_code, exceptionTable := #[], attributes := #[] }
def k1m2 : Method := { name := "str", desc := "(ICCC)Ljava/lang/String;", sig := { parameters := [.int, .char, .char, .char], returnType := some (.object "java/lang/String") }, accessFlags := 10, code := some k1c2 }
/-- com/example/iron_lock/ironlock/model/LockKeysCompanionKeyPinLaw -/
def k1 : Class := { plain "com/example/iron_lock/ironlock/model/LockKeysCompanionKeyPinLaw" (some 0) with
  accessFlags := 49
  interfaces := #[]
  cf := some (fileOf pool1 8 #[] #[{ accessFlags := 1, nameIndex := 5, descriptorIndex := 6, attributes := #[] }, { accessFlags := 9, nameIndex := 41, descriptorIndex := 42, attributes := #[] }, { accessFlags := 10, nameIndex := 11, descriptorIndex := 12, attributes := #[] }] 49 2 #[] #[])
  fields := #[]
  methods := #[k1m0, k1m1, k1m2]
  instanceTypes := #[]
  staticTypes := #[]
  resolved := Array.replicate 46 none
  statics := none }

def pool2 : Array CpInfo := pool [(1, .class_ 2), (0, u "java/io/Serializable"), (0, .class_ 4), (0, u "java/lang/Object")] 2

/-- java/io/Serializable -/
def k2 : Class := { plain "java/io/Serializable" (some 0) with
  accessFlags := 1537
  interfaces := #[]
  cf := some (fileOf pool2 1 #[] #[] 1537 3 #[] #[])
  fields := #[]
  methods := #[]
  instanceTypes := #[]
  staticTypes := #[]
  resolved := Array.replicate 7 none
  statics := none }

def pool3 : Array CpInfo := pool [(1, .class_ 2), (0, u "java/lang/Comparable"), (0, .class_ 4), (0, u "java/lang/Object")] 7

/-- java/lang/Comparable -/
def k3 : Class := { plain "java/lang/Comparable" (some 0) with
  accessFlags := 1537
  interfaces := #[]
  cf := some (fileOf pool3 1 #[] #[] 1537 3 #[] #[])
  fields := #[]
  methods := #[]
  instanceTypes := #[]
  staticTypes := #[]
  resolved := Array.replicate 12 none
  statics := none }

def pool4 : Array CpInfo := pool [(2, .class_ 4), (1, u "java/lang/CharSequence"), (42, .class_ 48), (0, u "java/lang/CharSequence$1CodePointIterator"), (10, .class_ 60), (0, u "java/lang/CharSequence$1CharIterator"), (5, .class_ 67), (0, u "java/lang/Object")] 63

/-- java/lang/CharSequence -/
def k4 : Class := { plain "java/lang/CharSequence" (some 0) with
  accessFlags := 1537
  interfaces := #[]
  cf := some (fileOf pool4 2 #[.nestMembers #[47, 59]] #[] 1537 66 #[] #[])
  fields := #[]
  methods := #[]
  instanceTypes := #[]
  staticTypes := #[]
  resolved := Array.replicate 131 none
  statics := none }

def pool5 : Array CpInfo := pool [(1, .class_ 2), (0, u "java/lang/constant/Constable"), (0, .class_ 4), (0, u "java/lang/Object")] 6

/-- java/lang/constant/Constable -/
def k5 : Class := { plain "java/lang/constant/Constable" (some 0) with
  accessFlags := 1537
  interfaces := #[]
  cf := some (fileOf pool5 1 #[] #[] 1537 3 #[] #[])
  fields := #[]
  methods := #[]
  instanceTypes := #[]
  staticTypes := #[]
  resolved := Array.replicate 11 none
  statics := none }

def pool6 : Array CpInfo := pool [(1, .class_ 2), (0, u "java/lang/constant/ConstantDesc"), (0, .class_ 4), (0, u "java/lang/Object")] 32

/-- java/lang/constant/ConstantDesc -/
def k6 : Class := { plain "java/lang/constant/ConstantDesc" (some 0) with
  accessFlags := 1537
  interfaces := #[]
  cf := some (fileOf pool6 1 #[] #[] 1537 3 #[] #[])
  fields := #[]
  methods := #[]
  instanceTypes := #[]
  staticTypes := #[]
  resolved := Array.replicate 37 none
  statics := none }

def pool7 : Array CpInfo := pool [(1, .methodref 2 3), (0, .class_ 4), (0, .nameAndType 5 6), (0, u "java/lang/Object"), (0, u "<init>"), (0, u "()V"), (0, .string 8), (0, u ""), (0, .fieldref 10 11), (0, .class_ 12), (0, .nameAndType 13 14), (0, u "java/lang/String"), (0, u "value"), (0, u "[B"), (0, .fieldref 10 16), (0, .nameAndType 17 18), (0, u "coder"), (0, u "B"), (2, u "hash"), (0, u "I"), (2, u "hashIsZero"), (0, u "Z"), (0, .methodref 10 28), (0, .nameAndType 5 29), (0, u "([CIILjava/lang/Void;)V"), (8, .fieldref 10 39), (0, .nameAndType 40 26), (0, u "COMPACT_STRINGS"), (1, .class_ 44), (1, u "java/lang/StringUTF16"), (0, u "compress"), (1, .methodref 42 48), (0, .nameAndType 49 50), (0, u "coderFromArrayLen"), (0, u "([BI)B"), (2, u "toBytes"), (0, .methodref 55 56), (0, .class_ 57), (0, .nameAndType 58 59), (0, u "java/util/Arrays"), (0, u "copyOfRange"), (0, u "([BII)[B"), (47, .class_ 109), (1, u "java/lang/StringLatin1"), (32, u "()Z"), (34, .methodref 42 178), (0, .nameAndType 45 179), (0, u "([CII)[B"), (13, .class_ 195), (1, u "java/lang/System"), (13, .methodref 10 210), (0, .nameAndType 5 211), (0, u "([BB)V"), (0, .methodref 193 213), (0, .nameAndType 214 215), (0, u "arraycopy"), (0, u "(Ljava/lang/Object;ILjava/lang/Object;II)V"), (118, u "()I"), (0, .methodref 10 336), (0, .nameAndType 17 337), (0, u "()B"), (2, u "()[B"), (22, u "([BI)C"), (5, u "(C)Z"), (21, u "(II)V"), (35, u "(I)C"), (61, .methodref 10 490), (0, .nameAndType 5 491), (0, u "(Ljava/lang/AbstractStringBuilder;Ljava/lang/Void;)V"), (0, .methodref 10 493), (0, .nameAndType 494 142), (0, u "isLatin1"), (0, .methodref 107 496), (0, .nameAndType 497 363), (0, u "charAt"), (3, u "checkIndex"), (4, .nameAndType 507 334), (0, u "length"), (24, u "getBytes"), (16, .methodref 550 506), (0, .class_ 551), (0, u "java/lang/AbstractStringBuilder"), (0, .methodref 550 553), (0, .nameAndType 554 340), (0, u "getValue"), (20, .class_ 576), (0, u "java/lang/CharSequence"), (22, u "CASE_INSENSITIVE_ORDER"), (0, u "Ljava/util/Comparator;"), (91, u "isEmpty"), (89, u "valueOf"), (0, u "(C)Ljava/lang/String;"), (37, u "([BIB)V"), (188, u "([C)V"), (4, .methodref 107 1016), (0, .nameAndType 1017 369), (0, u "canEncode"), (0, .methodref 107 1019), (0, .nameAndType 53 1020), (0, u "(C)[B"), (26, .methodref 550 493), (5, .fieldref 1054 1055), (0, .class_ 1056), (0, .nameAndType 1057 1058), (0, u "jdk/internal/util/Preconditions"), (0, u "SIOOBE_FORMATTER"), (0, u "Ljava/util/function/BiFunction;"), (0, .methodref 1054 1060), (0, .nameAndType 501 1061), (0, u "(IILjava/util/function/BiFunction;)I"), (39, u "serialPersistentFields"), (0, u "[Ljava/io/ObjectStreamField;"), (0, .class_ 1104), (0, u "java/lang/String$CaseInsensitiveComparator"), (1, .class_ 1107), (0, u "java/io/Serializable"), (0, .class_ 1109), (0, u "java/lang/Comparable"), (0, .class_ 1111), (0, u "java/lang/constant/Constable"), (0, .class_ 1113), (0, u "java/lang/constant/ConstantDesc"), (2, u "serialVersionUID"), (0, u "J"), (3, u "REPL"), (0, u "C"), (2, u "LATIN1"), (1, u "UTF16"), (105, u "(Ljava/lang/StringBuilder;)V")] 217

def k7m0 : Method := { name := "<init>", desc := "()V", sig := { parameters := [], returnType := none }, accessFlags := 1, code := none }
def k7c1 : Code := { maxStack := 5, maxLocals := 2, code := jdk_42_method_3_code, exceptionTable := #[], attributes := #[] }
def k7m1 : Method := { name := "<init>", desc := "([C)V", sig := { parameters := [(.array .char)], returnType := none }, accessFlags := 1, code := some k7c1 }
def k7c2 : Code := { maxStack := 3, maxLocals := 2, code := jdk_42_method_53_code, exceptionTable := #[], attributes := #[] }
def k7m2 : Method := { name := "<init>", desc := "(Ljava/lang/StringBuilder;)V", sig := { parameters := [(.object "java/lang/StringBuilder")], returnType := none }, accessFlags := 1, code := some k7c2 }
def k7c3 : Code := { maxStack := 2, maxLocals := 1, code := jdk_42_method_54_code, exceptionTable := #[], attributes := #[] }
def k7m3 : Method := { name := "length", desc := "()I", sig := { parameters := [], returnType := some .int }, accessFlags := 1, code := some k7c3 }
def k7c4 : Code := { maxStack := 1, maxLocals := 1, code := jdk_42_method_55_code, exceptionTable := #[], attributes := #[] }
def k7m4 : Method := { name := "isEmpty", desc := "()Z", sig := { parameters := [], returnType := some .boolean }, accessFlags := 1, code := some k7c4 }
def k7c5 : Code := { maxStack := 2, maxLocals := 2, code := jdk_42_method_56_code, exceptionTable := #[], attributes := #[] }
def k7m5 : Method := { name := "charAt", desc := "(I)C", sig := { parameters := [.int], returnType := some .char }, accessFlags := 1, code := some k7c5 }
def k7c6 : Code := { maxStack := 4, maxLocals := 1, code := jdk_42_method_139_code, exceptionTable := #[], attributes := #[] }
def k7m6 : Method := { name := "valueOf", desc := "(C)Ljava/lang/String;", sig := { parameters := [.char], returnType := some (.object "java/lang/String") }, accessFlags := 9, code := some k7c6 }
def k7c7 : Code := { maxStack := 5, maxLocals := 4, code := jdk_42_method_147_code, exceptionTable := #[], attributes := #[] }
def k7m7 : Method := { name := "getBytes", desc := "([BIB)V", sig := { parameters := [(.array .byte), .int, .byte], returnType := none }, accessFlags := 0, code := some k7c7 }
def k7c8 : Code := { maxStack := 4, maxLocals := 6, code := jdk_42_method_149_code, exceptionTable := #[], attributes := #[] }
def k7m8 : Method := { name := "<init>", desc := "([CIILjava/lang/Void;)V", sig := { parameters := [(.array .char), .int, .int, (.object "java/lang/Void")], returnType := none }, accessFlags := 2, code := some k7c8 }
def k7c9 : Code := { maxStack := 5, maxLocals := 5, code := jdk_42_method_150_code, exceptionTable := #[], attributes := #[] }
def k7m9 : Method := { name := "<init>", desc := "(Ljava/lang/AbstractStringBuilder;Ljava/lang/Void;)V", sig := { parameters := [(.object "java/lang/AbstractStringBuilder"), (.object "java/lang/Void")], returnType := none }, accessFlags := 0, code := some k7c9 }
def k7c10 : Code := { maxStack := 2, maxLocals := 3, code := jdk_42_method_151_code, exceptionTable := #[], attributes := #[] }
def k7m10 : Method := { name := "<init>", desc := "([BB)V", sig := { parameters := [(.array .byte), .byte], returnType := none }, accessFlags := 0, code := some k7c10 }
def k7c11 : Code := { maxStack := 1, maxLocals := 1, code := jdk_42_method_152_code, exceptionTable := #[], attributes := #[] }
def k7m11 : Method := { name := "coder", desc := "()B", sig := { parameters := [], returnType := some .byte }, accessFlags := 0, code := some k7c11 }
def k7c12 : Code := { maxStack := 1, maxLocals := 1, code := jdk_42_method_154_code, exceptionTable := #[], attributes := #[] }
def k7m12 : Method := { name := "isLatin1", desc := "()Z", sig := { parameters := [], returnType := some .boolean }, accessFlags := 0, code := some k7c12 }
def k7c13 : Code := { maxStack := 3, maxLocals := 2, code := jdk_42_method_155_code, exceptionTable := #[], attributes := #[] }
def k7m13 : Method := { name := "checkIndex", desc := "(II)V", sig := { parameters := [.int, .int], returnType := none }, accessFlags := 8, code := some k7c13 }
/-- java/lang/String -/
def k7 : Class := { plain "java/lang/String" (some 0) with
  accessFlags := 49
  interfaces := #[2, 3, 4, 5, 6]
  cf := some (fileOf pool7 10 #[.nestMembers #[1103]] #[{ accessFlags := 1, nameIndex := 5, descriptorIndex := 6, attributes := #[] }, { accessFlags := 1, nameIndex := 5, descriptorIndex := 1010, attributes := #[] }, { accessFlags := 1, nameIndex := 5, descriptorIndex := 1233, attributes := #[] }, { accessFlags := 1, nameIndex := 507, descriptorIndex := 334, attributes := #[] }, { accessFlags := 1, nameIndex := 692, descriptorIndex := 142, attributes := #[] }, { accessFlags := 1, nameIndex := 497, descriptorIndex := 427, attributes := #[] }, { accessFlags := 9, nameIndex := 782, descriptorIndex := 783, attributes := #[] }, { accessFlags := 0, nameIndex := 532, descriptorIndex := 821, attributes := #[] }, { accessFlags := 2, nameIndex := 5, descriptorIndex := 29, attributes := #[] }, { accessFlags := 0, nameIndex := 5, descriptorIndex := 491, attributes := #[] }, { accessFlags := 0, nameIndex := 5, descriptorIndex := 211, attributes := #[] }, { accessFlags := 0, nameIndex := 17, descriptorIndex := 337, attributes := #[] }, { accessFlags := 0, nameIndex := 494, descriptorIndex := 142, attributes := #[] }, { accessFlags := 8, nameIndex := 501, descriptorIndex := 391, attributes := #[] }] 49 2 #[1106, 1108, 575, 1110, 1112] #[{ accessFlags := 18, nameIndex := 13, descriptorIndex := 14, attributes := #[] }, { accessFlags := 18, nameIndex := 17, descriptorIndex := 18, attributes := #[] }, { accessFlags := 2, nameIndex := 21, descriptorIndex := 22, attributes := #[] }, { accessFlags := 2, nameIndex := 25, descriptorIndex := 26, attributes := #[] }, { accessFlags := 26, nameIndex := 1116, descriptorIndex := 1117, attributes := #[] }, { accessFlags := 24, nameIndex := 40, descriptorIndex := 26, attributes := #[] }, { accessFlags := 26, nameIndex := 1101, descriptorIndex := 1102, attributes := #[] }, { accessFlags := 26, nameIndex := 1121, descriptorIndex := 1122, attributes := #[] }, { accessFlags := 25, nameIndex := 599, descriptorIndex := 600, attributes := #[] }, { accessFlags := 24, nameIndex := 1125, descriptorIndex := 18, attributes := #[] }, { accessFlags := 24, nameIndex := 1127, descriptorIndex := 18, attributes := #[] }])
  fields := #[{ name := "value", type := (.array .byte), accessFlags := 18, slot := 0, constantValue := 0 }, { name := "coder", type := .byte, accessFlags := 18, slot := 1, constantValue := 0 }, { name := "hash", type := .int, accessFlags := 2, slot := 2, constantValue := 0 }, { name := "hashIsZero", type := .boolean, accessFlags := 2, slot := 3, constantValue := 0 }, { name := "serialVersionUID", type := .long, accessFlags := 26, slot := 0, constantValue := 0 }, { name := "COMPACT_STRINGS", type := .boolean, accessFlags := 24, slot := 1, constantValue := 0 }, { name := "serialPersistentFields", type := (.array (.object "java/io/ObjectStreamField")), accessFlags := 26, slot := 2, constantValue := 0 }, { name := "REPL", type := .char, accessFlags := 26, slot := 3, constantValue := 0 }, { name := "CASE_INSENSITIVE_ORDER", type := (.object "java/util/Comparator"), accessFlags := 25, slot := 4, constantValue := 0 }, { name := "LATIN1", type := .byte, accessFlags := 24, slot := 5, constantValue := 0 }, { name := "UTF16", type := .byte, accessFlags := 24, slot := 6, constantValue := 0 }]
  methods := #[k7m0, k7m1, k7m2, k7m3, k7m4, k7m5, k7m6, k7m7, k7m8, k7m9, k7m10, k7m11, k7m12, k7m13]
  instanceTypes := #[(.array .byte), .byte, .int, .boolean]
  staticTypes := #[.long, .boolean, (.array (.object "java/io/ObjectStreamField")), .char, (.object "java/util/Comparator"), .byte, .byte]
  resolved := Array.replicate 1451 none
  statics := some 0 }

def pool8 : Array CpInfo := pool [(1, .class_ 2), (0, u "java/lang/String"), (1, .class_ 6), (1, u "java/lang/Object"), (0, u "<init>"), (0, u "()V"), (0, .methodref 1 10), (0, .nameAndType 11 12), (0, u "checkIndex"), (0, u "(II)V"), (1, .class_ 16), (1, u "java/lang/StringLatin1"), (36, u "([BI)C"), (36, u "canEncode"), (14, u "(C)Z"), (15, u "$assertionsDisabled"), (0, u "Z"), (98, .class_ 223), (1, u "java/lang/StringLatin1$LinesSpliterator"), (28, u "charAt"), (127, u "toBytes"), (1, u "(C)[B"), (7, .class_ 391), (0, u "java/lang/StringLatin1$CharsSpliterator")] 3

def k8m0 : Method := { name := "<init>", desc := "()V", sig := { parameters := [], returnType := none }, accessFlags := 0, code := none }
def k8c1 : Code := { maxStack := 2, maxLocals := 2, code := jdk_43_method_2_code, exceptionTable := #[], attributes := #[] }
def k8m1 : Method := { name := "charAt", desc := "([BI)C", sig := { parameters := [(.array .byte), .int], returnType := some .char }, accessFlags := 9, code := some k8c1 }
def k8c2 : Code := { maxStack := 2, maxLocals := 1, code := jdk_43_method_3_code, exceptionTable := #[], attributes := #[] }
def k8m2 : Method := { name := "canEncode", desc := "(C)Z", sig := { parameters := [.char], returnType := some .boolean }, accessFlags := 9, code := some k8c2 }
def k8c3 : Code := { maxStack := 4, maxLocals := 1, code := jdk_43_method_46_code, exceptionTable := #[], attributes := #[] }
def k8m3 : Method := { name := "toBytes", desc := "(C)[B", sig := { parameters := [.char], returnType := some (.array .byte) }, accessFlags := 9, code := some k8c3 }
/-- java/lang/StringLatin1 -/
def k8 : Class := { plain "java/lang/StringLatin1" (some 0) with
  accessFlags := 48
  interfaces := #[]
  cf := some (fileOf pool8 14 #[.nestMembers #[390, 221]] #[{ accessFlags := 0, nameIndex := 7, descriptorIndex := 8, attributes := #[] }, { accessFlags := 9, nameIndex := 252, descriptorIndex := 53, attributes := #[] }, { accessFlags := 9, nameIndex := 90, descriptorIndex := 105, attributes := #[] }, { accessFlags := 9, nameIndex := 380, descriptorIndex := 382, attributes := #[] }] 48 4 #[] #[{ accessFlags := 4120, nameIndex := 121, descriptorIndex := 122, attributes := #[] }])
  fields := #[{ name := "$assertionsDisabled", type := .boolean, accessFlags := 4120, slot := 0, constantValue := 0 }]
  methods := #[k8m0, k8m1, k8m2, k8m3]
  instanceTypes := #[]
  staticTypes := #[.boolean]
  resolved := Array.replicate 395 none
  statics := none }

def pool9 : Array CpInfo := pool [(1, .methodref 2 3), (0, .class_ 4), (0, .nameAndType 5 6), (0, u "java/lang/Object"), (0, u "<init>"), (0, u "()V"), (0, .string 8), (0, u "name"), (0, .methodref 10 11), (0, .class_ 12), (0, .nameAndType 13 14), (0, u "java/util/Objects"), (0, u "requireNonNull"), (0, u "(Ljava/lang/Object;Ljava/lang/String;)Ljava/lang/Object;"), (0, .methodref 16 17), (0, .class_ 18), (0, .nameAndType 19 20), (0, u "java/lang/String"), (0, u "isEmpty"), (0, u "()Z"), (6, u "(Ljava/lang/String;)V"), (0, .fieldref 29 30), (0, .class_ 31), (0, .nameAndType 8 32), (0, u "com/example/iron_lock/ironlock/model/LockKeys"), (0, u "Ljava/lang/String;"), (0, .string 34), (0, u "suffix"), (0, .class_ 36), (0, u "java/lang/StringBuilder"), (0, .methodref 35 3), (0, .string 39), (0, u "{"), (0, .methodref 35 41), (0, .nameAndType 42 43), (0, u "append"), (0, u "(Ljava/lang/String;)Ljava/lang/StringBuilder;"), (0, .string 45), (0, u "}"), (0, .methodref 35 47), (0, .nameAndType 48 49), (0, u "toString"), (0, u "()Ljava/lang/String;"), (4, u "companionKey"), (0, u "(Ljava/lang/String;)Ljava/lang/String;")] 10

def k9c0 : Code := { maxStack := 3, maxLocals := 2, code := prog_4_method_1_code, exceptionTable := #[], attributes := #[] }
def k9m0 : Method := { name := "<init>", desc := "(Ljava/lang/String;)V", sig := { parameters := [(.object "java/lang/String")], returnType := none }, accessFlags := 1, code := some k9c0 }
def k9c1 : Code := { maxStack := 2, maxLocals := 2, code := prog_4_method_3_code, exceptionTable := #[], attributes := #[] }
def k9m1 : Method := { name := "companionKey", desc := "(Ljava/lang/String;)Ljava/lang/String;", sig := { parameters := [(.object "java/lang/String")], returnType := some (.object "java/lang/String") }, accessFlags := 1, code := some k9c1 }
/-- com/example/iron_lock/ironlock/model/LockKeys -/
def k9 : Class := { plain "com/example/iron_lock/ironlock/model/LockKeys" (some 0) with
  accessFlags := 33
  interfaces := #[]
  cf := some (fileOf pool9 29 #[] #[{ accessFlags := 1, nameIndex := 5, descriptorIndex := 27, attributes := #[] }, { accessFlags := 1, nameIndex := 54, descriptorIndex := 55, attributes := #[] }] 33 2 #[] #[{ accessFlags := 18, nameIndex := 8, descriptorIndex := 32, attributes := #[] }])
  fields := #[{ name := "name", type := (.object "java/lang/String"), accessFlags := 18, slot := 0, constantValue := 0 }]
  methods := #[k9m0, k9m1]
  instanceTypes := #[(.object "java/lang/String")]
  staticTypes := #[]
  resolved := Array.replicate 66 none
  statics := none }

def pool10 : Array CpInfo := pool [(2, .class_ 4), (1, u "java/lang/Object"), (0, u "<init>"), (0, u "()V"), (35, .class_ 44), (1, u "java/util/Objects"), (0, u "requireNonNull"), (48, u "(Ljava/lang/Object;Ljava/lang/String;)Ljava/lang/Object;")] 89

def k10m0 : Method := { name := "<init>", desc := "()V", sig := { parameters := [], returnType := none }, accessFlags := 2, code := none }
def k10c1 : Code := { maxStack := 3, maxLocals := 2, code := jdk_31_method_11_code, exceptionTable := #[], attributes := #[] }
def k10m1 : Method := { name := "requireNonNull", desc := "(Ljava/lang/Object;Ljava/lang/String;)Ljava/lang/Object;", sig := { parameters := [(.object "java/lang/Object"), (.object "java/lang/String")], returnType := some (.object "java/lang/Object") }, accessFlags := 9, code := some k10c1 }
/-- java/util/Objects -/
def k10 : Class := { plain "java/util/Objects" (some 0) with
  accessFlags := 49
  interfaces := #[]
  cf := some (fileOf pool10 42 #[] #[{ accessFlags := 2, nameIndex := 5, descriptorIndex := 6, attributes := #[] }, { accessFlags := 9, nameIndex := 45, descriptorIndex := 94, attributes := #[] }] 49 2 #[] #[])
  fields := #[]
  methods := #[k10m0, k10m1]
  instanceTypes := #[]
  staticTypes := #[]
  resolved := Array.replicate 184 none
  statics := none }

def pool11 : Array CpInfo := pool [(1, .class_ 2), (0, u "java/lang/Appendable"), (0, .class_ 4), (0, u "java/lang/Object")] 9

/-- java/lang/Appendable -/
def k11 : Class := { plain "java/lang/Appendable" (some 0) with
  accessFlags := 1537
  interfaces := #[]
  cf := some (fileOf pool11 1 #[] #[] 1537 3 #[] #[])
  fields := #[]
  methods := #[]
  instanceTypes := #[]
  staticTypes := #[]
  resolved := Array.replicate 14 none
  statics := none }

def pool12 : Array CpInfo := pool [(1, .class_ 2), (0, u "java/lang/String"), (0, .methodref 4 5), (0, .class_ 6), (0, .nameAndType 7 8), (0, u "java/lang/Object"), (0, u "<init>"), (0, u "()V"), (1, .class_ 12), (1, u "java/lang/AbstractStringBuilder"), (0, u "EMPTYVALUE"), (0, u "[B"), (0, .fieldref 10 16), (0, .nameAndType 17 14), (0, u "value"), (0, .fieldref 1 19), (0, .nameAndType 20 21), (0, u "COMPACT_STRINGS"), (0, u "Z"), (0, .fieldref 10 23), (0, .nameAndType 24 25), (0, u "coder"), (0, u "B"), (6, .methodref 1 33), (0, .nameAndType 34 35), (0, u "length"), (0, u "()I"), (4, .methodref 1 41), (0, .nameAndType 24 42), (0, u "()B"), (2, u "append"), (0, u "(Ljava/lang/String;)Ljava/lang/AbstractStringBuilder;"), (1, .class_ 49), (0, u "java/lang/CharSequence"), (19, u "(Ljava/lang/String;)V"), (5, u "maybeLatin1"), (3, .fieldref 10 80), (0, .nameAndType 81 82), (0, u "count"), (0, u "I"), (2, u "isLatin1"), (0, u "()Z"), (13, .methodref 10 101), (0, .nameAndType 102 103), (0, u "ensureCapacityInternal"), (0, u "(I)V"), (104, .methodref 10 209), (0, .nameAndType 210 211), (0, u "putStringAt"), (0, u "(ILjava/lang/String;)V"), (5, u "inflateIfNeededFor"), (2, .nameAndType 221 222), (0, u "getBytes"), (0, u "([BIB)V"), (174, .methodref 10 398), (0, .nameAndType 217 69), (0, .methodref 1 220), (3, u "()[B"), (40, .class_ 445), (0, u "java/lang/Appendable"), (106, u "getValue")] 56

def k12m0 : Method := { name := "<init>", desc := "()V", sig := { parameters := [], returnType := none }, accessFlags := 0, code := none }
def k12c1 : Code := { maxStack := 2, maxLocals := 2, code := jdk_68_method_2_code, exceptionTable := #[], attributes := #[] }
def k12m1 : Method := { name := "<init>", desc := "(I)V", sig := { parameters := [.int], returnType := none }, accessFlags := 0, code := some k12c1 }
def k12c2 : Code := { maxStack := 1, maxLocals := 1, code := jdk_68_method_6_code, exceptionTable := #[], attributes := #[] }
def k12m2 : Method := { name := "length", desc := "()I", sig := { parameters := [], returnType := some .int }, accessFlags := 1, code := some k12c2 }
def k12c3 : Code := { maxStack := 4, maxLocals := 3, code := jdk_68_method_9_code, exceptionTable := #[], attributes := #[] }
def k12m3 : Method := { name := "ensureCapacityInternal", desc := "(I)V", sig := { parameters := [.int], returnType := none }, accessFlags := 2, code := some k12c3 }
def k12c4 : Code := { maxStack := 3, maxLocals := 3, code := jdk_68_method_22_code, exceptionTable := #[], attributes := #[] }
def k12m4 : Method := { name := "append", desc := "(Ljava/lang/String;)Ljava/lang/AbstractStringBuilder;", sig := { parameters := [(.object "java/lang/String")], returnType := some (.object "java/lang/AbstractStringBuilder") }, accessFlags := 1, code := some k12c4 }
def k12c5 : Code := { maxStack := 1, maxLocals := 1, code := jdk_68_method_64_code, exceptionTable := #[], attributes := #[] }
def k12m5 : Method := { name := "getValue", desc := "()[B", sig := { parameters := [], returnType := some (.array .byte) }, accessFlags := 16, code := some k12c5 }
def k12c6 : Code := { maxStack := 1, maxLocals := 1, code := jdk_68_method_68_code, exceptionTable := #[], attributes := #[] }
def k12m6 : Method := { name := "isLatin1", desc := "()Z", sig := { parameters := [], returnType := some .boolean }, accessFlags := 16, code := some k12c6 }
def k12c7 : Code := { maxStack := 2, maxLocals := 2, code := jdk_68_method_71_code, exceptionTable := #[], attributes := #[] }
def k12m7 : Method := { name := "inflateIfNeededFor", desc := "(Ljava/lang/String;)V", sig := { parameters := [(.object "java/lang/String")], returnType := none }, accessFlags := 2, code := some k12c7 }
def k12c8 : Code := { maxStack := 4, maxLocals := 3, code := jdk_68_method_73_code, exceptionTable := #[], attributes := #[] }
def k12m8 : Method := { name := "putStringAt", desc := "(ILjava/lang/String;)V", sig := { parameters := [.int, (.object "java/lang/String")], returnType := none }, accessFlags := 2, code := some k12c8 }
/-- java/lang/AbstractStringBuilder -/
def k12 : Class := { plain "java/lang/AbstractStringBuilder" (some 0) with
  accessFlags := 1056
  interfaces := #[11, 4]
  cf := some (fileOf pool12 10 #[] #[{ accessFlags := 0, nameIndex := 7, descriptorIndex := 8, attributes := #[] }, { accessFlags := 0, nameIndex := 7, descriptorIndex := 103, attributes := #[] }, { accessFlags := 1, nameIndex := 34, descriptorIndex := 35, attributes := #[] }, { accessFlags := 2, nameIndex := 102, descriptorIndex := 103, attributes := #[] }, { accessFlags := 1, nameIndex := 45, descriptorIndex := 46, attributes := #[] }, { accessFlags := 16, nameIndex := 552, descriptorIndex := 403, attributes := #[] }, { accessFlags := 16, nameIndex := 85, descriptorIndex := 86, attributes := #[] }, { accessFlags := 2, nameIndex := 217, descriptorIndex := 69, attributes := #[] }, { accessFlags := 2, nameIndex := 210, descriptorIndex := 211, attributes := #[] }] 1056 4 #[444, 48] #[{ accessFlags := 0, nameIndex := 17, descriptorIndex := 14, attributes := #[] }, { accessFlags := 0, nameIndex := 24, descriptorIndex := 25, attributes := #[] }, { accessFlags := 0, nameIndex := 75, descriptorIndex := 21, attributes := #[] }, { accessFlags := 0, nameIndex := 81, descriptorIndex := 82, attributes := #[] }, { accessFlags := 26, nameIndex := 13, descriptorIndex := 14, attributes := #[] }])
  fields := #[{ name := "value", type := (.array .byte), accessFlags := 0, slot := 0, constantValue := 0 }, { name := "coder", type := .byte, accessFlags := 0, slot := 1, constantValue := 0 }, { name := "maybeLatin1", type := .boolean, accessFlags := 0, slot := 2, constantValue := 0 }, { name := "count", type := .int, accessFlags := 0, slot := 3, constantValue := 0 }, { name := "EMPTYVALUE", type := (.array .byte), accessFlags := 26, slot := 0, constantValue := 0 }]
  methods := #[k12m0, k12m1, k12m2, k12m3, k12m4, k12m5, k12m6, k12m7, k12m8]
  instanceTypes := #[(.array .byte), .byte, .boolean, .int]
  staticTypes := #[(.array .byte)]
  resolved := Array.replicate 609 none
  statics := none }

def pool13 : Array CpInfo := pool [(1, .methodref 2 3), (0, .class_ 4), (0, .nameAndType 5 6), (0, u "java/lang/AbstractStringBuilder"), (0, u "<init>"), (0, u "(I)V"), (11, .class_ 20), (1, u "java/lang/String"), (3, .class_ 26), (1, u "java/lang/StringBuilder"), (0, u "append"), (0, u "(Ljava/lang/String;)Ljava/lang/StringBuilder;"), (0, .methodref 2 30), (0, .nameAndType 27 31), (0, u "(Ljava/lang/String;)Ljava/lang/AbstractStringBuilder;"), (105, .methodref 18 138), (0, .nameAndType 5 139), (0, u "(Ljava/lang/StringBuilder;)V"), (5, u "()V"), (10, u "()I"), (186, .methodref 2 344), (0, .nameAndType 345 156), (0, u "length"), (3, .class_ 350), (0, u "java/lang/Appendable"), (0, .class_ 352), (0, u "java/io/Serializable"), (0, .class_ 354), (0, u "java/lang/Comparable"), (0, .class_ 356), (0, u "java/lang/CharSequence"), (0, u "serialVersionUID"), (0, u "J"), (40, u "toString"), (0, u "()Ljava/lang/String;")] 21

def k13c0 : Code := { maxStack := 2, maxLocals := 1, code := jdk_67_method_1_code, exceptionTable := #[], attributes := #[] }
def k13m0 : Method := { name := "<init>", desc := "()V", sig := { parameters := [], returnType := none }, accessFlags := 1, code := some k13c0 }
def k13c1 : Code := { maxStack := 2, maxLocals := 2, code := jdk_67_method_7_code, exceptionTable := #[], attributes := #[] }
def k13m1 : Method := { name := "append", desc := "(Ljava/lang/String;)Ljava/lang/StringBuilder;", sig := { parameters := [(.object "java/lang/String")], returnType := some (.object "java/lang/StringBuilder") }, accessFlags := 1, code := some k13c1 }
def k13c2 : Code := { maxStack := 3, maxLocals := 1, code := jdk_67_method_42_code, exceptionTable := #[], attributes := #[] }
def k13m2 : Method := { name := "toString", desc := "()Ljava/lang/String;", sig := { parameters := [], returnType := some (.object "java/lang/String") }, accessFlags := 1, code := some k13c2 }
def k13c3 : Code := { maxStack := 1, maxLocals := 1, code := jdk_67_method_93_code, exceptionTable := #[], attributes := #[] }
def k13m3 : Method := { name := "length", desc := "()I", sig := { parameters := [], returnType := some .int }, accessFlags := 4161, code := some k13c3 }
/-- java/lang/StringBuilder -/
def k13 : Class := { plain "java/lang/StringBuilder" (some 12) with
  accessFlags := 49
  interfaces := #[11, 2, 3, 4]
  cf := some (fileOf pool13 24 #[] #[{ accessFlags := 1, nameIndex := 5, descriptorIndex := 145, attributes := #[] }, { accessFlags := 1, nameIndex := 27, descriptorIndex := 28, attributes := #[] }, { accessFlags := 1, nameIndex := 399, descriptorIndex := 400, attributes := #[] }, { accessFlags := 4161, nameIndex := 345, descriptorIndex := 156, attributes := #[] }] 49 2 #[349, 351, 353, 355] #[{ accessFlags := 24, nameIndex := 357, descriptorIndex := 358, attributes := #[] }])
  fields := #[{ name := "serialVersionUID", type := .long, accessFlags := 24, slot := 0, constantValue := 0 }]
  methods := #[k13m0, k13m1, k13m2, k13m3]
  instanceTypes := #[(.array .byte), .byte, .boolean, .int]
  staticTypes := #[.long]
  resolved := Array.replicate 422 none
  statics := none }

def pool14 : Array CpInfo := pool [(2, .class_ 4), (1, u "java/lang/Object"), (0, u "<init>"), (0, u "()V"), (1, .class_ 10), (1, u "java/lang/System"), (0, u "allowSecurityManager"), (0, u "I"), (16, u "cons"), (0, u "Ljava/io/Console;"), (77, .class_ 110), (1, u "java/lang/System$CallersHolder"), (43, u "initialErrStream"), (0, u "Ljava/io/PrintStream;"), (19, u "security"), (0, u "Ljava/lang/SecurityManager;"), (31, .class_ 209), (0, u "java/lang/System$1"), (7, u "props"), (0, u "Ljava/util/Properties;"), (2, u "lineSeparator"), (0, u "Ljava/lang/String;"), (96, .class_ 321), (1, u "java/lang/System$LoggerFinder"), (5, .class_ 328), (0, u "java/lang/System$Logger"), (67, u "err"), (2, u "out"), (91, u "notSupportedJnuEncoding"), (15, u "in"), (17, u "initialIn"), (0, u "Ljava/io/InputStream;"), (35, u "bootLayer"), (0, u "Ljava/lang/ModuleLayer;"), (99, .class_ 664), (0, u "java/lang/System$2"), (9, u "NEVER"), (2, u "MAYBE"), (49, u "arraycopy"), (0, u "(Ljava/lang/Object;ILjava/lang/Object;II)V"), (72, .class_ 802), (0, u "java/lang/System$Logger$Level")] 31

def k14m0 : Method := { name := "<init>", desc := "()V", sig := { parameters := [], returnType := none }, accessFlags := 2, code := none }
def k14m1 : Method := { name := "arraycopy", desc := "(Ljava/lang/Object;ILjava/lang/Object;II)V", sig := { parameters := [(.object "java/lang/Object"), .int, (.object "java/lang/Object"), .int, .int], returnType := none }, accessFlags := 265, code := none }
/-- java/lang/System -/
def k14 : Class := { plain "java/lang/System" (some 0) with
  accessFlags := 49
  interfaces := #[]
  cf := some (fileOf pool14 8 #[.nestMembers #[319, 327, 801, 108, 663, 208]] #[{ accessFlags := 2, nameIndex := 5, descriptorIndex := 6, attributes := #[] }, { accessFlags := 265, nameIndex := 727, descriptorIndex := 728, attributes := #[] }] 49 2 #[] #[{ accessFlags := 25, nameIndex := 507, descriptorIndex := 526, attributes := #[] }, { accessFlags := 25, nameIndex := 399, descriptorIndex := 155, attributes := #[] }, { accessFlags := 25, nameIndex := 396, descriptorIndex := 155, attributes := #[] }, { accessFlags := 10, nameIndex := 525, descriptorIndex := 526, attributes := #[] }, { accessFlags := 26, nameIndex := 674, descriptorIndex := 12, attributes := #[] }, { accessFlags := 26, nameIndex := 677, descriptorIndex := 12, attributes := #[] }, { accessFlags := 10, nameIndex := 11, descriptorIndex := 12, attributes := #[] }, { accessFlags := 74, nameIndex := 175, descriptorIndex := 176, attributes := #[] }, { accessFlags := 10, nameIndex := 491, descriptorIndex := 222, attributes := #[] }, { accessFlags := 74, nameIndex := 29, descriptorIndex := 30, attributes := #[] }, { accessFlags := 74, nameIndex := 154, descriptorIndex := 155, attributes := #[] }, { accessFlags := 10, nameIndex := 217, descriptorIndex := 218, attributes := #[] }, { accessFlags := 10, nameIndex := 221, descriptorIndex := 222, attributes := #[] }, { accessFlags := 8, nameIndex := 562, descriptorIndex := 563, attributes := #[] }])
  fields := #[{ name := "in", type := (.object "java/io/InputStream"), accessFlags := 25, slot := 0, constantValue := 0 }, { name := "out", type := (.object "java/io/PrintStream"), accessFlags := 25, slot := 1, constantValue := 0 }, { name := "err", type := (.object "java/io/PrintStream"), accessFlags := 25, slot := 2, constantValue := 0 }, { name := "initialIn", type := (.object "java/io/InputStream"), accessFlags := 10, slot := 3, constantValue := 0 }, { name := "NEVER", type := .int, accessFlags := 26, slot := 4, constantValue := 0 }, { name := "MAYBE", type := .int, accessFlags := 26, slot := 5, constantValue := 0 }, { name := "allowSecurityManager", type := .int, accessFlags := 10, slot := 6, constantValue := 0 }, { name := "security", type := (.object "java/lang/SecurityManager"), accessFlags := 74, slot := 7, constantValue := 0 }, { name := "notSupportedJnuEncoding", type := (.object "java/lang/String"), accessFlags := 10, slot := 8, constantValue := 0 }, { name := "cons", type := (.object "java/io/Console"), accessFlags := 74, slot := 9, constantValue := 0 }, { name := "initialErrStream", type := (.object "java/io/PrintStream"), accessFlags := 74, slot := 10, constantValue := 0 }, { name := "props", type := (.object "java/util/Properties"), accessFlags := 10, slot := 11, constantValue := 0 }, { name := "lineSeparator", type := (.object "java/lang/String"), accessFlags := 10, slot := 12, constantValue := 0 }, { name := "bootLayer", type := (.object "java/lang/ModuleLayer"), accessFlags := 8, slot := 13, constantValue := 0 }]
  methods := #[k14m0, k14m1]
  instanceTypes := #[]
  staticTypes := #[(.object "java/io/InputStream"), (.object "java/io/PrintStream"), (.object "java/io/PrintStream"), (.object "java/io/InputStream"), .int, .int, .int, (.object "java/lang/SecurityManager"), (.object "java/lang/String"), (.object "java/io/Console"), (.object "java/io/PrintStream"), (.object "java/util/Properties"), (.object "java/lang/String"), (.object "java/lang/ModuleLayer")]
  resolved := Array.replicate 834 none
  statics := none }

def pool15 : Array CpInfo := pool [(2, .class_ 4), (1, u "java/lang/Object"), (0, u "<init>"), (0, u "()V"), (7, .class_ 16), (1, u "java/util/Arrays"), (57, .class_ 76), (1, u "java/util/Arrays$NaturalOrder"), (36, .class_ 115), (1, u "java/util/Arrays$LegacyMergeSort"), (1, u "Z"), (21, u "copyOfRange"), (10, .methodref 151 152), (0, .class_ 153), (0, .nameAndType 154 155), (0, u "java/lang/System"), (0, u "arraycopy"), (0, u "(Ljava/lang/Object;ILjava/lang/Object;II)V"), (148, .methodref 305 306), (0, .class_ 307), (0, .nameAndType 308 309), (0, u "java/lang/Math"), (0, u "min"), (0, u "(II)I"), (29, .methodref 14 340), (0, .nameAndType 341 342), (0, u "copyOfRangeByte"), (0, u "([BII)[B"), (0, .methodref 14 344), (0, .nameAndType 345 346), (0, u "checkLength"), (0, u "(II)V"), (28, .class_ 376), (0, u "java/util/Arrays$ArrayList"), (68, u "$assertionsDisabled"), (269, u "MIN_ARRAY_SORT_GRAN"), (0, u "I"), (2, u "INSERTIONSORT_THRESHOLD"), (255, .class_ 976), (0, u "java/util/Arrays$ArrayItr")] 52

def k15m0 : Method := { name := "<init>", desc := "()V", sig := { parameters := [], returnType := none }, accessFlags := 2, code := none }
def k15c1 : Code := { maxStack := 4, maxLocals := 2, code := jdk_65_method_131_code, exceptionTable := #[], attributes := #[] }
def k15m1 : Method := { name := "checkLength", desc := "(II)V", sig := { parameters := [.int, .int], returnType := none }, accessFlags := 10, code := some k15c1 }
def k15c2 : Code := { maxStack := 3, maxLocals := 3, code := jdk_65_method_132_code, exceptionTable := #[], attributes := #[] }
def k15m2 : Method := { name := "copyOfRange", desc := "([BII)[B", sig := { parameters := [(.array .byte), .int, .int], returnType := some (.array .byte) }, accessFlags := 9, code := some k15c2 }
def k15c3 : Code := { maxStack := 6, maxLocals := 5, code := jdk_65_method_133_code, exceptionTable := #[], attributes := #[] }
def k15m3 : Method := { name := "copyOfRangeByte", desc := "([BII)[B", sig := { parameters := [(.array .byte), .int, .int], returnType := some (.array .byte) }, accessFlags := 10, code := some k15c3 }
/-- java/util/Arrays -/
def k15 : Class := { plain "java/util/Arrays" (some 0) with
  accessFlags := 49
  interfaces := #[]
  cf := some (fileOf pool15 14 #[.nestMembers #[975, 375, 113, 74]] #[{ accessFlags := 2, nameIndex := 5, descriptorIndex := 6, attributes := #[] }, { accessFlags := 10, nameIndex := 345, descriptorIndex := 346, attributes := #[] }, { accessFlags := 9, nameIndex := 139, descriptorIndex := 342, attributes := #[] }, { accessFlags := 10, nameIndex := 341, descriptorIndex := 342, attributes := #[] }] 49 2 #[] #[{ accessFlags := 26, nameIndex := 715, descriptorIndex := 716, attributes := #[] }, { accessFlags := 26, nameIndex := 719, descriptorIndex := 716, attributes := #[] }, { accessFlags := 4120, nameIndex := 445, descriptorIndex := 117, attributes := #[] }])
  fields := #[{ name := "MIN_ARRAY_SORT_GRAN", type := .int, accessFlags := 26, slot := 0, constantValue := 0 }, { name := "INSERTIONSORT_THRESHOLD", type := .int, accessFlags := 26, slot := 1, constantValue := 0 }, { name := "$assertionsDisabled", type := .boolean, accessFlags := 4120, slot := 2, constantValue := 0 }]
  methods := #[k15m0, k15m1, k15m2, k15m3]
  instanceTypes := #[]
  staticTypes := #[.int, .int, .boolean]
  resolved := Array.replicate 1029 none
  statics := none }

def pool16 : Array CpInfo := pool [(1, .class_ 2), (0, u "java/lang/Math"), (1, .class_ 6), (1, u "java/lang/Object"), (0, u "<init>"), (0, u "()V"), (89, .class_ 100), (1, u "java/lang/Math$RandomNumberGeneratorHolder"), (71, u "negativeZeroFloatBits"), (0, u "J"), (2, u "negativeZeroDoubleBits"), (24, u "min"), (43, u "$assertionsDisabled"), (0, u "Z"), (88, u "(II)I"), (2, u "twoToTheDoubleScaleDown"), (0, u "D"), (4, u "twoToTheDoubleScaleUp"), (9, u "E"), (3, u "PI"), (2, u "TAU"), (2, u "DEGREES_TO_RADIANS"), (0, u "RADIANS_TO_DEGREES")] 94

def k16m0 : Method := { name := "<init>", desc := "()V", sig := { parameters := [], returnType := none }, accessFlags := 2, code := none }
def k16c1 : Code := { maxStack := 2, maxLocals := 2, code := jdk_29_method_69_code, exceptionTable := #[], attributes := #[] }
def k16m1 : Method := { name := "min", desc := "(II)I", sig := { parameters := [.int, .int], returnType := some .int }, accessFlags := 9, code := some k16c1 }
/-- java/lang/Math -/
def k16 : Class := { plain "java/lang/Math" (some 0) with
  accessFlags := 49
  interfaces := #[]
  cf := some (fileOf pool16 1 #[.nestMembers #[98]] #[{ accessFlags := 2, nameIndex := 7, descriptorIndex := 8, attributes := #[] }, { accessFlags := 9, nameIndex := 201, descriptorIndex := 335, attributes := #[] }] 49 4 #[] #[{ accessFlags := 25, nameIndex := 354, descriptorIndex := 339, attributes := #[] }, { accessFlags := 25, nameIndex := 358, descriptorIndex := 339, attributes := #[] }, { accessFlags := 25, nameIndex := 361, descriptorIndex := 339, attributes := #[] }, { accessFlags := 26, nameIndex := 364, descriptorIndex := 339, attributes := #[] }, { accessFlags := 26, nameIndex := 365, descriptorIndex := 339, attributes := #[] }, { accessFlags := 26, nameIndex := 172, descriptorIndex := 173, attributes := #[] }, { accessFlags := 26, nameIndex := 176, descriptorIndex := 173, attributes := #[] }, { accessFlags := 8, nameIndex := 344, descriptorIndex := 339, attributes := #[] }, { accessFlags := 8, nameIndex := 338, descriptorIndex := 339, attributes := #[] }, { accessFlags := 4120, nameIndex := 245, descriptorIndex := 246, attributes := #[] }])
  fields := #[{ name := "E", type := .double, accessFlags := 25, slot := 0, constantValue := 0 }, { name := "PI", type := .double, accessFlags := 25, slot := 1, constantValue := 0 }, { name := "TAU", type := .double, accessFlags := 25, slot := 2, constantValue := 0 }, { name := "DEGREES_TO_RADIANS", type := .double, accessFlags := 26, slot := 3, constantValue := 0 }, { name := "RADIANS_TO_DEGREES", type := .double, accessFlags := 26, slot := 4, constantValue := 0 }, { name := "negativeZeroFloatBits", type := .long, accessFlags := 26, slot := 5, constantValue := 0 }, { name := "negativeZeroDoubleBits", type := .long, accessFlags := 26, slot := 6, constantValue := 0 }, { name := "twoToTheDoubleScaleUp", type := .double, accessFlags := 8, slot := 7, constantValue := 0 }, { name := "twoToTheDoubleScaleDown", type := .double, accessFlags := 8, slot := 8, constantValue := 0 }, { name := "$assertionsDisabled", type := .boolean, accessFlags := 4120, slot := 9, constantValue := 0 }]
  methods := #[k16m0, k16m1]
  instanceTypes := #[]
  staticTypes := #[.double, .double, .double, .double, .double, .long, .long, .double, .double, .boolean]
  resolved := Array.replicate 460 none
  statics := none }

def pool17 : Array CpInfo := pool [(2, .class_ 4), (1, u "java/lang/Object"), (0, u "<init>"), (0, u "()V"), (17, .class_ 26), (1, u "jdk/internal/util/Preconditions"), (6, u "checkIndex"), (21, .class_ 56), (0, u "jdk/internal/util/Preconditions$4"), (57, .class_ 115), (0, u "jdk/internal/util/Preconditions$1"), (7, u "SIOOBE_FORMATTER"), (0, u "Ljava/util/function/BiFunction;"), (0, .class_ 126), (0, u "jdk/internal/util/Preconditions$2"), (3, u "AIOOBE_FORMATTER"), (0, .class_ 132), (0, u "jdk/internal/util/Preconditions$3"), (3, u "IOOBE_FORMATTER"), (41, u "(IILjava/util/function/BiFunction;)I")] 15

def k17m0 : Method := { name := "<init>", desc := "()V", sig := { parameters := [], returnType := none }, accessFlags := 1, code := none }
def k17c1 : Code := { maxStack := 3, maxLocals := 3, code := jdk_41_method_11_code, exceptionTable := #[], attributes := #[] }
def k17m1 : Method := { name := "checkIndex", desc := "(IILjava/util/function/BiFunction;)I", sig := { parameters := [.int, .int, (.object "java/util/function/BiFunction")], returnType := some .int }, accessFlags := 9, code := some k17c1 }
/-- jdk/internal/util/Preconditions -/
def k17 : Class := { plain "jdk/internal/util/Preconditions" (some 0) with
  accessFlags := 33
  interfaces := #[]
  cf := some (fileOf pool17 24 #[.nestMembers #[55, 131, 125, 114]] #[{ accessFlags := 1, nameIndex := 5, descriptorIndex := 6, attributes := #[] }, { accessFlags := 9, nameIndex := 33, descriptorIndex := 178, attributes := #[] }] 33 2 #[] #[{ accessFlags := 25, nameIndex := 123, descriptorIndex := 124, attributes := #[] }, { accessFlags := 25, nameIndex := 130, descriptorIndex := 124, attributes := #[] }, { accessFlags := 25, nameIndex := 136, descriptorIndex := 124, attributes := #[] }])
  fields := #[{ name := "SIOOBE_FORMATTER", type := (.object "java/util/function/BiFunction"), accessFlags := 25, slot := 0, constantValue := 0 }, { name := "AIOOBE_FORMATTER", type := (.object "java/util/function/BiFunction"), accessFlags := 25, slot := 1, constantValue := 0 }, { name := "IOOBE_FORMATTER", type := (.object "java/util/function/BiFunction"), accessFlags := 25, slot := 2, constantValue := 0 }]
  methods := #[k17m0, k17m1]
  instanceTypes := #[]
  staticTypes := #[(.object "java/util/function/BiFunction"), (.object "java/util/function/BiFunction"), (.object "java/util/function/BiFunction")]
  resolved := Array.replicate 194 none
  statics := some 1 }

def pool18 : Array CpInfo := pool [(6, .class_ 8), (1, u "java/lang/Object"), (0, u "<init>"), (0, u "()V"), (1, .class_ 14), (1, u "java/lang/StringUTF16"), (31, u "$assertionsDisabled"), (0, u "Z"), (13, u "HI_BYTE_SHIFT"), (0, u "I"), (2, u "LO_BYTE_SHIFT"), (49, .methodref 12 116), (0, .nameAndType 117 118), (0, u "compress"), (0, u "([CI[BII)I"), (3, u "([CII)[B"), (138, u "coderFromArrayLen"), (0, u "([BI)B"), (106, .class_ 371), (1, u "java/lang/StringUTF16$LinesSpliterator"), (58, u "MAX_LENGTH"), (196, .class_ 628), (0, u "java/lang/StringUTF16$CodePointsSpliterator"), (0, .class_ 630), (0, u "java/lang/StringUTF16$CharsSpliterator")] 4

def k18m0 : Method := { name := "<init>", desc := "()V", sig := { parameters := [], returnType := none }, accessFlags := 0, code := none }
def k18c1 : Code := { maxStack := 2, maxLocals := 2, code := jdk_52_method_15_code, exceptionTable := #[], attributes := #[] }
def k18m1 : Method := { name := "coderFromArrayLen", desc := "([BI)B", sig := { parameters := [(.array .byte), .int], returnType := some .byte }, accessFlags := 8, code := some k18c1 }
def k18c2 : Code := { maxStack := 5, maxLocals := 6, code := jdk_52_method_16_code, exceptionTable := #[], attributes := #[] }
def k18m2 : Method := { name := "compress", desc := "([CII)[B", sig := { parameters := [(.array .char), .int, .int], returnType := some (.array .byte) }, accessFlags := 9, code := some k18c2 }
def k18c3 : Code := { maxStack := 3, maxLocals := 7, code := jdk_52_method_21_code, exceptionTable := #[], attributes := #[] }
def k18m3 : Method := { name := "compress", desc := "([CI[BII)I", sig := { parameters := [(.array .char), .int, (.array .byte), .int, .int], returnType := some .int }, accessFlags := 9, code := some k18c3 }
/-- java/lang/StringUTF16 -/
def k18 : Class := { plain "java/lang/StringUTF16" (some 0) with
  accessFlags := 48
  interfaces := #[]
  cf := some (fileOf pool18 12 #[.nestMembers #[627, 629, 369]] #[{ accessFlags := 0, nameIndex := 9, descriptorIndex := 10, attributes := #[] }, { accessFlags := 8, nameIndex := 261, descriptorIndex := 262, attributes := #[] }, { accessFlags := 9, nameIndex := 117, descriptorIndex := 122, attributes := #[] }, { accessFlags := 9, nameIndex := 117, descriptorIndex := 118, attributes := #[] }] 48 6 #[] #[{ accessFlags := 26, nameIndex := 61, descriptorIndex := 62, attributes := #[] }, { accessFlags := 26, nameIndex := 65, descriptorIndex := 62, attributes := #[] }, { accessFlags := 24, nameIndex := 430, descriptorIndex := 62, attributes := #[] }, { accessFlags := 4120, nameIndex := 46, descriptorIndex := 47, attributes := #[] }])
  fields := #[{ name := "HI_BYTE_SHIFT", type := .int, accessFlags := 26, slot := 0, constantValue := 0 }, { name := "LO_BYTE_SHIFT", type := .int, accessFlags := 26, slot := 1, constantValue := 0 }, { name := "MAX_LENGTH", type := .int, accessFlags := 24, slot := 2, constantValue := 0 }, { name := "$assertionsDisabled", type := .boolean, accessFlags := 4120, slot := 3, constantValue := 0 }]
  methods := #[k18m0, k18m1, k18m2, k18m3]
  instanceTypes := #[]
  staticTypes := #[.int, .int, .int, .boolean]
  resolved := Array.replicate 635 none
  statics := none }

def pool19 : Array CpInfo := pool [(9, u "<init>"), (6, .class_ 18), (1, u "java/lang/Object"), (0, u "()V"), (1, .class_ 23), (1, u "jdk/internal/util/ArraysSupport"), (0, u "LOG2_ARRAY_LONG_INDEX_SCALE"), (0, u "I"), (2, u "U"), (0, u "Ljdk/internal/misc/Unsafe;"), (8, u "BIG_ENDIAN"), (0, u "Z"), (8, u "LOG2_BYTE_BIT_SIZE"), (4, u "LOG2_ARRAY_INT_INDEX_SCALE"), (54, u "JLA"), (0, u "Ljdk/internal/access/JavaLangAccess;"), (11, u "LOG2_ARRAY_BOOLEAN_INDEX_SCALE"), (9, u "LOG2_ARRAY_BYTE_INDEX_SCALE"), (5, u "LOG2_ARRAY_CHAR_INDEX_SCALE"), (5, u "LOG2_ARRAY_SHORT_INDEX_SCALE"), (18, u "LOG2_ARRAY_FLOAT_INDEX_SCALE"), (24, u "LOG2_ARRAY_DOUBLE_INDEX_SCALE"), (89, u "T_BOOLEAN"), (2, u "T_CHAR"), (1, u "T_FLOAT"), (1, u "T_DOUBLE"), (1, u "T_BYTE"), (1, u "T_SHORT"), (1, u "T_INT"), (1, u "T_LONG"), (1, u "SOFT_MAX_ARRAY_LENGTH")] 83

def k19m0 : Method := { name := "<init>", desc := "()V", sig := { parameters := [], returnType := none }, accessFlags := 2, code := none }
/-- jdk/internal/util/ArraysSupport -/
def k19 : Class := { plain "jdk/internal/util/ArraysSupport" (some 0) with
  accessFlags := 33
  interfaces := #[]
  cf := some (fileOf pool19 21 #[] #[{ accessFlags := 2, nameIndex := 9, descriptorIndex := 19, attributes := #[] }] 33 16 #[] #[{ accessFlags := 24, nameIndex := 28, descriptorIndex := 29, attributes := #[] }, { accessFlags := 26, nameIndex := 38, descriptorIndex := 39, attributes := #[] }, { accessFlags := 25, nameIndex := 121, descriptorIndex := 25, attributes := #[] }, { accessFlags := 25, nameIndex := 131, descriptorIndex := 25, attributes := #[] }, { accessFlags := 25, nameIndex := 137, descriptorIndex := 25, attributes := #[] }, { accessFlags := 25, nameIndex := 143, descriptorIndex := 25, attributes := #[] }, { accessFlags := 25, nameIndex := 53, descriptorIndex := 25, attributes := #[] }, { accessFlags := 25, nameIndex := 24, descriptorIndex := 25, attributes := #[] }, { accessFlags := 25, nameIndex := 162, descriptorIndex := 25, attributes := #[] }, { accessFlags := 25, nameIndex := 187, descriptorIndex := 25, attributes := #[] }, { accessFlags := 26, nameIndex := 48, descriptorIndex := 25, attributes := #[] }, { accessFlags := 25, nameIndex := 277, descriptorIndex := 25, attributes := #[] }, { accessFlags := 25, nameIndex := 280, descriptorIndex := 25, attributes := #[] }, { accessFlags := 25, nameIndex := 282, descriptorIndex := 25, attributes := #[] }, { accessFlags := 25, nameIndex := 284, descriptorIndex := 25, attributes := #[] }, { accessFlags := 25, nameIndex := 286, descriptorIndex := 25, attributes := #[] }, { accessFlags := 25, nameIndex := 288, descriptorIndex := 25, attributes := #[] }, { accessFlags := 25, nameIndex := 290, descriptorIndex := 25, attributes := #[] }, { accessFlags := 25, nameIndex := 292, descriptorIndex := 25, attributes := #[] }, { accessFlags := 26, nameIndex := 108, descriptorIndex := 109, attributes := #[] }, { accessFlags := 25, nameIndex := 294, descriptorIndex := 25, attributes := #[] }])
  fields := #[{ name := "U", type := (.object "jdk/internal/misc/Unsafe"), accessFlags := 24, slot := 0, constantValue := 0 }, { name := "BIG_ENDIAN", type := .boolean, accessFlags := 26, slot := 1, constantValue := 0 }, { name := "LOG2_ARRAY_BOOLEAN_INDEX_SCALE", type := .int, accessFlags := 25, slot := 2, constantValue := 0 }, { name := "LOG2_ARRAY_BYTE_INDEX_SCALE", type := .int, accessFlags := 25, slot := 3, constantValue := 0 }, { name := "LOG2_ARRAY_CHAR_INDEX_SCALE", type := .int, accessFlags := 25, slot := 4, constantValue := 0 }, { name := "LOG2_ARRAY_SHORT_INDEX_SCALE", type := .int, accessFlags := 25, slot := 5, constantValue := 0 }, { name := "LOG2_ARRAY_INT_INDEX_SCALE", type := .int, accessFlags := 25, slot := 6, constantValue := 0 }, { name := "LOG2_ARRAY_LONG_INDEX_SCALE", type := .int, accessFlags := 25, slot := 7, constantValue := 0 }, { name := "LOG2_ARRAY_FLOAT_INDEX_SCALE", type := .int, accessFlags := 25, slot := 8, constantValue := 0 }, { name := "LOG2_ARRAY_DOUBLE_INDEX_SCALE", type := .int, accessFlags := 25, slot := 9, constantValue := 0 }, { name := "LOG2_BYTE_BIT_SIZE", type := .int, accessFlags := 26, slot := 10, constantValue := 0 }, { name := "T_BOOLEAN", type := .int, accessFlags := 25, slot := 11, constantValue := 0 }, { name := "T_CHAR", type := .int, accessFlags := 25, slot := 12, constantValue := 0 }, { name := "T_FLOAT", type := .int, accessFlags := 25, slot := 13, constantValue := 0 }, { name := "T_DOUBLE", type := .int, accessFlags := 25, slot := 14, constantValue := 0 }, { name := "T_BYTE", type := .int, accessFlags := 25, slot := 15, constantValue := 0 }, { name := "T_SHORT", type := .int, accessFlags := 25, slot := 16, constantValue := 0 }, { name := "T_INT", type := .int, accessFlags := 25, slot := 17, constantValue := 0 }, { name := "T_LONG", type := .int, accessFlags := 25, slot := 18, constantValue := 0 }, { name := "JLA", type := (.object "jdk/internal/access/JavaLangAccess"), accessFlags := 26, slot := 19, constantValue := 0 }, { name := "SOFT_MAX_ARRAY_LENGTH", type := .int, accessFlags := 25, slot := 20, constantValue := 0 }]
  methods := #[k19m0]
  instanceTypes := #[]
  staticTypes := #[(.object "jdk/internal/misc/Unsafe"), .boolean, .int, .int, .int, .int, .int, .int, .int, .int, .int, .int, .int, .int, .int, .int, .int, .int, .int, (.object "jdk/internal/access/JavaLangAccess"), .int]
  resolved := Array.replicate 378 none
  statics := none }

def pool20 : Array CpInfo := pool [(1, u "java/lang/Cloneable"), (0, .class_ 1), (0, u "java/lang/Object"), (0, .class_ 3)] 3

/-- java/lang/Cloneable -/
def k20 : Class := { plain "java/lang/Cloneable" (some 0) with
  accessFlags := 1537
  interfaces := #[]
  cf := some (fileOf pool20 2 #[] #[] 1537 4 #[] #[])
  fields := #[]
  methods := #[]
  instanceTypes := #[]
  staticTypes := #[]
  resolved := Array.replicate 8 none
  statics := none }

/-- the primitive byte -/
def k21 : Class := { plain "byte" none with kind := .primitive 'B', accessFlags := 0x411 }
/-- [B -/
def k22 : Class := { plain "[B" (some 0) with kind := .array 21 .byte, interfaces := #[20, 2], accessFlags := 1041 }

/-- the primitive char -/
def k23 : Class := { plain "char" none with kind := .primitive 'C', accessFlags := 0x411 }
/-- [C -/
def k24 : Class := { plain "[C" (some 0) with kind := .array 23 .char, interfaces := #[20, 2], accessFlags := 1041 }

/-- the primitive int -/
def k25 : Class := { plain "int" none with kind := .primitive 'I', accessFlags := 0x411 }
/-- [I -/
def k26 : Class := { plain "[I" (some 0) with kind := .array 25 .int, interfaces := #[20, 2], accessFlags := 1041 }

def heap : Heap := #[{ cls := 7, slots := #[.long 0, .int 1, .null, .int 0, .null, .int 0, .int 0], vm := .statics 7 },
  { cls := 17, slots := #[.null, .null, .null], vm := .statics 17 }]
def classes : Array Class := #[k0, k1, k2, k3, k4, k5, k6, k7, k8, k9, k10, k11, k12, k13, k14, k15, k16, k17, k18, k19, k20, k21, k22, k23, k24, k25, k26]
def interned : List (Array UInt16 × Addr) := []
def slotsUsed : Nat := 10
def theMethod : MethodId := ⟨1, 1⟩
def args0 : Array Value := #[.int 65, .int 66, .int 67, .int 68, .int 69, .int 5]
def aboutOver (below : List Frame) : State where
  vm := { classes := classes, interned := interned.toArray }
  heap := heap
  slotsUsed := slotsUsed
  threads := #[{ frames := .invoking theMethod args0 :: below }]
def below0 : List Frame := [.native { method := ⟨0, 0⟩, args := #[] }]
def about1 : State := aboutOver below0
def p0 : Program := .bare "" "" ""
def e0 : Env := launch0.env 0 0 0
theorem w_frames : about1.frames = Frame.invoking theMethod args0 :: below0 := rfl
set_option maxRecDepth 65536 in
theorem w_args : argsFit about1.vm theMethod args0 = true := by decide +kernel
set_option maxRecDepth 65536 in
theorem w_heap : heapFits about1 = true := by decide +kernel
set_option maxRecDepth 65536 in
theorem w_runnable : about1.curStatus? = some .runnable := by decide +kernel
set_option maxRecDepth 65536 in
theorem w_alone : about1.alone = true := by decide +kernel
set_option maxRecDepth 65536 in
theorem w_named : about1.methodNamed? x = some theMethod := by decide +kernel
set_option maxRecDepth 65536 in
theorem w_hears : about1.hears theMethod below0 = true := by decide +kernel
set_option maxRecDepth 65536 in
theorem w_ripe : about1.ripe theMethod args0 below0 = true := by decide +kernel
theorem w_running : about1.status = .running := rfl
set_option maxRecDepth 65536 in
theorem w_room : about1.hasRoom e0.platform room_1 = true :=
  launch0.hasRoom_least _ room_1 (by decide +kernel) (by decide +kernel) (by decide +kernel) (by decide +kernel) (by decide +kernel) (by decide +kernel)
theorem allAtoms_all (ts : List Jvm.Cond) (a : Array Jvm.Value) (st : Jvm.State) : (allAtoms ts).before a st = ts.all (fun c => c.before a st) := by
  induction ts with
  | nil => rfl
  | cons c t ih =>
    show (Jvm.Cond.and c (allAtoms t)).before a st = _
    rw [Jvm.Cond.before_and, ih, List.all_cons]
def words1 : List Jvm.Cond := Jvm.Cond.code x code maxLocals ret :: tables_1
/-- a 'code' word, met by the world's own term for the bytes: nothing is compared byte by byte -/
theorem code_word {y : MethodName} {bytes : ByteArray} {mx : Nat} {rt : Option FieldType} {a : Array Value} {s : State} {m : MethodId} {meth : Method} {c : Code} (h1 : s.methodNamed? y = some m) (h2 : s.vm.method? m = some meth) (h3 : meth.code = some c) (h4 : c.code = bytes)
    (h5 : (c.maxLocals == mx && c.exceptionTable.isEmpty && decide (c.maxStack ≤ mostOperands) && decide (meth.sig.returnType = rt) && !meth.locks && decide (parseMethodDescriptor y.desc = some meth.sig)) = true) : (Jvm.Cond.code y bytes mx rt).before a s = true := by
  simp only [Bool.and_eq_true, beq_iff_eq, Bool.not_eq_true', decide_eq_true_eq] at h5
  obtain ⟨⟨⟨⟨⟨g1, g2⟩, g3⟩, g4⟩, g5⟩, g6⟩ := h5
  simp [Cond.before, Cond.holds, Cond.value, h1, h2, h3, h4, g1, g2, g3, g4, g5, g6]
def isCode : Jvm.Cond → Bool
  | .code _ _ _ _ => true
  | _ => false
theorem all_split {L : List Jvm.Cond} {P : Jvm.Cond → Bool} (h1 : L.all (fun c => isCode c || P c) = true) (h2 : ∀ c ∈ L.filter isCode, P c = true) : L.all P = true := by
  refine List.all_eq_true.mpr fun c hc => ?_
  have h := List.all_eq_true.mp h1 c hc
  rcases Bool.eq_false_or_eq_true (isCode c) with hi | hi
  · exact h2 c (List.mem_filter.mpr ⟨hc, hi⟩)
  · simpa [hi] using h
set_option maxRecDepth 65536 in
theorem w_c0 : (Jvm.Cond.code x code maxLocals ret).before args0 about1 = true := code_word (m := ⟨1, 1⟩) (meth := k1m1) (c := k1c1) (by decide +kernel) rfl rfl rfl (by decide +kernel)
set_option maxRecDepth 65536 in
theorem w_c1 : (Jvm.Cond.code ({ cls := "com/example/iron_lock/ironlock/model/LockKeysCompanionKeyPinLaw", name := "str", desc := "(ICCC)Ljava/lang/String;" } : Jvm.MethodName) method_3_code (4 : Nat) (Option.some (Jvm.ClassFile.FieldType.object "java/lang/String"))).before args0 about1 = true := code_word (m := ⟨1, 2⟩) (meth := k1m2) (c := k1c2) (by decide +kernel) rfl rfl rfl (by decide +kernel)
set_option maxRecDepth 65536 in
theorem w_c2 : (Jvm.Cond.code ({ cls := "java/lang/String", name := "valueOf", desc := "(C)Ljava/lang/String;" } : Jvm.MethodName) jdk_42_method_139_code (1 : Nat) (Option.some (Jvm.ClassFile.FieldType.object "java/lang/String"))).before args0 about1 = true := code_word (m := ⟨7, 6⟩) (meth := k7m6) (c := k7c6) (by decide +kernel) rfl rfl rfl (by decide +kernel)
set_option maxRecDepth 65536 in
theorem w_c3 : (Jvm.Cond.code ({ cls := "java/lang/StringLatin1", name := "canEncode", desc := "(C)Z" } : Jvm.MethodName) jdk_43_method_3_code (1 : Nat) (Option.some Jvm.ClassFile.FieldType.boolean)).before args0 about1 = true := code_word (m := ⟨8, 2⟩) (meth := k8m2) (c := k8c2) (by decide +kernel) rfl rfl rfl (by decide +kernel)
set_option maxRecDepth 65536 in
theorem w_c4 : (Jvm.Cond.code ({ cls := "java/lang/StringLatin1", name := "toBytes", desc := "(C)[B" } : Jvm.MethodName) jdk_43_method_46_code (1 : Nat) (Option.some (Jvm.ClassFile.FieldType.array Jvm.ClassFile.FieldType.byte))).before args0 about1 = true := code_word (m := ⟨8, 3⟩) (meth := k8m3) (c := k8c3) (by decide +kernel) rfl rfl rfl (by decide +kernel)
set_option maxRecDepth 65536 in
theorem w_c5 : (Jvm.Cond.code ({ cls := "java/lang/String", name := "<init>", desc := "([BB)V" } : Jvm.MethodName) jdk_42_method_151_code (3 : Nat) (Option.none : Option Jvm.ClassFile.FieldType)).before args0 about1 = true := code_word (m := ⟨7, 10⟩) (meth := k7m10) (c := k7c10) (by decide +kernel) rfl rfl rfl (by decide +kernel)
set_option maxRecDepth 65536 in
theorem w_c6 : (Jvm.Cond.code ({ cls := "java/lang/Object", name := "<init>", desc := "()V" } : Jvm.MethodName) object_method_1_code (1 : Nat) (Option.none : Option Jvm.ClassFile.FieldType)).before args0 about1 = true := code_word (m := ⟨0, 0⟩) (meth := k0m0) (c := k0c0) (by decide +kernel) rfl rfl rfl (by decide +kernel)
set_option maxRecDepth 65536 in
theorem w_c7 : (Jvm.Cond.code ({ cls := "java/lang/String", name := "<init>", desc := "([C)V" } : Jvm.MethodName) jdk_42_method_3_code (2 : Nat) (Option.none : Option Jvm.ClassFile.FieldType)).before args0 about1 = true := code_word (m := ⟨7, 1⟩) (meth := k7m1) (c := k7c1) (by decide +kernel) rfl rfl rfl (by decide +kernel)
set_option maxRecDepth 65536 in
theorem w_c8 : (Jvm.Cond.code ({ cls := "java/lang/String", name := "<init>", desc := "([CIILjava/lang/Void;)V" } : Jvm.MethodName) jdk_42_method_149_code (6 : Nat) (Option.none : Option Jvm.ClassFile.FieldType)).before args0 about1 = true := code_word (m := ⟨7, 8⟩) (meth := k7m8) (c := k7c8) (by decide +kernel) rfl rfl rfl (by decide +kernel)
set_option maxRecDepth 65536 in
theorem w_c9 : (Jvm.Cond.code ({ cls := "com/example/iron_lock/ironlock/model/LockKeys", name := "<init>", desc := "(Ljava/lang/String;)V" } : Jvm.MethodName) prog_4_method_1_code (2 : Nat) (Option.none : Option Jvm.ClassFile.FieldType)).before args0 about1 = true := code_word (m := ⟨9, 0⟩) (meth := k9m0) (c := k9c0) (by decide +kernel) rfl rfl rfl (by decide +kernel)
set_option maxRecDepth 65536 in
theorem w_c10 : (Jvm.Cond.code ({ cls := "java/util/Objects", name := "requireNonNull", desc := "(Ljava/lang/Object;Ljava/lang/String;)Ljava/lang/Object;" } : Jvm.MethodName) jdk_31_method_11_code (2 : Nat) (Option.some (Jvm.ClassFile.FieldType.object "java/lang/Object"))).before args0 about1 = true := code_word (m := ⟨10, 1⟩) (meth := k10m1) (c := k10c1) (by decide +kernel) rfl rfl rfl (by decide +kernel)
set_option maxRecDepth 65536 in
theorem w_c11 : (Jvm.Cond.code ({ cls := "java/lang/String", name := "isEmpty", desc := "()Z" } : Jvm.MethodName) jdk_42_method_55_code (1 : Nat) (Option.some Jvm.ClassFile.FieldType.boolean)).before args0 about1 = true := code_word (m := ⟨7, 4⟩) (meth := k7m4) (c := k7c4) (by decide +kernel) rfl rfl rfl (by decide +kernel)
set_option maxRecDepth 65536 in
theorem w_c12 : (Jvm.Cond.code ({ cls := "com/example/iron_lock/ironlock/model/LockKeys", name := "companionKey", desc := "(Ljava/lang/String;)Ljava/lang/String;" } : Jvm.MethodName) prog_4_method_3_code (2 : Nat) (Option.some (Jvm.ClassFile.FieldType.object "java/lang/String"))).before args0 about1 = true := code_word (m := ⟨9, 1⟩) (meth := k9m1) (c := k9c1) (by decide +kernel) rfl rfl rfl (by decide +kernel)
set_option maxRecDepth 65536 in
theorem w_c13 : (Jvm.Cond.code ({ cls := "java/lang/StringBuilder", name := "<init>", desc := "()V" } : Jvm.MethodName) jdk_67_method_1_code (1 : Nat) (Option.none : Option Jvm.ClassFile.FieldType)).before args0 about1 = true := code_word (m := ⟨13, 0⟩) (meth := k13m0) (c := k13c0) (by decide +kernel) rfl rfl rfl (by decide +kernel)
set_option maxRecDepth 65536 in
theorem w_c14 : (Jvm.Cond.code ({ cls := "java/lang/AbstractStringBuilder", name := "<init>", desc := "(I)V" } : Jvm.MethodName) jdk_68_method_2_code (2 : Nat) (Option.none : Option Jvm.ClassFile.FieldType)).before args0 about1 = true := code_word (m := ⟨12, 1⟩) (meth := k12m1) (c := k12c1) (by decide +kernel) rfl rfl rfl (by decide +kernel)
set_option maxRecDepth 65536 in
theorem w_c15 : (Jvm.Cond.code ({ cls := "java/lang/StringBuilder", name := "append", desc := "(Ljava/lang/String;)Ljava/lang/StringBuilder;" } : Jvm.MethodName) jdk_67_method_7_code (2 : Nat) (Option.some (Jvm.ClassFile.FieldType.object "java/lang/StringBuilder"))).before args0 about1 = true := code_word (m := ⟨13, 1⟩) (meth := k13m1) (c := k13c1) (by decide +kernel) rfl rfl rfl (by decide +kernel)
set_option maxRecDepth 65536 in
theorem w_c16 : (Jvm.Cond.code ({ cls := "java/lang/AbstractStringBuilder", name := "append", desc := "(Ljava/lang/String;)Ljava/lang/AbstractStringBuilder;" } : Jvm.MethodName) jdk_68_method_22_code (3 : Nat) (Option.some (Jvm.ClassFile.FieldType.object "java/lang/AbstractStringBuilder"))).before args0 about1 = true := code_word (m := ⟨12, 4⟩) (meth := k12m4) (c := k12c4) (by decide +kernel) rfl rfl rfl (by decide +kernel)
set_option maxRecDepth 65536 in
theorem w_c17 : (Jvm.Cond.code ({ cls := "java/lang/String", name := "length", desc := "()I" } : Jvm.MethodName) jdk_42_method_54_code (1 : Nat) (Option.some Jvm.ClassFile.FieldType.int)).before args0 about1 = true := code_word (m := ⟨7, 3⟩) (meth := k7m3) (c := k7c3) (by decide +kernel) rfl rfl rfl (by decide +kernel)
set_option maxRecDepth 65536 in
theorem w_c18 : (Jvm.Cond.code ({ cls := "java/lang/String", name := "coder", desc := "()B" } : Jvm.MethodName) jdk_42_method_152_code (1 : Nat) (Option.some Jvm.ClassFile.FieldType.byte)).before args0 about1 = true := code_word (m := ⟨7, 11⟩) (meth := k7m11) (c := k7c11) (by decide +kernel) rfl rfl rfl (by decide +kernel)
set_option maxRecDepth 65536 in
theorem w_c19 : (Jvm.Cond.code ({ cls := "java/lang/AbstractStringBuilder", name := "ensureCapacityInternal", desc := "(I)V" } : Jvm.MethodName) jdk_68_method_9_code (3 : Nat) (Option.none : Option Jvm.ClassFile.FieldType)).before args0 about1 = true := code_word (m := ⟨12, 3⟩) (meth := k12m3) (c := k12c3) (by decide +kernel) rfl rfl rfl (by decide +kernel)
set_option maxRecDepth 65536 in
theorem w_c20 : (Jvm.Cond.code ({ cls := "java/lang/AbstractStringBuilder", name := "putStringAt", desc := "(ILjava/lang/String;)V" } : Jvm.MethodName) jdk_68_method_73_code (3 : Nat) (Option.none : Option Jvm.ClassFile.FieldType)).before args0 about1 = true := code_word (m := ⟨12, 8⟩) (meth := k12m8) (c := k12c8) (by decide +kernel) rfl rfl rfl (by decide +kernel)
set_option maxRecDepth 65536 in
theorem w_c21 : (Jvm.Cond.code ({ cls := "java/lang/AbstractStringBuilder", name := "inflateIfNeededFor", desc := "(Ljava/lang/String;)V" } : Jvm.MethodName) jdk_68_method_71_code (2 : Nat) (Option.none : Option Jvm.ClassFile.FieldType)).before args0 about1 = true := code_word (m := ⟨12, 7⟩) (meth := k12m7) (c := k12c7) (by decide +kernel) rfl rfl rfl (by decide +kernel)
set_option maxRecDepth 65536 in
theorem w_c22 : (Jvm.Cond.code ({ cls := "java/lang/String", name := "getBytes", desc := "([BIB)V" } : Jvm.MethodName) jdk_42_method_147_code (4 : Nat) (Option.none : Option Jvm.ClassFile.FieldType)).before args0 about1 = true := code_word (m := ⟨7, 7⟩) (meth := k7m7) (c := k7c7) (by decide +kernel) rfl rfl rfl (by decide +kernel)
set_option maxRecDepth 65536 in
theorem w_c23 : (Jvm.Cond.code ({ cls := "java/lang/StringBuilder", name := "toString", desc := "()Ljava/lang/String;" } : Jvm.MethodName) jdk_67_method_42_code (1 : Nat) (Option.some (Jvm.ClassFile.FieldType.object "java/lang/String"))).before args0 about1 = true := code_word (m := ⟨13, 2⟩) (meth := k13m2) (c := k13c2) (by decide +kernel) rfl rfl rfl (by decide +kernel)
set_option maxRecDepth 65536 in
theorem w_c24 : (Jvm.Cond.code ({ cls := "java/lang/String", name := "<init>", desc := "(Ljava/lang/StringBuilder;)V" } : Jvm.MethodName) jdk_42_method_53_code (2 : Nat) (Option.none : Option Jvm.ClassFile.FieldType)).before args0 about1 = true := code_word (m := ⟨7, 2⟩) (meth := k7m2) (c := k7c2) (by decide +kernel) rfl rfl rfl (by decide +kernel)
set_option maxRecDepth 65536 in
theorem w_c25 : (Jvm.Cond.code ({ cls := "java/lang/String", name := "<init>", desc := "(Ljava/lang/AbstractStringBuilder;Ljava/lang/Void;)V" } : Jvm.MethodName) jdk_42_method_150_code (5 : Nat) (Option.none : Option Jvm.ClassFile.FieldType)).before args0 about1 = true := code_word (m := ⟨7, 9⟩) (meth := k7m9) (c := k7c9) (by decide +kernel) rfl rfl rfl (by decide +kernel)
set_option maxRecDepth 65536 in
theorem w_c26 : (Jvm.Cond.code ({ cls := "java/lang/AbstractStringBuilder", name := "getValue", desc := "()[B" } : Jvm.MethodName) jdk_68_method_64_code (1 : Nat) (Option.some (Jvm.ClassFile.FieldType.array Jvm.ClassFile.FieldType.byte))).before args0 about1 = true := code_word (m := ⟨12, 5⟩) (meth := k12m5) (c := k12c5) (by decide +kernel) rfl rfl rfl (by decide +kernel)
set_option maxRecDepth 65536 in
theorem w_c27 : (Jvm.Cond.code ({ cls := "java/lang/StringBuilder", name := "length", desc := "()I" } : Jvm.MethodName) jdk_67_method_93_code (1 : Nat) (Option.some Jvm.ClassFile.FieldType.int)).before args0 about1 = true := code_word (m := ⟨13, 3⟩) (meth := k13m3) (c := k13c3) (by decide +kernel) rfl rfl rfl (by decide +kernel)
set_option maxRecDepth 65536 in
theorem w_c28 : (Jvm.Cond.code ({ cls := "java/lang/AbstractStringBuilder", name := "length", desc := "()I" } : Jvm.MethodName) jdk_68_method_6_code (1 : Nat) (Option.some Jvm.ClassFile.FieldType.int)).before args0 about1 = true := code_word (m := ⟨12, 2⟩) (meth := k12m2) (c := k12c2) (by decide +kernel) rfl rfl rfl (by decide +kernel)
set_option maxRecDepth 65536 in
theorem w_c29 : (Jvm.Cond.code ({ cls := "java/lang/AbstractStringBuilder", name := "isLatin1", desc := "()Z" } : Jvm.MethodName) jdk_68_method_68_code (1 : Nat) (Option.some Jvm.ClassFile.FieldType.boolean)).before args0 about1 = true := code_word (m := ⟨12, 6⟩) (meth := k12m6) (c := k12c6) (by decide +kernel) rfl rfl rfl (by decide +kernel)
set_option maxRecDepth 65536 in
theorem w_c30 : (Jvm.Cond.code ({ cls := "java/util/Arrays", name := "copyOfRange", desc := "([BII)[B" } : Jvm.MethodName) jdk_65_method_132_code (3 : Nat) (Option.some (Jvm.ClassFile.FieldType.array Jvm.ClassFile.FieldType.byte))).before args0 about1 = true := code_word (m := ⟨15, 2⟩) (meth := k15m2) (c := k15c2) (by decide +kernel) rfl rfl rfl (by decide +kernel)
set_option maxRecDepth 65536 in
theorem w_c31 : (Jvm.Cond.code ({ cls := "java/util/Arrays", name := "copyOfRangeByte", desc := "([BII)[B" } : Jvm.MethodName) jdk_65_method_133_code (5 : Nat) (Option.some (Jvm.ClassFile.FieldType.array Jvm.ClassFile.FieldType.byte))).before args0 about1 = true := code_word (m := ⟨15, 3⟩) (meth := k15m3) (c := k15c3) (by decide +kernel) rfl rfl rfl (by decide +kernel)
set_option maxRecDepth 65536 in
theorem w_c32 : (Jvm.Cond.code ({ cls := "java/util/Arrays", name := "checkLength", desc := "(II)V" } : Jvm.MethodName) jdk_65_method_131_code (2 : Nat) (Option.none : Option Jvm.ClassFile.FieldType)).before args0 about1 = true := code_word (m := ⟨15, 1⟩) (meth := k15m1) (c := k15c1) (by decide +kernel) rfl rfl rfl (by decide +kernel)
set_option maxRecDepth 65536 in
theorem w_c33 : (Jvm.Cond.code ({ cls := "java/lang/Math", name := "min", desc := "(II)I" } : Jvm.MethodName) jdk_29_method_69_code (2 : Nat) (Option.some Jvm.ClassFile.FieldType.int)).before args0 about1 = true := code_word (m := ⟨16, 1⟩) (meth := k16m1) (c := k16c1) (by decide +kernel) rfl rfl rfl (by decide +kernel)
set_option maxRecDepth 65536 in
theorem w_c34 : (Jvm.Cond.code ({ cls := "java/lang/String", name := "charAt", desc := "(I)C" } : Jvm.MethodName) jdk_42_method_56_code (2 : Nat) (Option.some Jvm.ClassFile.FieldType.char)).before args0 about1 = true := code_word (m := ⟨7, 5⟩) (meth := k7m5) (c := k7c5) (by decide +kernel) rfl rfl rfl (by decide +kernel)
set_option maxRecDepth 65536 in
theorem w_c35 : (Jvm.Cond.code ({ cls := "java/lang/String", name := "isLatin1", desc := "()Z" } : Jvm.MethodName) jdk_42_method_154_code (1 : Nat) (Option.some Jvm.ClassFile.FieldType.boolean)).before args0 about1 = true := code_word (m := ⟨7, 12⟩) (meth := k7m12) (c := k7c12) (by decide +kernel) rfl rfl rfl (by decide +kernel)
set_option maxRecDepth 65536 in
theorem w_c36 : (Jvm.Cond.code ({ cls := "java/lang/StringLatin1", name := "charAt", desc := "([BI)C" } : Jvm.MethodName) jdk_43_method_2_code (2 : Nat) (Option.some Jvm.ClassFile.FieldType.char)).before args0 about1 = true := code_word (m := ⟨8, 1⟩) (meth := k8m1) (c := k8c1) (by decide +kernel) rfl rfl rfl (by decide +kernel)
set_option maxRecDepth 65536 in
theorem w_c37 : (Jvm.Cond.code ({ cls := "java/lang/String", name := "checkIndex", desc := "(II)V" } : Jvm.MethodName) jdk_42_method_155_code (2 : Nat) (Option.none : Option Jvm.ClassFile.FieldType)).before args0 about1 = true := code_word (m := ⟨7, 13⟩) (meth := k7m13) (c := k7c13) (by decide +kernel) rfl rfl rfl (by decide +kernel)
set_option maxRecDepth 65536 in
theorem w_c38 : (Jvm.Cond.code ({ cls := "jdk/internal/util/Preconditions", name := "checkIndex", desc := "(IILjava/util/function/BiFunction;)I" } : Jvm.MethodName) jdk_41_method_11_code (3 : Nat) (Option.some Jvm.ClassFile.FieldType.int)).before args0 about1 = true := code_word (m := ⟨17, 1⟩) (meth := k17m1) (c := k17c1) (by decide +kernel) rfl rfl rfl (by decide +kernel)
set_option maxRecDepth 65536 in
theorem w_c39 : (Jvm.Cond.code ({ cls := "java/lang/StringUTF16", name := "compress", desc := "([CII)[B" } : Jvm.MethodName) jdk_52_method_16_code (6 : Nat) (Option.some (Jvm.ClassFile.FieldType.array Jvm.ClassFile.FieldType.byte))).before args0 about1 = true := code_word (m := ⟨18, 2⟩) (meth := k18m2) (c := k18c2) (by decide +kernel) rfl rfl rfl (by decide +kernel)
set_option maxRecDepth 65536 in
theorem w_c40 : (Jvm.Cond.code ({ cls := "java/lang/StringUTF16", name := "compress", desc := "([CI[BII)I" } : Jvm.MethodName) jdk_52_method_21_code (7 : Nat) (Option.some Jvm.ClassFile.FieldType.int)).before args0 about1 = true := code_word (m := ⟨18, 3⟩) (meth := k18m3) (c := k18c3) (by decide +kernel) rfl rfl rfl (by decide +kernel)
set_option maxRecDepth 65536 in
theorem w_c41 : (Jvm.Cond.code ({ cls := "java/lang/StringUTF16", name := "coderFromArrayLen", desc := "([BI)B" } : Jvm.MethodName) jdk_52_method_15_code (2 : Nat) (Option.some Jvm.ClassFile.FieldType.byte)).before args0 about1 = true := code_word (m := ⟨18, 1⟩) (meth := k18m1) (c := k18c1) (by decide +kernel) rfl rfl rfl (by decide +kernel)
def codes1 : List Jvm.Cond := [Jvm.Cond.code x code maxLocals ret, Jvm.Cond.code ({ cls := "com/example/iron_lock/ironlock/model/LockKeysCompanionKeyPinLaw", name := "str", desc := "(ICCC)Ljava/lang/String;" } : Jvm.MethodName) method_3_code (4 : Nat) (Option.some (Jvm.ClassFile.FieldType.object "java/lang/String")), Jvm.Cond.code ({ cls := "java/lang/String", name := "valueOf", desc := "(C)Ljava/lang/String;" } : Jvm.MethodName) jdk_42_method_139_code (1 : Nat) (Option.some (Jvm.ClassFile.FieldType.object "java/lang/String")), Jvm.Cond.code ({ cls := "java/lang/StringLatin1", name := "canEncode", desc := "(C)Z" } : Jvm.MethodName) jdk_43_method_3_code (1 : Nat) (Option.some Jvm.ClassFile.FieldType.boolean), Jvm.Cond.code ({ cls := "java/lang/StringLatin1", name := "toBytes", desc := "(C)[B" } : Jvm.MethodName) jdk_43_method_46_code (1 : Nat) (Option.some (Jvm.ClassFile.FieldType.array Jvm.ClassFile.FieldType.byte)), Jvm.Cond.code ({ cls := "java/lang/String", name := "<init>", desc := "([BB)V" } : Jvm.MethodName) jdk_42_method_151_code (3 : Nat) (Option.none : Option Jvm.ClassFile.FieldType), Jvm.Cond.code ({ cls := "java/lang/Object", name := "<init>", desc := "()V" } : Jvm.MethodName) object_method_1_code (1 : Nat) (Option.none : Option Jvm.ClassFile.FieldType), Jvm.Cond.code ({ cls := "java/lang/String", name := "<init>", desc := "([C)V" } : Jvm.MethodName) jdk_42_method_3_code (2 : Nat) (Option.none : Option Jvm.ClassFile.FieldType), Jvm.Cond.code ({ cls := "java/lang/String", name := "<init>", desc := "([CIILjava/lang/Void;)V" } : Jvm.MethodName) jdk_42_method_149_code (6 : Nat) (Option.none : Option Jvm.ClassFile.FieldType), Jvm.Cond.code ({ cls := "com/example/iron_lock/ironlock/model/LockKeys", name := "<init>", desc := "(Ljava/lang/String;)V" } : Jvm.MethodName) prog_4_method_1_code (2 : Nat) (Option.none : Option Jvm.ClassFile.FieldType), Jvm.Cond.code ({ cls := "java/util/Objects", name := "requireNonNull", desc := "(Ljava/lang/Object;Ljava/lang/String;)Ljava/lang/Object;" } : Jvm.MethodName) jdk_31_method_11_code (2 : Nat) (Option.some (Jvm.ClassFile.FieldType.object "java/lang/Object")), Jvm.Cond.code ({ cls := "java/lang/String", name := "isEmpty", desc := "()Z" } : Jvm.MethodName) jdk_42_method_55_code (1 : Nat) (Option.some Jvm.ClassFile.FieldType.boolean), Jvm.Cond.code ({ cls := "com/example/iron_lock/ironlock/model/LockKeys", name := "companionKey", desc := "(Ljava/lang/String;)Ljava/lang/String;" } : Jvm.MethodName) prog_4_method_3_code (2 : Nat) (Option.some (Jvm.ClassFile.FieldType.object "java/lang/String")), Jvm.Cond.code ({ cls := "java/lang/StringBuilder", name := "<init>", desc := "()V" } : Jvm.MethodName) jdk_67_method_1_code (1 : Nat) (Option.none : Option Jvm.ClassFile.FieldType), Jvm.Cond.code ({ cls := "java/lang/AbstractStringBuilder", name := "<init>", desc := "(I)V" } : Jvm.MethodName) jdk_68_method_2_code (2 : Nat) (Option.none : Option Jvm.ClassFile.FieldType), Jvm.Cond.code ({ cls := "java/lang/StringBuilder", name := "append", desc := "(Ljava/lang/String;)Ljava/lang/StringBuilder;" } : Jvm.MethodName) jdk_67_method_7_code (2 : Nat) (Option.some (Jvm.ClassFile.FieldType.object "java/lang/StringBuilder")), Jvm.Cond.code ({ cls := "java/lang/AbstractStringBuilder", name := "append", desc := "(Ljava/lang/String;)Ljava/lang/AbstractStringBuilder;" } : Jvm.MethodName) jdk_68_method_22_code (3 : Nat) (Option.some (Jvm.ClassFile.FieldType.object "java/lang/AbstractStringBuilder")), Jvm.Cond.code ({ cls := "java/lang/String", name := "length", desc := "()I" } : Jvm.MethodName) jdk_42_method_54_code (1 : Nat) (Option.some Jvm.ClassFile.FieldType.int), Jvm.Cond.code ({ cls := "java/lang/String", name := "coder", desc := "()B" } : Jvm.MethodName) jdk_42_method_152_code (1 : Nat) (Option.some Jvm.ClassFile.FieldType.byte), Jvm.Cond.code ({ cls := "java/lang/AbstractStringBuilder", name := "ensureCapacityInternal", desc := "(I)V" } : Jvm.MethodName) jdk_68_method_9_code (3 : Nat) (Option.none : Option Jvm.ClassFile.FieldType), Jvm.Cond.code ({ cls := "java/lang/AbstractStringBuilder", name := "putStringAt", desc := "(ILjava/lang/String;)V" } : Jvm.MethodName) jdk_68_method_73_code (3 : Nat) (Option.none : Option Jvm.ClassFile.FieldType), Jvm.Cond.code ({ cls := "java/lang/AbstractStringBuilder", name := "inflateIfNeededFor", desc := "(Ljava/lang/String;)V" } : Jvm.MethodName) jdk_68_method_71_code (2 : Nat) (Option.none : Option Jvm.ClassFile.FieldType), Jvm.Cond.code ({ cls := "java/lang/String", name := "getBytes", desc := "([BIB)V" } : Jvm.MethodName) jdk_42_method_147_code (4 : Nat) (Option.none : Option Jvm.ClassFile.FieldType), Jvm.Cond.code ({ cls := "java/lang/StringBuilder", name := "toString", desc := "()Ljava/lang/String;" } : Jvm.MethodName) jdk_67_method_42_code (1 : Nat) (Option.some (Jvm.ClassFile.FieldType.object "java/lang/String")), Jvm.Cond.code ({ cls := "java/lang/String", name := "<init>", desc := "(Ljava/lang/StringBuilder;)V" } : Jvm.MethodName) jdk_42_method_53_code (2 : Nat) (Option.none : Option Jvm.ClassFile.FieldType), Jvm.Cond.code ({ cls := "java/lang/String", name := "<init>", desc := "(Ljava/lang/AbstractStringBuilder;Ljava/lang/Void;)V" } : Jvm.MethodName) jdk_42_method_150_code (5 : Nat) (Option.none : Option Jvm.ClassFile.FieldType), Jvm.Cond.code ({ cls := "java/lang/AbstractStringBuilder", name := "getValue", desc := "()[B" } : Jvm.MethodName) jdk_68_method_64_code (1 : Nat) (Option.some (Jvm.ClassFile.FieldType.array Jvm.ClassFile.FieldType.byte)), Jvm.Cond.code ({ cls := "java/lang/StringBuilder", name := "length", desc := "()I" } : Jvm.MethodName) jdk_67_method_93_code (1 : Nat) (Option.some Jvm.ClassFile.FieldType.int), Jvm.Cond.code ({ cls := "java/lang/AbstractStringBuilder", name := "length", desc := "()I" } : Jvm.MethodName) jdk_68_method_6_code (1 : Nat) (Option.some Jvm.ClassFile.FieldType.int), Jvm.Cond.code ({ cls := "java/lang/AbstractStringBuilder", name := "isLatin1", desc := "()Z" } : Jvm.MethodName) jdk_68_method_68_code (1 : Nat) (Option.some Jvm.ClassFile.FieldType.boolean), Jvm.Cond.code ({ cls := "java/util/Arrays", name := "copyOfRange", desc := "([BII)[B" } : Jvm.MethodName) jdk_65_method_132_code (3 : Nat) (Option.some (Jvm.ClassFile.FieldType.array Jvm.ClassFile.FieldType.byte)), Jvm.Cond.code ({ cls := "java/util/Arrays", name := "copyOfRangeByte", desc := "([BII)[B" } : Jvm.MethodName) jdk_65_method_133_code (5 : Nat) (Option.some (Jvm.ClassFile.FieldType.array Jvm.ClassFile.FieldType.byte)), Jvm.Cond.code ({ cls := "java/util/Arrays", name := "checkLength", desc := "(II)V" } : Jvm.MethodName) jdk_65_method_131_code (2 : Nat) (Option.none : Option Jvm.ClassFile.FieldType), Jvm.Cond.code ({ cls := "java/lang/Math", name := "min", desc := "(II)I" } : Jvm.MethodName) jdk_29_method_69_code (2 : Nat) (Option.some Jvm.ClassFile.FieldType.int), Jvm.Cond.code ({ cls := "java/lang/String", name := "charAt", desc := "(I)C" } : Jvm.MethodName) jdk_42_method_56_code (2 : Nat) (Option.some Jvm.ClassFile.FieldType.char), Jvm.Cond.code ({ cls := "java/lang/String", name := "isLatin1", desc := "()Z" } : Jvm.MethodName) jdk_42_method_154_code (1 : Nat) (Option.some Jvm.ClassFile.FieldType.boolean), Jvm.Cond.code ({ cls := "java/lang/StringLatin1", name := "charAt", desc := "([BI)C" } : Jvm.MethodName) jdk_43_method_2_code (2 : Nat) (Option.some Jvm.ClassFile.FieldType.char), Jvm.Cond.code ({ cls := "java/lang/String", name := "checkIndex", desc := "(II)V" } : Jvm.MethodName) jdk_42_method_155_code (2 : Nat) (Option.none : Option Jvm.ClassFile.FieldType), Jvm.Cond.code ({ cls := "jdk/internal/util/Preconditions", name := "checkIndex", desc := "(IILjava/util/function/BiFunction;)I" } : Jvm.MethodName) jdk_41_method_11_code (3 : Nat) (Option.some Jvm.ClassFile.FieldType.int), Jvm.Cond.code ({ cls := "java/lang/StringUTF16", name := "compress", desc := "([CII)[B" } : Jvm.MethodName) jdk_52_method_16_code (6 : Nat) (Option.some (Jvm.ClassFile.FieldType.array Jvm.ClassFile.FieldType.byte)), Jvm.Cond.code ({ cls := "java/lang/StringUTF16", name := "compress", desc := "([CI[BII)I" } : Jvm.MethodName) jdk_52_method_21_code (7 : Nat) (Option.some Jvm.ClassFile.FieldType.int), Jvm.Cond.code ({ cls := "java/lang/StringUTF16", name := "coderFromArrayLen", desc := "([BI)B" } : Jvm.MethodName) jdk_52_method_15_code (2 : Nat) (Option.some Jvm.ClassFile.FieldType.byte)]
set_option maxRecDepth 65536 in
theorem codes_eq : words1.filter isCode = codes1 := rfl
theorem w_codes : ∀ c ∈ words1.filter isCode, c.before args0 about1 = true := by
  rw [codes_eq]
  intro c hc
  simp only [codes1, List.mem_cons, List.not_mem_nil, or_false] at hc
  rcases hc with rfl | rfl | rfl | rfl | rfl | rfl | rfl | rfl | rfl | rfl | rfl | rfl | rfl | rfl | rfl | rfl | rfl | rfl | rfl | rfl | rfl | rfl | rfl | rfl | rfl | rfl | rfl | rfl | rfl | rfl | rfl | rfl | rfl | rfl | rfl | rfl | rfl | rfl | rfl | rfl | rfl | rfl
  · exact w_c0
  · exact w_c1
  · exact w_c2
  · exact w_c3
  · exact w_c4
  · exact w_c5
  · exact w_c6
  · exact w_c7
  · exact w_c8
  · exact w_c9
  · exact w_c10
  · exact w_c11
  · exact w_c12
  · exact w_c13
  · exact w_c14
  · exact w_c15
  · exact w_c16
  · exact w_c17
  · exact w_c18
  · exact w_c19
  · exact w_c20
  · exact w_c21
  · exact w_c22
  · exact w_c23
  · exact w_c24
  · exact w_c25
  · exact w_c26
  · exact w_c27
  · exact w_c28
  · exact w_c29
  · exact w_c30
  · exact w_c31
  · exact w_c32
  · exact w_c33
  · exact w_c34
  · exact w_c35
  · exact w_c36
  · exact w_c37
  · exact w_c38
  · exact w_c39
  · exact w_c40
  · exact w_c41
set_option maxRecDepth 65536 in
theorem w_t1 : (words1.take 24).all (fun c => isCode c || c.before args0 about1) = true := by decide +kernel
set_option maxRecDepth 65536 in
theorem w_t2 : ((words1.drop 24).take 24).all (fun c => isCode c || c.before args0 about1) = true := by decide +kernel
set_option maxRecDepth 65536 in
theorem w_t3 : (((words1.drop 24).drop 24).take 24).all (fun c => isCode c || c.before args0 about1) = true := by decide +kernel
set_option maxRecDepth 65536 in
theorem w_t4 : ((((words1.drop 24).drop 24).drop 24).take 24).all (fun c => isCode c || c.before args0 about1) = true := by decide +kernel
set_option maxRecDepth 65536 in
theorem w_t5 : (((((words1.drop 24).drop 24).drop 24).drop 24).take 24).all (fun c => isCode c || c.before args0 about1) = true := by decide +kernel
set_option maxRecDepth 65536 in
theorem w_t6 : ((((((words1.drop 24).drop 24).drop 24).drop 24).drop 24).take 24).all (fun c => isCode c || c.before args0 about1) = true := by decide +kernel
set_option maxRecDepth 65536 in
theorem w_t7 : (((((((words1.drop 24).drop 24).drop 24).drop 24).drop 24).drop 24).take 24).all (fun c => isCode c || c.before args0 about1) = true := by decide +kernel
set_option maxRecDepth 65536 in
theorem w_t8 : ((((((((words1.drop 24).drop 24).drop 24).drop 24).drop 24).drop 24).drop 24).take 24).all (fun c => isCode c || c.before args0 about1) = true := by decide +kernel
set_option maxRecDepth 65536 in
theorem w_t9 : ((((((((words1.drop 24).drop 24).drop 24).drop 24).drop 24).drop 24).drop 24).drop 24).all (fun c => isCode c || c.before args0 about1) = true := by decide +kernel
theorem w_tables : (allAtoms (Jvm.Cond.code x code maxLocals ret :: tables_1)).before args0 about1 = true := by
  rw [allAtoms_all]
  show words1.all (fun c => c.before args0 about1) = true
  refine all_split ?_ w_codes
  rw [← List.take_append_drop 24 words1, List.all_append, w_t1, ← List.take_append_drop 24 (words1.drop 24), List.all_append, w_t2, ← List.take_append_drop 24 ((words1.drop 24).drop 24), List.all_append, w_t3, ← List.take_append_drop 24 (((words1.drop 24).drop 24).drop 24), List.all_append, w_t4, ← List.take_append_drop 24 ((((words1.drop 24).drop 24).drop 24).drop 24), List.all_append, w_t5, ← List.take_append_drop 24 (((((words1.drop 24).drop 24).drop 24).drop 24).drop 24), List.all_append, w_t6, ← List.take_append_drop 24 ((((((words1.drop 24).drop 24).drop 24).drop 24).drop 24).drop 24), List.all_append, w_t7, ← List.take_append_drop 24 (((((((words1.drop 24).drop 24).drop 24).drop 24).drop 24).drop 24).drop 24), List.all_append, w_t8, w_t9]
  rfl
set_option maxRecDepth 65536 in
theorem w_rest : rest_1_c.before args0 about1 = true := by decide +kernel
set_option maxRecDepth 65536 in
theorem w_case : (Jvm.Cond.and given_1 narrow_1).before args0 about1 = true := by decide +kernel
set_option maxRecDepth 65536 in
theorem w_consts : constsHeld consts_1 about1 := Jvm.Lit.constsHeldB_iff.mp (by decide +kernel)
theorem w_applies : (headSpec (Jvm.Cond.code x code maxLocals ret :: tables_1) room_1).applies x e0.platform about1 = true :=
  (Spec.applies_iff w_frames).mpr ⟨w_running, w_runnable, w_alone, w_named, w_hears, w_ripe, w_room, w_tables⟩
theorem atStart : AtStart classFile x code maxLocals ret World_1 tables_1 room_1 Calls_1 rest_1 Pre_1 launch0 p0 e0 about1 theMethod args0 below0 :=
  ⟨lists_1, trivial, launch0.admits_env _ _ _, launch0.least_env, fairChoices_fair.cas, fairChoices_fair.clock, w_frames, w_args, w_heap, w_applies, ⟨w_consts, trivial⟩, w_rest, w_case⟩
end start1
theorem witness_1 : WitnessClaimed_1 := ⟨start1.p0, start1.e0, start1.about1, start1.theMethod, start1.args0, start1.below0, start1.atStart⟩
end Jvm.Pilot.@@N@@
