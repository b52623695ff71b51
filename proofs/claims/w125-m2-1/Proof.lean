import JvmDerived
import JvmDerived.Pilot.@@N@@Statement
import JvmDerived.Pilot.@@N@@Code
set_option linter.unusedVariables false
set_option linter.unusedSimpArgs false
namespace Jvm.RoadKit
open Sem ClassFile Op Lib Jvm.Stand Jvm.Free Jvm.LawKit
section New
variable {p : Program} {l : Launch} {e : Env} {R : Room} {s : State} {m : MethodId} {args : Array Value} {below : List Frame} {meth : Method} {c : Code} {T : State} {locs : List Loc} {cells slots : Nat}
theorem retI (X : Stand p l e R s m args below meth c T locs cells slots) (hx : p.tables.exec = Jvm.exec) {pc : Nat} {Ls : Array Slot} {z : Int32} {rest : List Value} (hret : meth.sig.returnType = some .int) (hd : decode c.code pc = .ok (.ireturn, 1)) {fs : List Frame}
    (hl : ∀ (f : JFrame) (acts : List Action), f.method = m → f.locked = none → f.entered = [] → (doReturn e (T.setTop f) acts (some (.int z))).1 = T.setFrames fs) : Steps p.tables e below (T.setTop (mkF m pc Ls (.int z :: rest))) (T.setFrames fs) := by
  have hm' : T.vm.method? m = some meth := X.method'
  have hn : narrow .int (.int z) = .int z := rfl
  show Steps p.tables e below (T.setTop { method := m, pc := pc, locals := Ls, stack := _ :: rest, locked := none }) _
  jvm_step X.here [X.here.top, hx, hd, hm', hret, hn]
  first | (intro acts; rw [hl _ acts rfl rfl rfl]) | rw [hl _ _ rfl rfl rfl]
  exact Steps.refl _
end New
section OwnKit
/-- where the walk of a body stands: the body's own facts, the heap, and that nothing old was written -/
def OS (B : ByteArray) (mL : Nat) (own nm : String) (rt : Option FieldType) (Z : State) (n0 : Nat) (p : Program) (l : Launch) (e : Env) (R : Room) (s : State) (m : MethodId) (args : Array Value) (below : List Frame) (meth : Method) (c : Code) (T : State) (h : Heap) (cells slots : Nat) : Prop :=
  (p.tables.exec = Jvm.exec ∧ c.code = B ∧ c.maxLocals = mL ∧ s.vm.findClass own = some m.cls ∧ meth.name = nm ∧ meth.sig.returnType = rt ∧ meth.locks = false ∧ Z.Warmed39 s.vm) ∧ T.heap = h ∧ ∃ locs, Fr n0 locs ∧ Stand p l e R s m args below meth c T locs cells slots
/-- from here the body comes to its end, with what Q says -/
def OG (p : Program) (e : Env) (below : List Frame) (s : State) (n0 rc rs : Nat) (Q : Option Value → Heap → Prop) (A : State) : Prop :=
  ∃ s₂ o, Steps p.tables e below A s₂ ∧ s₂.status = .running ∧ Ended s₂ below o ∧ ∃ v L, o = .returned v ∧ (Q v s₂.heap ∧ Fr n0 L) ∧ FrameEnd s o s₂ L rc rs
/-- a body's contract -/
def OM (l : Launch) (y : MethodName) (B : ByteArray) (mL : Nat) (rt : Option FieldType) (rm : Room) (ws : List Cond) (Z : State) (as' : Array Value) (h0 : Heap) (n0 : Nat) (Q : Option Value → Heap → Prop) : Prop :=
  MetFree l y (head1 (Cond.code y B mL rt :: ws) rm) (fun a U => a = as' ∧ Z.Warmed39 U.vm ∧ U.heap = h0) (fun _ _ _ _ _ => True) (fun _ U o U' => ∃ v L, o = .returned v ∧ (Q v U'.heap ∧ Fr n0 L) ∧ FrameEnd U o U' L rm.cells rm.slots)
variable {p : Program} {l : Launch} {e : Env} {R : Room} {s : State} {m : MethodId} {args : Array Value} {below : List Frame} {meth : Method} {c : Code} {T : State} {cells slots : Nat} {Z : State} {h : Heap} {n0 : Nat} {B : ByteArray} {mL : Nat} {own nm : String} {rt : Option FieldType} {rc rs : Nat} {Q : Option Value → Heap → Prop} {pc : Nat} {Ls : Array Slot} {st : List Value} {a0 : Array Value}
theorem OG.pre {A A' : State} (h : ∀ t, Steps p.tables e below A' t → Steps p.tables e below A t) (k : OG p e below s n0 rc rs Q A') : OG p e below s n0 rc rs Q A := by
  obtain ⟨s₂, o, h1, r⟩ := k; exact ⟨s₂, o, h _ h1, r⟩
theorem OM.of {y : MethodName} {rm : Room} {ws : List Cond} {as' : Array Value} {h0 : Heap} (hp : plainFor y = true) (hef : ∀ m, entryFrame m as' mL = mkF m 0 Ls []) (body : ∀ p e s m below meth c T, OS B mL y.cls y.name rt Z n0 p l e rm s m as' below meth c T h0 0 0 → OG p e below s n0 rm.cells rm.slots Q (T.setTop (mkF m 0 Ls []))) : OM l y B mL rt rm ws Z as' h0 n0 Q := by
  refine MetFree.of_bodySF hp hisR ?_
  intro p e s m args below meth c s₁ Bd hml0 hP hK
  obtain ⟨rfl, hZ, hh⟩ := hP
  have X0 : Stand p l e rm s m args below meth c s₁ [] 0 0 := Stand.of_body Bd
  have e0 : s₁.heap = h0 := by rw [← hh, Bd.state]; rfl
  have q := body p e s m below meth c s₁ ⟨⟨Bd.exec, Bd.bytes, hml0, findClass_of_methodNamed Bd.named, (name_of_methodNamed Bd.named Bd.method).1, Bd.returns, BodyLoose.notSynchronized Bd, hZ⟩, e0, [], Fr.nil n0, X0⟩
  rw [hef]; exact q
theorem OM.weak {y : MethodName} {rm : Room} {ws : List Cond} {as' : Array Value} {h0 : Heap} {Q' : Option Value → Heap → Prop} (hM : OM l y B mL rt rm ws Z as' h0 n0 Q) (hq : ∀ v h, Q v h → Q' v h) : OM l y B mL rt rm ws Z as' h0 n0 Q' := by
  intro p e ha hc hk s m args below hf happ hP hK
  obtain ⟨n, o, h1, h2, h3, v, L, h4, h5, h6⟩ := hM p e ha hc hk s m args below hf happ hP hK
  exact ⟨n, o, h1, h2, h3, v, L, h4, ⟨hq _ _ h5.1, h5.2⟩, h6⟩
theorem OS.heap (X : OS B mL own nm rt Z n0 p l e R s m args below meth c T h cells slots) : T.heap = h := X.2.1
theorem OS.warm (X : OS B mL own nm rt Z n0 p l e R s m args below meth c T h cells slots) : Z.Warmed39 s.vm := X.1.2.2.2.2.2.2.2
theorem OS.more {k n : Nat} (X : OS B mL own nm rt Z n0 p l e R s m args below meth c T h cells slots) (h1 : cells ≤ k) (h2 : slots ≤ n) : OS B mL own nm rt Z n0 p l e R s m args below meth c T h k n := by
  obtain ⟨h0, e1, locs, N, Y⟩ := X
  exact ⟨h0, e1, locs, N, { Y with same := Y.same.mono h1 h2 }⟩

theorem OG.iload (X : OS B mL own nm rt Z n0 p l e R s m args below meth c T h cells slots) {k : Nat} {v : Int32} (hd : decode B pc = .ok (.iload k, 2)) (hl : Ls[k]? = some (.val (.int v))) (g : OG p e below s n0 rc rs Q (T.setTop (mkF m (pc + 2) Ls (.int v :: st)))) : OG p e below s n0 rc rs Q (T.setTop (mkF m pc Ls st)) := by
  obtain ⟨⟨hx, hby, -⟩, -, locs, -, Y⟩ := X
  exact OG.pre (fun _ k => XS.iload Y.here hx rfl (hb hby hd) hl k) g
theorem OG.iloadN (X : OS B mL own nm rt Z n0 p l e R s m args below meth c T h cells slots) {k : Fin 4} {v : Int32} (hd : decode B pc = .ok (.iload_n k, 1)) (hl : Ls[k.val]? = some (.val (.int v))) (g : OG p e below s n0 rc rs Q (T.setTop (mkF m (pc + 1) Ls (.int v :: st)))) : OG p e below s n0 rc rs Q (T.setTop (mkF m pc Ls st)) := by
  obtain ⟨⟨hx, hby, -⟩, -, locs, -, Y⟩ := X
  exact OG.pre (fun _ k => XS.iloadN Y.here hx rfl (hb hby hd) hl k) g
theorem OG.lload (X : OS B mL own nm rt Z n0 p l e R s m args below meth c T h cells slots) {k : Nat} {v : Int64} (hd : decode B pc = .ok (.lload k, 2)) (hl : Ls[k]? = some (.val (.long v))) (g : OG p e below s n0 rc rs Q (T.setTop (mkF m (pc + 2) Ls (.long v :: st)))) : OG p e below s n0 rc rs Q (T.setTop (mkF m pc Ls st)) := by
  obtain ⟨⟨hx, hby, -⟩, -, locs, -, Y⟩ := X
  exact OG.pre (fun _ k => XS.lload Y.here hx rfl (hb hby hd) hl k) g
theorem OG.lloadN (X : OS B mL own nm rt Z n0 p l e R s m args below meth c T h cells slots) {k : Fin 4} {v : Int64} (hd : decode B pc = .ok (.lload_n k, 1)) (hl : Ls[k.val]? = some (.val (.long v))) (g : OG p e below s n0 rc rs Q (T.setTop (mkF m (pc + 1) Ls (.long v :: st)))) : OG p e below s n0 rc rs Q (T.setTop (mkF m pc Ls st)) := by
  obtain ⟨⟨hx, hby, -⟩, -, locs, -, Y⟩ := X
  exact OG.pre (fun _ k => XS.lloadN Y.here hx rfl (hb hby hd) hl k) g
theorem OG.aload (X : OS B mL own nm rt Z n0 p l e R s m args below meth c T h cells slots) {k : Nat} {v : Value} (hd : decode B pc = .ok (.aload k, 2)) (hl : Ls[k]? = some (.val v)) (hv : v.isRef = true) (g : OG p e below s n0 rc rs Q (T.setTop (mkF m (pc + 2) Ls (v :: st)))) : OG p e below s n0 rc rs Q (T.setTop (mkF m pc Ls st)) := by
  obtain ⟨⟨hx, hby, -⟩, -, locs, -, Y⟩ := X
  exact OG.pre (fun _ k => XS.aload Y.here hx rfl (hb hby hd) hl hv k) g
theorem OG.aloadN (X : OS B mL own nm rt Z n0 p l e R s m args below meth c T h cells slots) {k : Fin 4} {v : Value} (hd : decode B pc = .ok (.aload_n k, 1)) (hl : Ls[k.val]? = some (.val v)) (hv : v.isRef = true) (g : OG p e below s n0 rc rs Q (T.setTop (mkF m (pc + 1) Ls (v :: st)))) : OG p e below s n0 rc rs Q (T.setTop (mkF m pc Ls st)) := by
  obtain ⟨⟨hx, hby, -⟩, -, locs, -, Y⟩ := X
  exact OG.pre (fun _ k => XS.aloadN Y.here hx rfl (hb hby hd) hl hv k) g
theorem OG.istore (X : OS B mL own nm rt Z n0 p l e R s m args below meth c T h cells slots) {k : Nat} {v : Int32} {l' : Array Slot} (hd : decode B pc = .ok (.istore k, 2)) (hl : storeLocals Ls k (.int v) = some l') (g : OG p e below s n0 rc rs Q (T.setTop (mkF m (pc + 2) l' st))) : OG p e below s n0 rc rs Q (T.setTop (mkF m pc Ls (.int v :: st))) := by
  obtain ⟨⟨hx, hby, -⟩, -, locs, -, Y⟩ := X
  exact OG.pre (fun _ k => XS.istore Y.here hx rfl (hb hby hd) rfl hl k) g
theorem OG.istoreV (X : OS B mL own nm rt Z n0 p l e R s m args below meth c T h cells slots) {k : Nat} {v : Int32} {l' : Int32 → Array Slot} (hd : decode B pc = .ok (.istore k, 2)) (hl : ∀ z, storeLocals Ls k (.int z) = some (l' z)) (g : ∀ z, z = v → OG p e below s n0 rc rs Q (T.setTop (mkF m (pc + 2) (l' z) st))) : OG p e below s n0 rc rs Q (T.setTop (mkF m pc Ls (.int v :: st))) := by
  obtain ⟨⟨hx, hby, -⟩, -, locs, -, Y⟩ := X
  exact OG.pre (fun _ k => XS.istore Y.here hx rfl (hb hby hd) rfl (hl v) k) (g v rfl)
theorem OG.istoreN (X : OS B mL own nm rt Z n0 p l e R s m args below meth c T h cells slots) {k : Fin 4} {v : Int32} {l' : Array Slot} (hd : decode B pc = .ok (.istore_n k, 1)) (hl : storeLocals Ls k.val (.int v) = some l') (g : OG p e below s n0 rc rs Q (T.setTop (mkF m (pc + 1) l' st))) : OG p e below s n0 rc rs Q (T.setTop (mkF m pc Ls (.int v :: st))) := by
  obtain ⟨⟨hx, hby, -⟩, -, locs, -, Y⟩ := X
  exact OG.pre (fun _ k => XS.istoreN Y.here hx rfl (hb hby hd) rfl hl k) g
theorem OG.istoreNV (X : OS B mL own nm rt Z n0 p l e R s m args below meth c T h cells slots) {k : Fin 4} {v : Int32} {l' : Int32 → Array Slot} (hd : decode B pc = .ok (.istore_n k, 1)) (hl : ∀ z, storeLocals Ls k.val (.int z) = some (l' z)) (g : ∀ z, z = v → OG p e below s n0 rc rs Q (T.setTop (mkF m (pc + 1) (l' z) st))) : OG p e below s n0 rc rs Q (T.setTop (mkF m pc Ls (.int v :: st))) := by
  obtain ⟨⟨hx, hby, -⟩, -, locs, -, Y⟩ := X
  exact OG.pre (fun _ k => XS.istoreN Y.here hx rfl (hb hby hd) rfl (hl v) k) (g v rfl)
theorem OG.lstore (X : OS B mL own nm rt Z n0 p l e R s m args below meth c T h cells slots) {k : Nat} {v : Int64} {l' : Array Slot} (hd : decode B pc = .ok (.lstore k, 2)) (hl : storeLocals Ls k (.long v) = some l') (g : OG p e below s n0 rc rs Q (T.setTop (mkF m (pc + 2) l' st))) : OG p e below s n0 rc rs Q (T.setTop (mkF m pc Ls (.long v :: st))) := by
  obtain ⟨⟨hx, hby, -⟩, -, locs, -, Y⟩ := X
  exact OG.pre (fun _ k => XS.lstore Y.here hx rfl (hb hby hd) rfl hl k) g
theorem OG.lstoreV (X : OS B mL own nm rt Z n0 p l e R s m args below meth c T h cells slots) {k : Nat} {v : Int64} {l' : Int64 → Array Slot} (hd : decode B pc = .ok (.lstore k, 2)) (hl : ∀ z, storeLocals Ls k (.long z) = some (l' z)) (g : ∀ z, z = v → OG p e below s n0 rc rs Q (T.setTop (mkF m (pc + 2) (l' z) st))) : OG p e below s n0 rc rs Q (T.setTop (mkF m pc Ls (.long v :: st))) := by
  obtain ⟨⟨hx, hby, -⟩, -, locs, -, Y⟩ := X
  exact OG.pre (fun _ k => XS.lstore Y.here hx rfl (hb hby hd) rfl (hl v) k) (g v rfl)
theorem OG.lstoreN (X : OS B mL own nm rt Z n0 p l e R s m args below meth c T h cells slots) {k : Fin 4} {v : Int64} {l' : Array Slot} (hd : decode B pc = .ok (.lstore_n k, 1)) (hl : storeLocals Ls k.val (.long v) = some l') (g : OG p e below s n0 rc rs Q (T.setTop (mkF m (pc + 1) l' st))) : OG p e below s n0 rc rs Q (T.setTop (mkF m pc Ls (.long v :: st))) := by
  obtain ⟨⟨hx, hby, -⟩, -, locs, -, Y⟩ := X
  exact OG.pre (fun _ k => XS.lstoreN Y.here hx rfl (hb hby hd) rfl hl k) g
theorem OG.lstoreNV (X : OS B mL own nm rt Z n0 p l e R s m args below meth c T h cells slots) {k : Fin 4} {v : Int64} {l' : Int64 → Array Slot} (hd : decode B pc = .ok (.lstore_n k, 1)) (hl : ∀ z, storeLocals Ls k.val (.long z) = some (l' z)) (g : ∀ z, z = v → OG p e below s n0 rc rs Q (T.setTop (mkF m (pc + 1) (l' z) st))) : OG p e below s n0 rc rs Q (T.setTop (mkF m pc Ls (.long v :: st))) := by
  obtain ⟨⟨hx, hby, -⟩, -, locs, -, Y⟩ := X
  exact OG.pre (fun _ k => XS.lstoreN Y.here hx rfl (hb hby hd) rfl (hl v) k) (g v rfl)
theorem OG.astore (X : OS B mL own nm rt Z n0 p l e R s m args below meth c T h cells slots) {k : Nat} {v : Value} {l' : Array Slot} (hd : decode B pc = .ok (.astore k, 2)) (hv : v.isRef = true) (hl : storeLocals Ls k v = some l') (g : OG p e below s n0 rc rs Q (T.setTop (mkF m (pc + 2) l' st))) : OG p e below s n0 rc rs Q (T.setTop (mkF m pc Ls (v :: st))) := by
  obtain ⟨⟨hx, hby, -⟩, -, locs, -, Y⟩ := X
  exact OG.pre (fun _ k => XS.astore Y.here hx rfl (hb hby hd) rfl hv hl k) g
theorem OG.astoreN (X : OS B mL own nm rt Z n0 p l e R s m args below meth c T h cells slots) {k : Fin 4} {v : Value} {l' : Array Slot} (hd : decode B pc = .ok (.astore_n k, 1)) (hv : v.isRef = true) (hl : storeLocals Ls k.val v = some l') (g : OG p e below s n0 rc rs Q (T.setTop (mkF m (pc + 1) l' st))) : OG p e below s n0 rc rs Q (T.setTop (mkF m pc Ls (v :: st))) := by
  obtain ⟨⟨hx, hby, -⟩, -, locs, -, Y⟩ := X
  exact OG.pre (fun _ k => XS.astoreN Y.here hx rfl (hb hby hd) rfl hv hl k) g
theorem OG.iconst (X : OS B mL own nm rt Z n0 p l e R s m args below meth c T h cells slots) {i : Int} {z : Int32} (hd : decode B pc = .ok (.iconst i, 1)) (hz : Int32.ofInt i = z) (g : OG p e below s n0 rc rs Q (T.setTop (mkF m (pc + 1) Ls (.int z :: st)))) : OG p e below s n0 rc rs Q (T.setTop (mkF m pc Ls st)) := by
  obtain ⟨⟨hx, hby, -⟩, -, locs, -, Y⟩ := X
  subst hz
  exact OG.pre (fun _ k => XS.iconst Y.here hx rfl (hb hby hd) k) g
theorem OG.bipush (X : OS B mL own nm rt Z n0 p l e R s m args below meth c T h cells slots) {i : Int} {z : Int32} (hd : decode B pc = .ok (.bipush i, 2)) (hz : (Int8.ofInt i).toInt32 = z) (g : OG p e below s n0 rc rs Q (T.setTop (mkF m (pc + 2) Ls (.int z :: st)))) : OG p e below s n0 rc rs Q (T.setTop (mkF m pc Ls st)) := by
  obtain ⟨⟨hx, hby, -⟩, -, locs, -, Y⟩ := X
  subst hz
  exact OG.pre (fun _ k => XS.bipush Y.here hx rfl (hb hby hd) k) g
theorem OG.sipush (X : OS B mL own nm rt Z n0 p l e R s m args below meth c T h cells slots) {i : Int} {z : Int32} (hd : decode B pc = .ok (.sipush i, 3)) (hz : (Int16.ofInt i).toInt32 = z) (g : OG p e below s n0 rc rs Q (T.setTop (mkF m (pc + 3) Ls (.int z :: st)))) : OG p e below s n0 rc rs Q (T.setTop (mkF m pc Ls st)) := by
  obtain ⟨⟨hx, hby, -⟩, -, locs, -, Y⟩ := X
  subst hz
  exact OG.pre (fun _ k => XS.sipush Y.here hx rfl (hb hby hd) k) g
theorem OG.lconst (X : OS B mL own nm rt Z n0 p l e R s m args below meth c T h cells slots) {k : Fin 2} {z : Int64} (hd : decode B pc = .ok (.lconst k, 1)) (hz : Int64.ofNat k = z) (g : OG p e below s n0 rc rs Q (T.setTop (mkF m (pc + 1) Ls (.long z :: st)))) : OG p e below s n0 rc rs Q (T.setTop (mkF m pc Ls st)) := by
  obtain ⟨⟨hx, hby, -⟩, -, locs, -, Y⟩ := X
  subst hz
  exact OG.pre (fun _ q => XS.lconst Y.here hx rfl (hb hby hd) q) g
theorem OG.aconstNull (X : OS B mL own nm rt Z n0 p l e R s m args below meth c T h cells slots)  (hd : decode B pc = .ok (.aconst_null, 1))  (g : OG p e below s n0 rc rs Q (T.setTop (mkF m (pc + 1) Ls (.null :: st)))) : OG p e below s n0 rc rs Q (T.setTop (mkF m pc Ls st)) := by
  obtain ⟨⟨hx, hby, -⟩, -, locs, -, Y⟩ := X
  exact OG.pre (fun _ k => XS.aconstNull Y.here hx rfl (hb hby hd)  k) g
theorem OG.iadd (X : OS B mL own nm rt Z n0 p l e R s m args below meth c T h cells slots) {x y : Int32} (hd : decode B pc = .ok (.iadd, 1))  (g : OG p e below s n0 rc rs Q (T.setTop (mkF m (pc + 1) Ls (.int (x + y) :: st)))) : OG p e below s n0 rc rs Q (T.setTop (mkF m pc Ls (.int y :: .int x :: st))) := by
  obtain ⟨⟨hx, hby, -⟩, -, locs, -, Y⟩ := X
  exact OG.pre (fun _ k => XS.iadd Y.here hx rfl (hb hby hd) rfl k) g
theorem OG.isub (X : OS B mL own nm rt Z n0 p l e R s m args below meth c T h cells slots) {x y : Int32} (hd : decode B pc = .ok (.isub, 1))  (g : OG p e below s n0 rc rs Q (T.setTop (mkF m (pc + 1) Ls (.int (x - y) :: st)))) : OG p e below s n0 rc rs Q (T.setTop (mkF m pc Ls (.int y :: .int x :: st))) := by
  obtain ⟨⟨hx, hby, -⟩, -, locs, -, Y⟩ := X
  exact OG.pre (fun _ k => XS.isub Y.here hx rfl (hb hby hd) rfl k) g
theorem OG.imul (X : OS B mL own nm rt Z n0 p l e R s m args below meth c T h cells slots) {x y : Int32} (hd : decode B pc = .ok (.imul, 1))  (g : OG p e below s n0 rc rs Q (T.setTop (mkF m (pc + 1) Ls (.int (x * y) :: st)))) : OG p e below s n0 rc rs Q (T.setTop (mkF m pc Ls (.int y :: .int x :: st))) := by
  obtain ⟨⟨hx, hby, -⟩, -, locs, -, Y⟩ := X
  exact OG.pre (fun _ k => XS.imul Y.here hx rfl (hb hby hd) rfl k) g
theorem OG.iand (X : OS B mL own nm rt Z n0 p l e R s m args below meth c T h cells slots) {x y : Int32} (hd : decode B pc = .ok (.iand, 1))  (g : OG p e below s n0 rc rs Q (T.setTop (mkF m (pc + 1) Ls (.int (x &&& y) :: st)))) : OG p e below s n0 rc rs Q (T.setTop (mkF m pc Ls (.int y :: .int x :: st))) := by
  obtain ⟨⟨hx, hby, -⟩, -, locs, -, Y⟩ := X
  exact OG.pre (fun _ k => XS.iand Y.here hx rfl (hb hby hd) rfl k) g
theorem OG.ior (X : OS B mL own nm rt Z n0 p l e R s m args below meth c T h cells slots) {x y : Int32} (hd : decode B pc = .ok (.ior, 1))  (g : OG p e below s n0 rc rs Q (T.setTop (mkF m (pc + 1) Ls (.int (x ||| y) :: st)))) : OG p e below s n0 rc rs Q (T.setTop (mkF m pc Ls (.int y :: .int x :: st))) := by
  obtain ⟨⟨hx, hby, -⟩, -, locs, -, Y⟩ := X
  exact OG.pre (fun _ k => XS.ior Y.here hx rfl (hb hby hd) rfl k) g
theorem OG.ixor (X : OS B mL own nm rt Z n0 p l e R s m args below meth c T h cells slots) {x y : Int32} (hd : decode B pc = .ok (.ixor, 1))  (g : OG p e below s n0 rc rs Q (T.setTop (mkF m (pc + 1) Ls (.int (x ^^^ y) :: st)))) : OG p e below s n0 rc rs Q (T.setTop (mkF m pc Ls (.int y :: .int x :: st))) := by
  obtain ⟨⟨hx, hby, -⟩, -, locs, -, Y⟩ := X
  exact OG.pre (fun _ k => XS.ixor Y.here hx rfl (hb hby hd) rfl k) g
theorem OG.ishl (X : OS B mL own nm rt Z n0 p l e R s m args below meth c T h cells slots) {x y : Int32} (hd : decode B pc = .ok (.ishl, 1))  (g : OG p e below s n0 rc rs Q (T.setTop (mkF m (pc + 1) Ls (.int (x <<< (y &&& 31)) :: st)))) : OG p e below s n0 rc rs Q (T.setTop (mkF m pc Ls (.int y :: .int x :: st))) := by
  obtain ⟨⟨hx, hby, -⟩, -, locs, -, Y⟩ := X
  exact OG.pre (fun _ k => XS.ishl Y.here hx rfl (hb hby hd) rfl k) g
theorem OG.ishr (X : OS B mL own nm rt Z n0 p l e R s m args below meth c T h cells slots) {x y : Int32} (hd : decode B pc = .ok (.ishr, 1))  (g : OG p e below s n0 rc rs Q (T.setTop (mkF m (pc + 1) Ls (.int (x >>> (y &&& 31)) :: st)))) : OG p e below s n0 rc rs Q (T.setTop (mkF m pc Ls (.int y :: .int x :: st))) := by
  obtain ⟨⟨hx, hby, -⟩, -, locs, -, Y⟩ := X
  exact OG.pre (fun _ k => XS.ishr Y.here hx rfl (hb hby hd) rfl k) g
theorem OG.iushr (X : OS B mL own nm rt Z n0 p l e R s m args below meth c T h cells slots) {x y : Int32} (hd : decode B pc = .ok (.iushr, 1))  (g : OG p e below s n0 rc rs Q (T.setTop (mkF m (pc + 1) Ls (.int ((x.toUInt32 >>> (y &&& 31).toUInt32).toInt32) :: st)))) : OG p e below s n0 rc rs Q (T.setTop (mkF m pc Ls (.int y :: .int x :: st))) := by
  obtain ⟨⟨hx, hby, -⟩, -, locs, -, Y⟩ := X
  exact OG.pre (fun _ k => XS.iushr Y.here hx rfl (hb hby hd) rfl k) g
theorem OG.ladd (X : OS B mL own nm rt Z n0 p l e R s m args below meth c T h cells slots) {x y : Int64} (hd : decode B pc = .ok (.ladd, 1))  (g : OG p e below s n0 rc rs Q (T.setTop (mkF m (pc + 1) Ls (.long (x + y) :: st)))) : OG p e below s n0 rc rs Q (T.setTop (mkF m pc Ls (.long y :: .long x :: st))) := by
  obtain ⟨⟨hx, hby, -⟩, -, locs, -, Y⟩ := X
  exact OG.pre (fun _ k => XS.ladd Y.here hx rfl (hb hby hd) rfl k) g
theorem OG.lsub (X : OS B mL own nm rt Z n0 p l e R s m args below meth c T h cells slots) {x y : Int64} (hd : decode B pc = .ok (.lsub, 1))  (g : OG p e below s n0 rc rs Q (T.setTop (mkF m (pc + 1) Ls (.long (x - y) :: st)))) : OG p e below s n0 rc rs Q (T.setTop (mkF m pc Ls (.long y :: .long x :: st))) := by
  obtain ⟨⟨hx, hby, -⟩, -, locs, -, Y⟩ := X
  exact OG.pre (fun _ k => XS.lsub Y.here hx rfl (hb hby hd) rfl k) g
theorem OG.lmul (X : OS B mL own nm rt Z n0 p l e R s m args below meth c T h cells slots) {x y : Int64} (hd : decode B pc = .ok (.lmul, 1))  (g : OG p e below s n0 rc rs Q (T.setTop (mkF m (pc + 1) Ls (.long (x * y) :: st)))) : OG p e below s n0 rc rs Q (T.setTop (mkF m pc Ls (.long y :: .long x :: st))) := by
  obtain ⟨⟨hx, hby, -⟩, -, locs, -, Y⟩ := X
  exact OG.pre (fun _ k => XS.lmul Y.here hx rfl (hb hby hd) rfl k) g
theorem OG.land (X : OS B mL own nm rt Z n0 p l e R s m args below meth c T h cells slots) {x y : Int64} (hd : decode B pc = .ok (.land, 1))  (g : OG p e below s n0 rc rs Q (T.setTop (mkF m (pc + 1) Ls (.long (x &&& y) :: st)))) : OG p e below s n0 rc rs Q (T.setTop (mkF m pc Ls (.long y :: .long x :: st))) := by
  obtain ⟨⟨hx, hby, -⟩, -, locs, -, Y⟩ := X
  exact OG.pre (fun _ k => XS.land Y.here hx rfl (hb hby hd) rfl k) g
theorem OG.lor (X : OS B mL own nm rt Z n0 p l e R s m args below meth c T h cells slots) {x y : Int64} (hd : decode B pc = .ok (.lor, 1))  (g : OG p e below s n0 rc rs Q (T.setTop (mkF m (pc + 1) Ls (.long (x ||| y) :: st)))) : OG p e below s n0 rc rs Q (T.setTop (mkF m pc Ls (.long y :: .long x :: st))) := by
  obtain ⟨⟨hx, hby, -⟩, -, locs, -, Y⟩ := X
  exact OG.pre (fun _ k => XS.lor Y.here hx rfl (hb hby hd) rfl k) g
theorem OG.lxor (X : OS B mL own nm rt Z n0 p l e R s m args below meth c T h cells slots) {x y : Int64} (hd : decode B pc = .ok (.lxor, 1))  (g : OG p e below s n0 rc rs Q (T.setTop (mkF m (pc + 1) Ls (.long (x ^^^ y) :: st)))) : OG p e below s n0 rc rs Q (T.setTop (mkF m pc Ls (.long y :: .long x :: st))) := by
  obtain ⟨⟨hx, hby, -⟩, -, locs, -, Y⟩ := X
  exact OG.pre (fun _ k => XS.lxor Y.here hx rfl (hb hby hd) rfl k) g
theorem OG.lshl (X : OS B mL own nm rt Z n0 p l e R s m args below meth c T h cells slots) {x : Int64} {y : Int32} (hd : decode B pc = .ok (.lshl, 1))  (g : OG p e below s n0 rc rs Q (T.setTop (mkF m (pc + 1) Ls (.long (x <<< (y &&& 0x3f).toInt64) :: st)))) : OG p e below s n0 rc rs Q (T.setTop (mkF m pc Ls (.int y :: .long x :: st))) := by
  obtain ⟨⟨hx, hby, -⟩, -, locs, -, Y⟩ := X
  exact OG.pre (fun _ k => XS.lshl Y.here hx rfl (hb hby hd) rfl k) g
theorem OG.lshr (X : OS B mL own nm rt Z n0 p l e R s m args below meth c T h cells slots) {x : Int64} {y : Int32} (hd : decode B pc = .ok (.lshr, 1))  (g : OG p e below s n0 rc rs Q (T.setTop (mkF m (pc + 1) Ls (.long (x >>> (y &&& 0x3f).toInt64) :: st)))) : OG p e below s n0 rc rs Q (T.setTop (mkF m pc Ls (.int y :: .long x :: st))) := by
  obtain ⟨⟨hx, hby, -⟩, -, locs, -, Y⟩ := X
  exact OG.pre (fun _ k => XS.lshr Y.here hx rfl (hb hby hd) rfl k) g
theorem OG.lushr (X : OS B mL own nm rt Z n0 p l e R s m args below meth c T h cells slots) {x : Int64} {y : Int32} (hd : decode B pc = .ok (.lushr, 1))  (g : OG p e below s n0 rc rs Q (T.setTop (mkF m (pc + 1) Ls (.long ((x.toUInt64 >>> (y &&& 0x3f).toInt64.toUInt64).toInt64) :: st)))) : OG p e below s n0 rc rs Q (T.setTop (mkF m pc Ls (.int y :: .long x :: st))) := by
  obtain ⟨⟨hx, hby, -⟩, -, locs, -, Y⟩ := X
  exact OG.pre (fun _ k => XS.lushr Y.here hx rfl (hb hby hd) rfl k) g
theorem OG.idiv (X : OS B mL own nm rt Z n0 p l e R s m args below meth c T h cells slots) {x y : Int32} (hd : decode B pc = .ok (.idiv, 1)) (hy : y ≠ 0) (g : OG p e below s n0 rc rs Q (T.setTop (mkF m (pc + 1) Ls (.int (x / y) :: st)))) : OG p e below s n0 rc rs Q (T.setTop (mkF m pc Ls (.int y :: .int x :: st))) := by
  obtain ⟨⟨hx, hby, -⟩, -, locs, -, Y⟩ := X
  exact OG.pre (fun _ k => XS.idiv Y.here hx rfl (hb hby hd) rfl hy k) g
theorem OG.ldiv (X : OS B mL own nm rt Z n0 p l e R s m args below meth c T h cells slots) {x y : Int64} (hd : decode B pc = .ok (.ldiv, 1)) (hy : y ≠ 0) (g : OG p e below s n0 rc rs Q (T.setTop (mkF m (pc + 1) Ls (.long (x / y) :: st)))) : OG p e below s n0 rc rs Q (T.setTop (mkF m pc Ls (.long y :: .long x :: st))) := by
  obtain ⟨⟨hx, hby, -⟩, -, locs, -, Y⟩ := X
  exact OG.pre (fun _ k => XS.ldiv Y.here hx rfl (hb hby hd) rfl hy k) g
theorem OG.irem (X : OS B mL own nm rt Z n0 p l e R s m args below meth c T h cells slots) {x y : Int32} (hd : decode B pc = .ok (.irem, 1)) (hy : y ≠ 0) (g : OG p e below s n0 rc rs Q (T.setTop (mkF m (pc + 1) Ls (.int (x % y) :: st)))) : OG p e below s n0 rc rs Q (T.setTop (mkF m pc Ls (.int y :: .int x :: st))) := by
  obtain ⟨⟨hx, hby, -⟩, -, locs, -, Y⟩ := X
  exact OG.pre (fun _ k => iremM Y hx rfl (hb hby hd) rfl hy k) g
theorem OG.lrem (X : OS B mL own nm rt Z n0 p l e R s m args below meth c T h cells slots) {x y : Int64} (hd : decode B pc = .ok (.lrem, 1)) (hy : y ≠ 0) (g : OG p e below s n0 rc rs Q (T.setTop (mkF m (pc + 1) Ls (.long (x - x / y * y) :: st)))) : OG p e below s n0 rc rs Q (T.setTop (mkF m pc Ls (.long y :: .long x :: st))) := by
  obtain ⟨⟨hx, hby, -⟩, -, locs, -, Y⟩ := X
  exact OG.pre (fun _ k => XS.lrem Y.here hx rfl (hb hby hd) rfl hy k) g
theorem OG.ineg (X : OS B mL own nm rt Z n0 p l e R s m args below meth c T h cells slots) {x : Int32} (hd : decode B pc = .ok (.ineg, 1))  (g : OG p e below s n0 rc rs Q (T.setTop (mkF m (pc + 1) Ls (.int (-x) :: st)))) : OG p e below s n0 rc rs Q (T.setTop (mkF m pc Ls (.int x :: st))) := by
  obtain ⟨⟨hx, hby, -⟩, -, locs, -, Y⟩ := X
  exact OG.pre (fun _ k => XS.ineg Y.here hx rfl (hb hby hd) rfl k) g
theorem OG.lneg (X : OS B mL own nm rt Z n0 p l e R s m args below meth c T h cells slots) {x : Int64} (hd : decode B pc = .ok (.lneg, 1))  (g : OG p e below s n0 rc rs Q (T.setTop (mkF m (pc + 1) Ls (.long (-x) :: st)))) : OG p e below s n0 rc rs Q (T.setTop (mkF m pc Ls (.long x :: st))) := by
  obtain ⟨⟨hx, hby, -⟩, -, locs, -, Y⟩ := X
  exact OG.pre (fun _ k => XS.lneg Y.here hx rfl (hb hby hd) rfl k) g
theorem OG.i2l (X : OS B mL own nm rt Z n0 p l e R s m args below meth c T h cells slots) {x : Int32} (hd : decode B pc = .ok (.i2l, 1))  (g : OG p e below s n0 rc rs Q (T.setTop (mkF m (pc + 1) Ls (.long (x.toInt64) :: st)))) : OG p e below s n0 rc rs Q (T.setTop (mkF m pc Ls (.int x :: st))) := by
  obtain ⟨⟨hx, hby, -⟩, -, locs, -, Y⟩ := X
  exact OG.pre (fun _ k => XS.i2l Y.here hx rfl (hb hby hd) rfl k) g
theorem OG.l2i (X : OS B mL own nm rt Z n0 p l e R s m args below meth c T h cells slots) {x : Int64} (hd : decode B pc = .ok (.l2i, 1))  (g : OG p e below s n0 rc rs Q (T.setTop (mkF m (pc + 1) Ls (.int (x.toInt32) :: st)))) : OG p e below s n0 rc rs Q (T.setTop (mkF m pc Ls (.long x :: st))) := by
  obtain ⟨⟨hx, hby, -⟩, -, locs, -, Y⟩ := X
  exact OG.pre (fun _ k => XS.l2i Y.here hx rfl (hb hby hd) rfl k) g
theorem OG.i2b (X : OS B mL own nm rt Z n0 p l e R s m args below meth c T h cells slots) {x : Int32} (hd : decode B pc = .ok (.i2b, 1))  (g : OG p e below s n0 rc rs Q (T.setTop (mkF m (pc + 1) Ls (.int (x.toInt8.toInt32) :: st)))) : OG p e below s n0 rc rs Q (T.setTop (mkF m pc Ls (.int x :: st))) := by
  obtain ⟨⟨hx, hby, -⟩, -, locs, -, Y⟩ := X
  exact OG.pre (fun _ k => XS.i2b Y.here hx rfl (hb hby hd) rfl k) g
theorem OG.i2s (X : OS B mL own nm rt Z n0 p l e R s m args below meth c T h cells slots) {x : Int32} (hd : decode B pc = .ok (.i2s, 1))  (g : OG p e below s n0 rc rs Q (T.setTop (mkF m (pc + 1) Ls (.int (x.toInt16.toInt32) :: st)))) : OG p e below s n0 rc rs Q (T.setTop (mkF m pc Ls (.int x :: st))) := by
  obtain ⟨⟨hx, hby, -⟩, -, locs, -, Y⟩ := X
  exact OG.pre (fun _ k => XS.i2s Y.here hx rfl (hb hby hd) rfl k) g
theorem OG.i2c (X : OS B mL own nm rt Z n0 p l e R s m args below meth c T h cells slots) {x : Int32} (hd : decode B pc = .ok (.i2c, 1))  (g : OG p e below s n0 rc rs Q (T.setTop (mkF m (pc + 1) Ls (.int (x.toUInt32.toUInt16.toUInt32.toInt32) :: st)))) : OG p e below s n0 rc rs Q (T.setTop (mkF m pc Ls (.int x :: st))) := by
  obtain ⟨⟨hx, hby, -⟩, -, locs, -, Y⟩ := X
  exact OG.pre (fun _ k => XS.i2c Y.here hx rfl (hb hby hd) rfl k) g
theorem OG.lcmp (X : OS B mL own nm rt Z n0 p l e R s m args below meth c T h cells slots) {x y : Int64} (hd : decode B pc = .ok (.lcmp, 1))  (g : OG p e below s n0 rc rs Q (T.setTop (mkF m (pc + 1) Ls (.int (lcmpW x y) :: st)))) : OG p e below s n0 rc rs Q (T.setTop (mkF m pc Ls (.long y :: .long x :: st))) := by
  obtain ⟨⟨hx, hby, -⟩, -, locs, -, Y⟩ := X
  exact OG.pre (fun _ k => XS.lcmp Y.here hx rfl (hb hby hd) rfl k) g
theorem OG.dup (X : OS B mL own nm rt Z n0 p l e R s m args below meth c T h cells slots) {x : Value} (hd : decode B pc = .ok (.dup, 1)) (hc : x.category = 1) (g : OG p e below s n0 rc rs Q (T.setTop (mkF m (pc + 1) Ls (x :: x :: st)))) : OG p e below s n0 rc rs Q (T.setTop (mkF m pc Ls (x :: st))) := by
  obtain ⟨⟨hx, hby, -⟩, -, locs, -, Y⟩ := X
  exact OG.pre (fun _ k => XS.dup Y.here hx rfl (hb hby hd) rfl hc k) g
theorem OG.pop (X : OS B mL own nm rt Z n0 p l e R s m args below meth c T h cells slots) {x : Value} (hd : decode B pc = .ok (.pop, 1)) (hc : x.category = 1) (g : OG p e below s n0 rc rs Q (T.setTop (mkF m (pc + 1) Ls st))) : OG p e below s n0 rc rs Q (T.setTop (mkF m pc Ls (x :: st))) := by
  obtain ⟨⟨hx, hby, -⟩, -, locs, -, Y⟩ := X
  exact OG.pre (fun _ k => XS.pop Y.here hx rfl (hb hby hd) rfl hc k) g
theorem OG.dupX1 (X : OS B mL own nm rt Z n0 p l e R s m args below meth c T h cells slots) {x y : Value} (hd : decode B pc = .ok (.dup_x1, 1)) (hc : x.category = 1) (hc' : y.category = 1) (g : OG p e below s n0 rc rs Q (T.setTop (mkF m (pc + 1) Ls (x :: y :: x :: st)))) : OG p e below s n0 rc rs Q (T.setTop (mkF m pc Ls (x :: y :: st))) := by
  obtain ⟨⟨hx, hby, -⟩, -, locs, -, Y⟩ := X
  exact OG.pre (fun _ k => XS.dupX1 Y.here hx rfl (hb hby hd) rfl hc hc' k) g
theorem OG.dup2 (X : OS B mL own nm rt Z n0 p l e R s m args below meth c T h cells slots) {x y : Value} (hd : decode B pc = .ok (.dup2, 1)) (hc : x.category = 1) (hc' : y.category = 1) (g : OG p e below s n0 rc rs Q (T.setTop (mkF m (pc + 1) Ls (x :: y :: x :: y :: st)))) : OG p e below s n0 rc rs Q (T.setTop (mkF m pc Ls (x :: y :: st))) := by
  obtain ⟨⟨hx, hby, -⟩, -, locs, -, Y⟩ := X
  exact OG.pre (fun _ k => Jvm.Free.XT.dup2 Y.here hx rfl (hb hby hd) rfl hc hc' k) g
theorem OG.iinc (X : OS B mL own nm rt Z n0 p l e R s m args below meth c T h cells slots) {k : Nat} {i : Int} {x z : Int32} {l' : Array Slot} (hd : decode B pc = .ok (.iinc k i, 3)) (hl : Ls[k]? = some (.val (.int x))) (hz : Int32.ofInt i = z) (hl' : storeLocals Ls k (.int (x + z)) = some l') (g : OG p e below s n0 rc rs Q (T.setTop (mkF m (pc + 3) l' st))) : OG p e below s n0 rc rs Q (T.setTop (mkF m pc Ls st)) := by
  obtain ⟨⟨hx, hby, -⟩, -, locs, -, Y⟩ := X
  subst hz
  exact OG.pre (fun _ q => XS.iinc Y.here hx rfl (hb hby hd) hl hl' q) g
theorem OG.goto (X : OS B mL own nm rt Z n0 p l e R s m args below meth c T h cells slots) {o : Int} {pc' : Nat} (hd : decode B pc = .ok (.goto o, 3)) (hp : 0 ≤ (pc : Int) + o ∧ ((pc : Int) + o).toNat = pc') (g : OG p e below s n0 rc rs Q (T.setTop (mkF m pc' Ls st))) : OG p e below s n0 rc rs Q (T.setTop (mkF m pc Ls st)) := by
  obtain ⟨⟨hx, hby, -⟩, -, locs, -, Y⟩ := X
  exact OG.pre (fun _ q => XS.goto Y.here hx rfl (pc0 := pc) rfl (hb hby hd) hp.1 hp.2 q) g
theorem OG.icmp_lt_t (X : OS B mL own nm rt Z n0 p l e R s m args below meth c T h cells slots) {x y : Int32} {o : Int} {pc' : Nat} (hd : decode B pc = .ok (.if_icmp .lt o, 3)) (hp : 0 ≤ (pc : Int) + o ∧ ((pc : Int) + o).toNat = pc') (hq : x < y) (g : OG p e below s n0 rc rs Q (T.setTop (mkF m pc' Ls st))) : OG p e below s n0 rc rs Q (T.setTop (mkF m pc Ls (.int y :: .int x :: st))) := by
  obtain ⟨⟨hx, hby, -⟩, -, locs, -, Y⟩ := X
  exact OG.pre (fun _ q => XS.icmpYes Y.here hx rfl (pc0 := pc) rfl (hb hby hd) rfl (tlt hq).1 hp.1 hp.2 q) g
theorem OG.icmp_lt_f (X : OS B mL own nm rt Z n0 p l e R s m args below meth c T h cells slots) {x y : Int32} {o : Int} (hd : decode B pc = .ok (.if_icmp .lt o, 3)) (hq : ¬ x < y) (g : OG p e below s n0 rc rs Q (T.setTop (mkF m (pc + 3) Ls st))) : OG p e below s n0 rc rs Q (T.setTop (mkF m pc Ls (.int y :: .int x :: st))) := by
  obtain ⟨⟨hx, hby, -⟩, -, locs, -, Y⟩ := X
  exact OG.pre (fun _ q => XS.icmpNo Y.here hx rfl (hb hby hd) rfl (flt hq).1 q) g
theorem OG.icmp_lt (X : OS B mL own nm rt Z n0 p l e R s m args below meth c T h cells slots) {x y : Int32} {o : Int} {pc' : Nat} (hd : decode B pc = .ok (.if_icmp .lt o, 3)) (hp : 0 ≤ (pc : Int) + o ∧ ((pc : Int) + o).toNat = pc') (g1 : x < y → OG p e below s n0 rc rs Q (T.setTop (mkF m pc' Ls st))) (g2 : ¬ x < y → OG p e below s n0 rc rs Q (T.setTop (mkF m (pc + 3) Ls st))) : OG p e below s n0 rc rs Q (T.setTop (mkF m pc Ls (.int y :: .int x :: st))) :=
  if hq : x < y then OG.icmp_lt_t X hd hp hq (g1 hq) else OG.icmp_lt_f X hd hq (g2 hq)
theorem OG.if_lt_t (X : OS B mL own nm rt Z n0 p l e R s m args below meth c T h cells slots) {x : Int32} {o : Int} {pc' : Nat} (hd : decode B pc = .ok (.ifCond .lt o, 3)) (hp : 0 ≤ (pc : Int) + o ∧ ((pc : Int) + o).toNat = pc') (hq : x < 0) (g : OG p e below s n0 rc rs Q (T.setTop (mkF m pc' Ls st))) : OG p e below s n0 rc rs Q (T.setTop (mkF m pc Ls (.int x :: st))) := by
  obtain ⟨⟨hx, hby, -⟩, -, locs, -, Y⟩ := X
  exact OG.pre (fun _ q => XS.ifYes Y.here hx rfl (pc0 := pc) rfl (hb hby hd) rfl ((if0 _ _).trans (tlt hq).1) hp.1 hp.2 q) g
theorem OG.if_lt_f (X : OS B mL own nm rt Z n0 p l e R s m args below meth c T h cells slots) {x : Int32} {o : Int} (hd : decode B pc = .ok (.ifCond .lt o, 3)) (hq : ¬ x < 0) (g : OG p e below s n0 rc rs Q (T.setTop (mkF m (pc + 3) Ls st))) : OG p e below s n0 rc rs Q (T.setTop (mkF m pc Ls (.int x :: st))) := by
  obtain ⟨⟨hx, hby, -⟩, -, locs, -, Y⟩ := X
  exact OG.pre (fun _ q => XS.ifNo Y.here hx rfl (hb hby hd) rfl ((if0 _ _).trans (flt hq).1) q) g
theorem OG.if_lt (X : OS B mL own nm rt Z n0 p l e R s m args below meth c T h cells slots) {x : Int32} {o : Int} {pc' : Nat} (hd : decode B pc = .ok (.ifCond .lt o, 3)) (hp : 0 ≤ (pc : Int) + o ∧ ((pc : Int) + o).toNat = pc') (g1 : x < 0 → OG p e below s n0 rc rs Q (T.setTop (mkF m pc' Ls st))) (g2 : ¬ x < 0 → OG p e below s n0 rc rs Q (T.setTop (mkF m (pc + 3) Ls st))) : OG p e below s n0 rc rs Q (T.setTop (mkF m pc Ls (.int x :: st))) :=
  if hq : x < 0 then OG.if_lt_t X hd hp hq (g1 hq) else OG.if_lt_f X hd hq (g2 hq)
theorem OG.ifl_lt_t (X : OS B mL own nm rt Z n0 p l e R s m args below meth c T h cells slots) {x y : Int64} {o : Int} {pc' : Nat} (hd : decode B pc = .ok (.ifCond .lt o, 3)) (hp : 0 ≤ (pc : Int) + o ∧ ((pc : Int) + o).toNat = pc') (hq : x < y) (g : OG p e below s n0 rc rs Q (T.setTop (mkF m pc' Ls st))) : OG p e below s n0 rc rs Q (T.setTop (mkF m pc Ls (.int (lcmpW x y) :: st))) := by
  obtain ⟨⟨hx, hby, -⟩, -, locs, -, Y⟩ := X
  exact OG.pre (fun _ q => XS.ifYes Y.here hx rfl (pc0 := pc) rfl (hb hby hd) rfl ((if0 _ _).trans (tlt ((lw_lt x y).mpr hq)).1) hp.1 hp.2 q) g
theorem OG.ifl_lt_f (X : OS B mL own nm rt Z n0 p l e R s m args below meth c T h cells slots) {x y : Int64} {o : Int} (hd : decode B pc = .ok (.ifCond .lt o, 3)) (hq : ¬ x < y) (g : OG p e below s n0 rc rs Q (T.setTop (mkF m (pc + 3) Ls st))) : OG p e below s n0 rc rs Q (T.setTop (mkF m pc Ls (.int (lcmpW x y) :: st))) := by
  obtain ⟨⟨hx, hby, -⟩, -, locs, -, Y⟩ := X
  exact OG.pre (fun _ q => XS.ifNo Y.here hx rfl (hb hby hd) rfl ((if0 _ _).trans (flt (fun q => hq ((lw_lt x y).mp q))).1) q) g
theorem OG.ifl_lt (X : OS B mL own nm rt Z n0 p l e R s m args below meth c T h cells slots) {x y : Int64} {o : Int} {pc' : Nat} (hd : decode B pc = .ok (.ifCond .lt o, 3)) (hp : 0 ≤ (pc : Int) + o ∧ ((pc : Int) + o).toNat = pc') (g1 : x < y → OG p e below s n0 rc rs Q (T.setTop (mkF m pc' Ls st))) (g2 : ¬ x < y → OG p e below s n0 rc rs Q (T.setTop (mkF m (pc + 3) Ls st))) : OG p e below s n0 rc rs Q (T.setTop (mkF m pc Ls (.int (lcmpW x y) :: st))) :=
  if hq : x < y then OG.ifl_lt_t X hd hp hq (g1 hq) else OG.ifl_lt_f X hd hq (g2 hq)
theorem OG.icmp_ge_t (X : OS B mL own nm rt Z n0 p l e R s m args below meth c T h cells slots) {x y : Int32} {o : Int} {pc' : Nat} (hd : decode B pc = .ok (.if_icmp .ge o, 3)) (hp : 0 ≤ (pc : Int) + o ∧ ((pc : Int) + o).toNat = pc') (hq : ¬ x < y) (g : OG p e below s n0 rc rs Q (T.setTop (mkF m pc' Ls st))) : OG p e below s n0 rc rs Q (T.setTop (mkF m pc Ls (.int y :: .int x :: st))) := by
  obtain ⟨⟨hx, hby, -⟩, -, locs, -, Y⟩ := X
  exact OG.pre (fun _ q => XS.icmpYes Y.here hx rfl (pc0 := pc) rfl (hb hby hd) rfl (flt hq).2.1 hp.1 hp.2 q) g
theorem OG.icmp_ge_f (X : OS B mL own nm rt Z n0 p l e R s m args below meth c T h cells slots) {x y : Int32} {o : Int} (hd : decode B pc = .ok (.if_icmp .ge o, 3)) (hq : x < y) (g : OG p e below s n0 rc rs Q (T.setTop (mkF m (pc + 3) Ls st))) : OG p e below s n0 rc rs Q (T.setTop (mkF m pc Ls (.int y :: .int x :: st))) := by
  obtain ⟨⟨hx, hby, -⟩, -, locs, -, Y⟩ := X
  exact OG.pre (fun _ q => XS.icmpNo Y.here hx rfl (hb hby hd) rfl (tlt hq).2.1 q) g
theorem OG.icmp_ge (X : OS B mL own nm rt Z n0 p l e R s m args below meth c T h cells slots) {x y : Int32} {o : Int} {pc' : Nat} (hd : decode B pc = .ok (.if_icmp .ge o, 3)) (hp : 0 ≤ (pc : Int) + o ∧ ((pc : Int) + o).toNat = pc') (g1 : ¬ x < y → OG p e below s n0 rc rs Q (T.setTop (mkF m pc' Ls st))) (g2 : x < y → OG p e below s n0 rc rs Q (T.setTop (mkF m (pc + 3) Ls st))) : OG p e below s n0 rc rs Q (T.setTop (mkF m pc Ls (.int y :: .int x :: st))) :=
  if hq : x < y then OG.icmp_ge_f X hd hq (g2 hq) else OG.icmp_ge_t X hd hp hq (g1 hq)
theorem OG.if_ge_t (X : OS B mL own nm rt Z n0 p l e R s m args below meth c T h cells slots) {x : Int32} {o : Int} {pc' : Nat} (hd : decode B pc = .ok (.ifCond .ge o, 3)) (hp : 0 ≤ (pc : Int) + o ∧ ((pc : Int) + o).toNat = pc') (hq : ¬ x < 0) (g : OG p e below s n0 rc rs Q (T.setTop (mkF m pc' Ls st))) : OG p e below s n0 rc rs Q (T.setTop (mkF m pc Ls (.int x :: st))) := by
  obtain ⟨⟨hx, hby, -⟩, -, locs, -, Y⟩ := X
  exact OG.pre (fun _ q => XS.ifYes Y.here hx rfl (pc0 := pc) rfl (hb hby hd) rfl ((if0 _ _).trans (flt hq).2.1) hp.1 hp.2 q) g
theorem OG.if_ge_f (X : OS B mL own nm rt Z n0 p l e R s m args below meth c T h cells slots) {x : Int32} {o : Int} (hd : decode B pc = .ok (.ifCond .ge o, 3)) (hq : x < 0) (g : OG p e below s n0 rc rs Q (T.setTop (mkF m (pc + 3) Ls st))) : OG p e below s n0 rc rs Q (T.setTop (mkF m pc Ls (.int x :: st))) := by
  obtain ⟨⟨hx, hby, -⟩, -, locs, -, Y⟩ := X
  exact OG.pre (fun _ q => XS.ifNo Y.here hx rfl (hb hby hd) rfl ((if0 _ _).trans (tlt hq).2.1) q) g
theorem OG.if_ge (X : OS B mL own nm rt Z n0 p l e R s m args below meth c T h cells slots) {x : Int32} {o : Int} {pc' : Nat} (hd : decode B pc = .ok (.ifCond .ge o, 3)) (hp : 0 ≤ (pc : Int) + o ∧ ((pc : Int) + o).toNat = pc') (g1 : ¬ x < 0 → OG p e below s n0 rc rs Q (T.setTop (mkF m pc' Ls st))) (g2 : x < 0 → OG p e below s n0 rc rs Q (T.setTop (mkF m (pc + 3) Ls st))) : OG p e below s n0 rc rs Q (T.setTop (mkF m pc Ls (.int x :: st))) :=
  if hq : x < 0 then OG.if_ge_f X hd hq (g2 hq) else OG.if_ge_t X hd hp hq (g1 hq)
theorem OG.ifl_ge_t (X : OS B mL own nm rt Z n0 p l e R s m args below meth c T h cells slots) {x y : Int64} {o : Int} {pc' : Nat} (hd : decode B pc = .ok (.ifCond .ge o, 3)) (hp : 0 ≤ (pc : Int) + o ∧ ((pc : Int) + o).toNat = pc') (hq : ¬ x < y) (g : OG p e below s n0 rc rs Q (T.setTop (mkF m pc' Ls st))) : OG p e below s n0 rc rs Q (T.setTop (mkF m pc Ls (.int (lcmpW x y) :: st))) := by
  obtain ⟨⟨hx, hby, -⟩, -, locs, -, Y⟩ := X
  exact OG.pre (fun _ q => XS.ifYes Y.here hx rfl (pc0 := pc) rfl (hb hby hd) rfl ((if0 _ _).trans (flt (fun q => hq ((lw_lt x y).mp q))).2.1) hp.1 hp.2 q) g
theorem OG.ifl_ge_f (X : OS B mL own nm rt Z n0 p l e R s m args below meth c T h cells slots) {x y : Int64} {o : Int} (hd : decode B pc = .ok (.ifCond .ge o, 3)) (hq : x < y) (g : OG p e below s n0 rc rs Q (T.setTop (mkF m (pc + 3) Ls st))) : OG p e below s n0 rc rs Q (T.setTop (mkF m pc Ls (.int (lcmpW x y) :: st))) := by
  obtain ⟨⟨hx, hby, -⟩, -, locs, -, Y⟩ := X
  exact OG.pre (fun _ q => XS.ifNo Y.here hx rfl (hb hby hd) rfl ((if0 _ _).trans (tlt ((lw_lt x y).mpr hq)).2.1) q) g
theorem OG.ifl_ge (X : OS B mL own nm rt Z n0 p l e R s m args below meth c T h cells slots) {x y : Int64} {o : Int} {pc' : Nat} (hd : decode B pc = .ok (.ifCond .ge o, 3)) (hp : 0 ≤ (pc : Int) + o ∧ ((pc : Int) + o).toNat = pc') (g1 : ¬ x < y → OG p e below s n0 rc rs Q (T.setTop (mkF m pc' Ls st))) (g2 : x < y → OG p e below s n0 rc rs Q (T.setTop (mkF m (pc + 3) Ls st))) : OG p e below s n0 rc rs Q (T.setTop (mkF m pc Ls (.int (lcmpW x y) :: st))) :=
  if hq : x < y then OG.ifl_ge_f X hd hq (g2 hq) else OG.ifl_ge_t X hd hp hq (g1 hq)
theorem OG.icmp_gt_t (X : OS B mL own nm rt Z n0 p l e R s m args below meth c T h cells slots) {x y : Int32} {o : Int} {pc' : Nat} (hd : decode B pc = .ok (.if_icmp .gt o, 3)) (hp : 0 ≤ (pc : Int) + o ∧ ((pc : Int) + o).toNat = pc') (hq : y < x) (g : OG p e below s n0 rc rs Q (T.setTop (mkF m pc' Ls st))) : OG p e below s n0 rc rs Q (T.setTop (mkF m pc Ls (.int y :: .int x :: st))) := by
  obtain ⟨⟨hx, hby, -⟩, -, locs, -, Y⟩ := X
  exact OG.pre (fun _ q => XS.icmpYes Y.here hx rfl (pc0 := pc) rfl (hb hby hd) rfl (tlt hq).2.2.1 hp.1 hp.2 q) g
theorem OG.icmp_gt_f (X : OS B mL own nm rt Z n0 p l e R s m args below meth c T h cells slots) {x y : Int32} {o : Int} (hd : decode B pc = .ok (.if_icmp .gt o, 3)) (hq : ¬ y < x) (g : OG p e below s n0 rc rs Q (T.setTop (mkF m (pc + 3) Ls st))) : OG p e below s n0 rc rs Q (T.setTop (mkF m pc Ls (.int y :: .int x :: st))) := by
  obtain ⟨⟨hx, hby, -⟩, -, locs, -, Y⟩ := X
  exact OG.pre (fun _ q => XS.icmpNo Y.here hx rfl (hb hby hd) rfl (flt hq).2.2.1 q) g
theorem OG.icmp_gt (X : OS B mL own nm rt Z n0 p l e R s m args below meth c T h cells slots) {x y : Int32} {o : Int} {pc' : Nat} (hd : decode B pc = .ok (.if_icmp .gt o, 3)) (hp : 0 ≤ (pc : Int) + o ∧ ((pc : Int) + o).toNat = pc') (g1 : y < x → OG p e below s n0 rc rs Q (T.setTop (mkF m pc' Ls st))) (g2 : ¬ y < x → OG p e below s n0 rc rs Q (T.setTop (mkF m (pc + 3) Ls st))) : OG p e below s n0 rc rs Q (T.setTop (mkF m pc Ls (.int y :: .int x :: st))) :=
  if hq : y < x then OG.icmp_gt_t X hd hp hq (g1 hq) else OG.icmp_gt_f X hd hq (g2 hq)
theorem OG.if_gt_t (X : OS B mL own nm rt Z n0 p l e R s m args below meth c T h cells slots) {x : Int32} {o : Int} {pc' : Nat} (hd : decode B pc = .ok (.ifCond .gt o, 3)) (hp : 0 ≤ (pc : Int) + o ∧ ((pc : Int) + o).toNat = pc') (hq : 0 < x) (g : OG p e below s n0 rc rs Q (T.setTop (mkF m pc' Ls st))) : OG p e below s n0 rc rs Q (T.setTop (mkF m pc Ls (.int x :: st))) := by
  obtain ⟨⟨hx, hby, -⟩, -, locs, -, Y⟩ := X
  exact OG.pre (fun _ q => XS.ifYes Y.here hx rfl (pc0 := pc) rfl (hb hby hd) rfl ((if0 _ _).trans (tlt hq).2.2.1) hp.1 hp.2 q) g
theorem OG.if_gt_f (X : OS B mL own nm rt Z n0 p l e R s m args below meth c T h cells slots) {x : Int32} {o : Int} (hd : decode B pc = .ok (.ifCond .gt o, 3)) (hq : ¬ 0 < x) (g : OG p e below s n0 rc rs Q (T.setTop (mkF m (pc + 3) Ls st))) : OG p e below s n0 rc rs Q (T.setTop (mkF m pc Ls (.int x :: st))) := by
  obtain ⟨⟨hx, hby, -⟩, -, locs, -, Y⟩ := X
  exact OG.pre (fun _ q => XS.ifNo Y.here hx rfl (hb hby hd) rfl ((if0 _ _).trans (flt hq).2.2.1) q) g
theorem OG.if_gt (X : OS B mL own nm rt Z n0 p l e R s m args below meth c T h cells slots) {x : Int32} {o : Int} {pc' : Nat} (hd : decode B pc = .ok (.ifCond .gt o, 3)) (hp : 0 ≤ (pc : Int) + o ∧ ((pc : Int) + o).toNat = pc') (g1 : 0 < x → OG p e below s n0 rc rs Q (T.setTop (mkF m pc' Ls st))) (g2 : ¬ 0 < x → OG p e below s n0 rc rs Q (T.setTop (mkF m (pc + 3) Ls st))) : OG p e below s n0 rc rs Q (T.setTop (mkF m pc Ls (.int x :: st))) :=
  if hq : 0 < x then OG.if_gt_t X hd hp hq (g1 hq) else OG.if_gt_f X hd hq (g2 hq)
theorem OG.ifl_gt_t (X : OS B mL own nm rt Z n0 p l e R s m args below meth c T h cells slots) {x y : Int64} {o : Int} {pc' : Nat} (hd : decode B pc = .ok (.ifCond .gt o, 3)) (hp : 0 ≤ (pc : Int) + o ∧ ((pc : Int) + o).toNat = pc') (hq : y < x) (g : OG p e below s n0 rc rs Q (T.setTop (mkF m pc' Ls st))) : OG p e below s n0 rc rs Q (T.setTop (mkF m pc Ls (.int (lcmpW x y) :: st))) := by
  obtain ⟨⟨hx, hby, -⟩, -, locs, -, Y⟩ := X
  exact OG.pre (fun _ q => XS.ifYes Y.here hx rfl (pc0 := pc) rfl (hb hby hd) rfl ((if0 _ _).trans (tlt ((lw_gt x y).mpr hq)).2.2.1) hp.1 hp.2 q) g
theorem OG.ifl_gt_f (X : OS B mL own nm rt Z n0 p l e R s m args below meth c T h cells slots) {x y : Int64} {o : Int} (hd : decode B pc = .ok (.ifCond .gt o, 3)) (hq : ¬ y < x) (g : OG p e below s n0 rc rs Q (T.setTop (mkF m (pc + 3) Ls st))) : OG p e below s n0 rc rs Q (T.setTop (mkF m pc Ls (.int (lcmpW x y) :: st))) := by
  obtain ⟨⟨hx, hby, -⟩, -, locs, -, Y⟩ := X
  exact OG.pre (fun _ q => XS.ifNo Y.here hx rfl (hb hby hd) rfl ((if0 _ _).trans (flt (fun q => hq ((lw_gt x y).mp q))).2.2.1) q) g
theorem OG.ifl_gt (X : OS B mL own nm rt Z n0 p l e R s m args below meth c T h cells slots) {x y : Int64} {o : Int} {pc' : Nat} (hd : decode B pc = .ok (.ifCond .gt o, 3)) (hp : 0 ≤ (pc : Int) + o ∧ ((pc : Int) + o).toNat = pc') (g1 : y < x → OG p e below s n0 rc rs Q (T.setTop (mkF m pc' Ls st))) (g2 : ¬ y < x → OG p e below s n0 rc rs Q (T.setTop (mkF m (pc + 3) Ls st))) : OG p e below s n0 rc rs Q (T.setTop (mkF m pc Ls (.int (lcmpW x y) :: st))) :=
  if hq : y < x then OG.ifl_gt_t X hd hp hq (g1 hq) else OG.ifl_gt_f X hd hq (g2 hq)
theorem OG.icmp_le_t (X : OS B mL own nm rt Z n0 p l e R s m args below meth c T h cells slots) {x y : Int32} {o : Int} {pc' : Nat} (hd : decode B pc = .ok (.if_icmp .le o, 3)) (hp : 0 ≤ (pc : Int) + o ∧ ((pc : Int) + o).toNat = pc') (hq : ¬ y < x) (g : OG p e below s n0 rc rs Q (T.setTop (mkF m pc' Ls st))) : OG p e below s n0 rc rs Q (T.setTop (mkF m pc Ls (.int y :: .int x :: st))) := by
  obtain ⟨⟨hx, hby, -⟩, -, locs, -, Y⟩ := X
  exact OG.pre (fun _ q => XS.icmpYes Y.here hx rfl (pc0 := pc) rfl (hb hby hd) rfl (flt hq).2.2.2 hp.1 hp.2 q) g
theorem OG.icmp_le_f (X : OS B mL own nm rt Z n0 p l e R s m args below meth c T h cells slots) {x y : Int32} {o : Int} (hd : decode B pc = .ok (.if_icmp .le o, 3)) (hq : y < x) (g : OG p e below s n0 rc rs Q (T.setTop (mkF m (pc + 3) Ls st))) : OG p e below s n0 rc rs Q (T.setTop (mkF m pc Ls (.int y :: .int x :: st))) := by
  obtain ⟨⟨hx, hby, -⟩, -, locs, -, Y⟩ := X
  exact OG.pre (fun _ q => XS.icmpNo Y.here hx rfl (hb hby hd) rfl (tlt hq).2.2.2 q) g
theorem OG.icmp_le (X : OS B mL own nm rt Z n0 p l e R s m args below meth c T h cells slots) {x y : Int32} {o : Int} {pc' : Nat} (hd : decode B pc = .ok (.if_icmp .le o, 3)) (hp : 0 ≤ (pc : Int) + o ∧ ((pc : Int) + o).toNat = pc') (g1 : ¬ y < x → OG p e below s n0 rc rs Q (T.setTop (mkF m pc' Ls st))) (g2 : y < x → OG p e below s n0 rc rs Q (T.setTop (mkF m (pc + 3) Ls st))) : OG p e below s n0 rc rs Q (T.setTop (mkF m pc Ls (.int y :: .int x :: st))) :=
  if hq : y < x then OG.icmp_le_f X hd hq (g2 hq) else OG.icmp_le_t X hd hp hq (g1 hq)
theorem OG.if_le_t (X : OS B mL own nm rt Z n0 p l e R s m args below meth c T h cells slots) {x : Int32} {o : Int} {pc' : Nat} (hd : decode B pc = .ok (.ifCond .le o, 3)) (hp : 0 ≤ (pc : Int) + o ∧ ((pc : Int) + o).toNat = pc') (hq : ¬ 0 < x) (g : OG p e below s n0 rc rs Q (T.setTop (mkF m pc' Ls st))) : OG p e below s n0 rc rs Q (T.setTop (mkF m pc Ls (.int x :: st))) := by
  obtain ⟨⟨hx, hby, -⟩, -, locs, -, Y⟩ := X
  exact OG.pre (fun _ q => XS.ifYes Y.here hx rfl (pc0 := pc) rfl (hb hby hd) rfl ((if0 _ _).trans (flt hq).2.2.2) hp.1 hp.2 q) g
theorem OG.if_le_f (X : OS B mL own nm rt Z n0 p l e R s m args below meth c T h cells slots) {x : Int32} {o : Int} (hd : decode B pc = .ok (.ifCond .le o, 3)) (hq : 0 < x) (g : OG p e below s n0 rc rs Q (T.setTop (mkF m (pc + 3) Ls st))) : OG p e below s n0 rc rs Q (T.setTop (mkF m pc Ls (.int x :: st))) := by
  obtain ⟨⟨hx, hby, -⟩, -, locs, -, Y⟩ := X
  exact OG.pre (fun _ q => XS.ifNo Y.here hx rfl (hb hby hd) rfl ((if0 _ _).trans (tlt hq).2.2.2) q) g
theorem OG.if_le (X : OS B mL own nm rt Z n0 p l e R s m args below meth c T h cells slots) {x : Int32} {o : Int} {pc' : Nat} (hd : decode B pc = .ok (.ifCond .le o, 3)) (hp : 0 ≤ (pc : Int) + o ∧ ((pc : Int) + o).toNat = pc') (g1 : ¬ 0 < x → OG p e below s n0 rc rs Q (T.setTop (mkF m pc' Ls st))) (g2 : 0 < x → OG p e below s n0 rc rs Q (T.setTop (mkF m (pc + 3) Ls st))) : OG p e below s n0 rc rs Q (T.setTop (mkF m pc Ls (.int x :: st))) :=
  if hq : 0 < x then OG.if_le_f X hd hq (g2 hq) else OG.if_le_t X hd hp hq (g1 hq)
theorem OG.ifl_le_t (X : OS B mL own nm rt Z n0 p l e R s m args below meth c T h cells slots) {x y : Int64} {o : Int} {pc' : Nat} (hd : decode B pc = .ok (.ifCond .le o, 3)) (hp : 0 ≤ (pc : Int) + o ∧ ((pc : Int) + o).toNat = pc') (hq : ¬ y < x) (g : OG p e below s n0 rc rs Q (T.setTop (mkF m pc' Ls st))) : OG p e below s n0 rc rs Q (T.setTop (mkF m pc Ls (.int (lcmpW x y) :: st))) := by
  obtain ⟨⟨hx, hby, -⟩, -, locs, -, Y⟩ := X
  exact OG.pre (fun _ q => XS.ifYes Y.here hx rfl (pc0 := pc) rfl (hb hby hd) rfl ((if0 _ _).trans (flt (fun q => hq ((lw_gt x y).mp q))).2.2.2) hp.1 hp.2 q) g
theorem OG.ifl_le_f (X : OS B mL own nm rt Z n0 p l e R s m args below meth c T h cells slots) {x y : Int64} {o : Int} (hd : decode B pc = .ok (.ifCond .le o, 3)) (hq : y < x) (g : OG p e below s n0 rc rs Q (T.setTop (mkF m (pc + 3) Ls st))) : OG p e below s n0 rc rs Q (T.setTop (mkF m pc Ls (.int (lcmpW x y) :: st))) := by
  obtain ⟨⟨hx, hby, -⟩, -, locs, -, Y⟩ := X
  exact OG.pre (fun _ q => XS.ifNo Y.here hx rfl (hb hby hd) rfl ((if0 _ _).trans (tlt ((lw_gt x y).mpr hq)).2.2.2) q) g
theorem OG.ifl_le (X : OS B mL own nm rt Z n0 p l e R s m args below meth c T h cells slots) {x y : Int64} {o : Int} {pc' : Nat} (hd : decode B pc = .ok (.ifCond .le o, 3)) (hp : 0 ≤ (pc : Int) + o ∧ ((pc : Int) + o).toNat = pc') (g1 : ¬ y < x → OG p e below s n0 rc rs Q (T.setTop (mkF m pc' Ls st))) (g2 : y < x → OG p e below s n0 rc rs Q (T.setTop (mkF m (pc + 3) Ls st))) : OG p e below s n0 rc rs Q (T.setTop (mkF m pc Ls (.int (lcmpW x y) :: st))) :=
  if hq : y < x then OG.ifl_le_f X hd hq (g2 hq) else OG.ifl_le_t X hd hp hq (g1 hq)
theorem OG.icmp_eq_t (X : OS B mL own nm rt Z n0 p l e R s m args below meth c T h cells slots) {x y : Int32} {o : Int} {pc' : Nat} (hd : decode B pc = .ok (.if_icmp .eq o, 3)) (hp : 0 ≤ (pc : Int) + o ∧ ((pc : Int) + o).toNat = pc') (hq : x = y) (g : OG p e below s n0 rc rs Q (T.setTop (mkF m pc' Ls st))) : OG p e below s n0 rc rs Q (T.setTop (mkF m pc Ls (.int y :: .int x :: st))) := by
  obtain ⟨⟨hx, hby, -⟩, -, locs, -, Y⟩ := X
  exact OG.pre (fun _ q => XS.icmpYes Y.here hx rfl (pc0 := pc) rfl (hb hby hd) rfl (teq hq).1 hp.1 hp.2 q) g
theorem OG.icmp_eq_f (X : OS B mL own nm rt Z n0 p l e R s m args below meth c T h cells slots) {x y : Int32} {o : Int} (hd : decode B pc = .ok (.if_icmp .eq o, 3)) (hq : ¬ x = y) (g : OG p e below s n0 rc rs Q (T.setTop (mkF m (pc + 3) Ls st))) : OG p e below s n0 rc rs Q (T.setTop (mkF m pc Ls (.int y :: .int x :: st))) := by
  obtain ⟨⟨hx, hby, -⟩, -, locs, -, Y⟩ := X
  exact OG.pre (fun _ q => XS.icmpNo Y.here hx rfl (hb hby hd) rfl (feq hq).1 q) g
theorem OG.icmp_eq (X : OS B mL own nm rt Z n0 p l e R s m args below meth c T h cells slots) {x y : Int32} {o : Int} {pc' : Nat} (hd : decode B pc = .ok (.if_icmp .eq o, 3)) (hp : 0 ≤ (pc : Int) + o ∧ ((pc : Int) + o).toNat = pc') (g1 : x = y → OG p e below s n0 rc rs Q (T.setTop (mkF m pc' Ls st))) (g2 : ¬ x = y → OG p e below s n0 rc rs Q (T.setTop (mkF m (pc + 3) Ls st))) : OG p e below s n0 rc rs Q (T.setTop (mkF m pc Ls (.int y :: .int x :: st))) :=
  if hq : x = y then OG.icmp_eq_t X hd hp hq (g1 hq) else OG.icmp_eq_f X hd hq (g2 hq)
theorem OG.if_eq_t (X : OS B mL own nm rt Z n0 p l e R s m args below meth c T h cells slots) {x : Int32} {o : Int} {pc' : Nat} (hd : decode B pc = .ok (.ifCond .eq o, 3)) (hp : 0 ≤ (pc : Int) + o ∧ ((pc : Int) + o).toNat = pc') (hq : x = 0) (g : OG p e below s n0 rc rs Q (T.setTop (mkF m pc' Ls st))) : OG p e below s n0 rc rs Q (T.setTop (mkF m pc Ls (.int x :: st))) := by
  obtain ⟨⟨hx, hby, -⟩, -, locs, -, Y⟩ := X
  exact OG.pre (fun _ q => XS.ifYes Y.here hx rfl (pc0 := pc) rfl (hb hby hd) rfl ((if0 _ _).trans (teq hq).1) hp.1 hp.2 q) g
theorem OG.if_eq_f (X : OS B mL own nm rt Z n0 p l e R s m args below meth c T h cells slots) {x : Int32} {o : Int} (hd : decode B pc = .ok (.ifCond .eq o, 3)) (hq : ¬ x = 0) (g : OG p e below s n0 rc rs Q (T.setTop (mkF m (pc + 3) Ls st))) : OG p e below s n0 rc rs Q (T.setTop (mkF m pc Ls (.int x :: st))) := by
  obtain ⟨⟨hx, hby, -⟩, -, locs, -, Y⟩ := X
  exact OG.pre (fun _ q => XS.ifNo Y.here hx rfl (hb hby hd) rfl ((if0 _ _).trans (feq hq).1) q) g
theorem OG.if_eq (X : OS B mL own nm rt Z n0 p l e R s m args below meth c T h cells slots) {x : Int32} {o : Int} {pc' : Nat} (hd : decode B pc = .ok (.ifCond .eq o, 3)) (hp : 0 ≤ (pc : Int) + o ∧ ((pc : Int) + o).toNat = pc') (g1 : x = 0 → OG p e below s n0 rc rs Q (T.setTop (mkF m pc' Ls st))) (g2 : ¬ x = 0 → OG p e below s n0 rc rs Q (T.setTop (mkF m (pc + 3) Ls st))) : OG p e below s n0 rc rs Q (T.setTop (mkF m pc Ls (.int x :: st))) :=
  if hq : x = 0 then OG.if_eq_t X hd hp hq (g1 hq) else OG.if_eq_f X hd hq (g2 hq)
theorem OG.ifl_eq_t (X : OS B mL own nm rt Z n0 p l e R s m args below meth c T h cells slots) {x y : Int64} {o : Int} {pc' : Nat} (hd : decode B pc = .ok (.ifCond .eq o, 3)) (hp : 0 ≤ (pc : Int) + o ∧ ((pc : Int) + o).toNat = pc') (hq : x = y) (g : OG p e below s n0 rc rs Q (T.setTop (mkF m pc' Ls st))) : OG p e below s n0 rc rs Q (T.setTop (mkF m pc Ls (.int (lcmpW x y) :: st))) := by
  obtain ⟨⟨hx, hby, -⟩, -, locs, -, Y⟩ := X
  exact OG.pre (fun _ q => XS.ifYes Y.here hx rfl (pc0 := pc) rfl (hb hby hd) rfl ((if0 _ _).trans (teq ((lw_eq x y).mpr hq)).1) hp.1 hp.2 q) g
theorem OG.ifl_eq_f (X : OS B mL own nm rt Z n0 p l e R s m args below meth c T h cells slots) {x y : Int64} {o : Int} (hd : decode B pc = .ok (.ifCond .eq o, 3)) (hq : ¬ x = y) (g : OG p e below s n0 rc rs Q (T.setTop (mkF m (pc + 3) Ls st))) : OG p e below s n0 rc rs Q (T.setTop (mkF m pc Ls (.int (lcmpW x y) :: st))) := by
  obtain ⟨⟨hx, hby, -⟩, -, locs, -, Y⟩ := X
  exact OG.pre (fun _ q => XS.ifNo Y.here hx rfl (hb hby hd) rfl ((if0 _ _).trans (feq (fun q => hq ((lw_eq x y).mp q))).1) q) g
theorem OG.ifl_eq (X : OS B mL own nm rt Z n0 p l e R s m args below meth c T h cells slots) {x y : Int64} {o : Int} {pc' : Nat} (hd : decode B pc = .ok (.ifCond .eq o, 3)) (hp : 0 ≤ (pc : Int) + o ∧ ((pc : Int) + o).toNat = pc') (g1 : x = y → OG p e below s n0 rc rs Q (T.setTop (mkF m pc' Ls st))) (g2 : ¬ x = y → OG p e below s n0 rc rs Q (T.setTop (mkF m (pc + 3) Ls st))) : OG p e below s n0 rc rs Q (T.setTop (mkF m pc Ls (.int (lcmpW x y) :: st))) :=
  if hq : x = y then OG.ifl_eq_t X hd hp hq (g1 hq) else OG.ifl_eq_f X hd hq (g2 hq)
theorem OG.icmp_ne_t (X : OS B mL own nm rt Z n0 p l e R s m args below meth c T h cells slots) {x y : Int32} {o : Int} {pc' : Nat} (hd : decode B pc = .ok (.if_icmp .ne o, 3)) (hp : 0 ≤ (pc : Int) + o ∧ ((pc : Int) + o).toNat = pc') (hq : ¬ x = y) (g : OG p e below s n0 rc rs Q (T.setTop (mkF m pc' Ls st))) : OG p e below s n0 rc rs Q (T.setTop (mkF m pc Ls (.int y :: .int x :: st))) := by
  obtain ⟨⟨hx, hby, -⟩, -, locs, -, Y⟩ := X
  exact OG.pre (fun _ q => XS.icmpYes Y.here hx rfl (pc0 := pc) rfl (hb hby hd) rfl (feq hq).2 hp.1 hp.2 q) g
theorem OG.icmp_ne_f (X : OS B mL own nm rt Z n0 p l e R s m args below meth c T h cells slots) {x y : Int32} {o : Int} (hd : decode B pc = .ok (.if_icmp .ne o, 3)) (hq : x = y) (g : OG p e below s n0 rc rs Q (T.setTop (mkF m (pc + 3) Ls st))) : OG p e below s n0 rc rs Q (T.setTop (mkF m pc Ls (.int y :: .int x :: st))) := by
  obtain ⟨⟨hx, hby, -⟩, -, locs, -, Y⟩ := X
  exact OG.pre (fun _ q => XS.icmpNo Y.here hx rfl (hb hby hd) rfl (teq hq).2 q) g
theorem OG.icmp_ne (X : OS B mL own nm rt Z n0 p l e R s m args below meth c T h cells slots) {x y : Int32} {o : Int} {pc' : Nat} (hd : decode B pc = .ok (.if_icmp .ne o, 3)) (hp : 0 ≤ (pc : Int) + o ∧ ((pc : Int) + o).toNat = pc') (g1 : ¬ x = y → OG p e below s n0 rc rs Q (T.setTop (mkF m pc' Ls st))) (g2 : x = y → OG p e below s n0 rc rs Q (T.setTop (mkF m (pc + 3) Ls st))) : OG p e below s n0 rc rs Q (T.setTop (mkF m pc Ls (.int y :: .int x :: st))) :=
  if hq : x = y then OG.icmp_ne_f X hd hq (g2 hq) else OG.icmp_ne_t X hd hp hq (g1 hq)
theorem OG.if_ne_t (X : OS B mL own nm rt Z n0 p l e R s m args below meth c T h cells slots) {x : Int32} {o : Int} {pc' : Nat} (hd : decode B pc = .ok (.ifCond .ne o, 3)) (hp : 0 ≤ (pc : Int) + o ∧ ((pc : Int) + o).toNat = pc') (hq : ¬ x = 0) (g : OG p e below s n0 rc rs Q (T.setTop (mkF m pc' Ls st))) : OG p e below s n0 rc rs Q (T.setTop (mkF m pc Ls (.int x :: st))) := by
  obtain ⟨⟨hx, hby, -⟩, -, locs, -, Y⟩ := X
  exact OG.pre (fun _ q => XS.ifYes Y.here hx rfl (pc0 := pc) rfl (hb hby hd) rfl ((if0 _ _).trans (feq hq).2) hp.1 hp.2 q) g
theorem OG.if_ne_f (X : OS B mL own nm rt Z n0 p l e R s m args below meth c T h cells slots) {x : Int32} {o : Int} (hd : decode B pc = .ok (.ifCond .ne o, 3)) (hq : x = 0) (g : OG p e below s n0 rc rs Q (T.setTop (mkF m (pc + 3) Ls st))) : OG p e below s n0 rc rs Q (T.setTop (mkF m pc Ls (.int x :: st))) := by
  obtain ⟨⟨hx, hby, -⟩, -, locs, -, Y⟩ := X
  exact OG.pre (fun _ q => XS.ifNo Y.here hx rfl (hb hby hd) rfl ((if0 _ _).trans (teq hq).2) q) g
theorem OG.if_ne (X : OS B mL own nm rt Z n0 p l e R s m args below meth c T h cells slots) {x : Int32} {o : Int} {pc' : Nat} (hd : decode B pc = .ok (.ifCond .ne o, 3)) (hp : 0 ≤ (pc : Int) + o ∧ ((pc : Int) + o).toNat = pc') (g1 : ¬ x = 0 → OG p e below s n0 rc rs Q (T.setTop (mkF m pc' Ls st))) (g2 : x = 0 → OG p e below s n0 rc rs Q (T.setTop (mkF m (pc + 3) Ls st))) : OG p e below s n0 rc rs Q (T.setTop (mkF m pc Ls (.int x :: st))) :=
  if hq : x = 0 then OG.if_ne_f X hd hq (g2 hq) else OG.if_ne_t X hd hp hq (g1 hq)
theorem OG.ifl_ne_t (X : OS B mL own nm rt Z n0 p l e R s m args below meth c T h cells slots) {x y : Int64} {o : Int} {pc' : Nat} (hd : decode B pc = .ok (.ifCond .ne o, 3)) (hp : 0 ≤ (pc : Int) + o ∧ ((pc : Int) + o).toNat = pc') (hq : ¬ x = y) (g : OG p e below s n0 rc rs Q (T.setTop (mkF m pc' Ls st))) : OG p e below s n0 rc rs Q (T.setTop (mkF m pc Ls (.int (lcmpW x y) :: st))) := by
  obtain ⟨⟨hx, hby, -⟩, -, locs, -, Y⟩ := X
  exact OG.pre (fun _ q => XS.ifYes Y.here hx rfl (pc0 := pc) rfl (hb hby hd) rfl ((if0 _ _).trans (feq (fun q => hq ((lw_eq x y).mp q))).2) hp.1 hp.2 q) g
theorem OG.ifl_ne_f (X : OS B mL own nm rt Z n0 p l e R s m args below meth c T h cells slots) {x y : Int64} {o : Int} (hd : decode B pc = .ok (.ifCond .ne o, 3)) (hq : x = y) (g : OG p e below s n0 rc rs Q (T.setTop (mkF m (pc + 3) Ls st))) : OG p e below s n0 rc rs Q (T.setTop (mkF m pc Ls (.int (lcmpW x y) :: st))) := by
  obtain ⟨⟨hx, hby, -⟩, -, locs, -, Y⟩ := X
  exact OG.pre (fun _ q => XS.ifNo Y.here hx rfl (hb hby hd) rfl ((if0 _ _).trans (teq ((lw_eq x y).mpr hq)).2) q) g
theorem OG.ifl_ne (X : OS B mL own nm rt Z n0 p l e R s m args below meth c T h cells slots) {x y : Int64} {o : Int} {pc' : Nat} (hd : decode B pc = .ok (.ifCond .ne o, 3)) (hp : 0 ≤ (pc : Int) + o ∧ ((pc : Int) + o).toNat = pc') (g1 : ¬ x = y → OG p e below s n0 rc rs Q (T.setTop (mkF m pc' Ls st))) (g2 : x = y → OG p e below s n0 rc rs Q (T.setTop (mkF m (pc + 3) Ls st))) : OG p e below s n0 rc rs Q (T.setTop (mkF m pc Ls (.int (lcmpW x y) :: st))) :=
  if hq : x = y then OG.ifl_ne_f X hd hq (g2 hq) else OG.ifl_ne_t X hd hp hq (g1 hq)
theorem OG.ifnullYes (X : OS B mL own nm rt Z n0 p l e R s m args below meth c T h cells slots)  {o : Int} {pc' : Nat} (hd : decode B pc = .ok (.ifnull o, 3)) (hp : 0 ≤ (pc : Int) + o ∧ ((pc : Int) + o).toNat = pc') (g : OG p e below s n0 rc rs Q (T.setTop (mkF m pc' Ls st))) : OG p e below s n0 rc rs Q (T.setTop (mkF m pc Ls (.null :: st))) := by
  obtain ⟨⟨hx, hby, -⟩, -, locs, -, Y⟩ := X
  exact OG.pre (fun _ q => XS.ifnullYes Y.here hx rfl (pc0 := pc) rfl (hb hby hd) rfl hp.1 hp.2 q) g
theorem OG.ifnonnullYes (X : OS B mL own nm rt Z n0 p l e R s m args below meth c T h cells slots) {a : Addr} {o : Int} {pc' : Nat} (hd : decode B pc = .ok (.ifnonnull o, 3)) (hp : 0 ≤ (pc : Int) + o ∧ ((pc : Int) + o).toNat = pc') (g : OG p e below s n0 rc rs Q (T.setTop (mkF m pc' Ls st))) : OG p e below s n0 rc rs Q (T.setTop (mkF m pc Ls (.ref a :: st))) := by
  obtain ⟨⟨hx, hby, -⟩, -, locs, -, Y⟩ := X
  exact OG.pre (fun _ q => XS.ifnonnullYes Y.here hx rfl (pc0 := pc) rfl (hb hby hd) rfl hp.1 hp.2 q) g
theorem OG.ifnullNo (X : OS B mL own nm rt Z n0 p l e R s m args below meth c T h cells slots) {a : Addr} {o : Int} (hd : decode B pc = .ok (.ifnull o, 3)) (g : OG p e below s n0 rc rs Q (T.setTop (mkF m (pc + 3) Ls st))) : OG p e below s n0 rc rs Q (T.setTop (mkF m pc Ls (.ref a :: st))) := by
  obtain ⟨⟨hx, hby, -⟩, -, locs, -, Y⟩ := X
  exact OG.pre (fun _ q => XS.ifnullNo Y.here hx rfl (hb hby hd) rfl q) g
theorem OG.ifnonnullNo (X : OS B mL own nm rt Z n0 p l e R s m args below meth c T h cells slots)  {o : Int} (hd : decode B pc = .ok (.ifnonnull o, 3)) (g : OG p e below s n0 rc rs Q (T.setTop (mkF m (pc + 3) Ls st))) : OG p e below s n0 rc rs Q (T.setTop (mkF m pc Ls (.null :: st))) := by
  obtain ⟨⟨hx, hby, -⟩, -, locs, -, Y⟩ := X
  exact OG.pre (fun _ q => XS.ifnonnullNo Y.here hx rfl (hb hby hd) rfl q) g
theorem OG.acmp_eq_t (X : OS B mL own nm rt Z n0 p l e R s m args below meth c T h cells slots) {x y : Addr} {o : Int} {pc' : Nat} (hd : decode B pc = .ok (.if_acmp .eq o, 3)) (hp : 0 ≤ (pc : Int) + o ∧ ((pc : Int) + o).toNat = pc') (hq : x = y) (g : OG p e below s n0 rc rs Q (T.setTop (mkF m pc' Ls st))) : OG p e below s n0 rc rs Q (T.setTop (mkF m pc Ls (.ref y :: .ref x :: st))) := by
  obtain ⟨⟨hx, hby, -⟩, -, locs, -, Y⟩ := X
  exact OG.pre (fun _ q => RoadKit.acmp Y hx rfl rfl rfl (pc0 := pc) (pc' := pc') (same := true) rfl (hb hby hd) rfl (decide_eq_true (congrArg Value.ref hq)) hp.1 (by simp [acV, hp.2]) q) g
theorem OG.acmp_eq_f (X : OS B mL own nm rt Z n0 p l e R s m args below meth c T h cells slots) {x y : Addr} {o : Int} {pc' : Nat} (hd : decode B pc = .ok (.if_acmp .eq o, 3)) (hp : 0 ≤ (pc : Int) + o ∧ ((pc : Int) + o).toNat = pc') (hq : ¬ x = y) (g : OG p e below s n0 rc rs Q (T.setTop (mkF m (pc + 3) Ls st))) : OG p e below s n0 rc rs Q (T.setTop (mkF m pc Ls (.ref y :: .ref x :: st))) := by
  obtain ⟨⟨hx, hby, -⟩, -, locs, -, Y⟩ := X
  exact OG.pre (fun _ q => RoadKit.acmp Y hx rfl rfl rfl (pc0 := pc) (pc' := (pc + 3)) (same := false) rfl (hb hby hd) rfl (decide_eq_false fun q => hq (Value.ref.inj q)) hp.1 (by simp [acV]) q) g
theorem OG.acmp_ne_f (X : OS B mL own nm rt Z n0 p l e R s m args below meth c T h cells slots) {x y : Addr} {o : Int} {pc' : Nat} (hd : decode B pc = .ok (.if_acmp .ne o, 3)) (hp : 0 ≤ (pc : Int) + o ∧ ((pc : Int) + o).toNat = pc') (hq : x = y) (g : OG p e below s n0 rc rs Q (T.setTop (mkF m (pc + 3) Ls st))) : OG p e below s n0 rc rs Q (T.setTop (mkF m pc Ls (.ref y :: .ref x :: st))) := by
  obtain ⟨⟨hx, hby, -⟩, -, locs, -, Y⟩ := X
  exact OG.pre (fun _ q => RoadKit.acmp Y hx rfl rfl rfl (pc0 := pc) (pc' := (pc + 3)) (same := true) rfl (hb hby hd) rfl (decide_eq_true (congrArg Value.ref hq)) hp.1 (by simp [acV]) q) g
theorem OG.acmp_ne_t (X : OS B mL own nm rt Z n0 p l e R s m args below meth c T h cells slots) {x y : Addr} {o : Int} {pc' : Nat} (hd : decode B pc = .ok (.if_acmp .ne o, 3)) (hp : 0 ≤ (pc : Int) + o ∧ ((pc : Int) + o).toNat = pc') (hq : ¬ x = y) (g : OG p e below s n0 rc rs Q (T.setTop (mkF m pc' Ls st))) : OG p e below s n0 rc rs Q (T.setTop (mkF m pc Ls (.ref y :: .ref x :: st))) := by
  obtain ⟨⟨hx, hby, -⟩, -, locs, -, Y⟩ := X
  exact OG.pre (fun _ q => RoadKit.acmp Y hx rfl rfl rfl (pc0 := pc) (pc' := pc') (same := false) rfl (hb hby hd) rfl (decide_eq_false fun q => hq (Value.ref.inj q)) hp.1 (by simp [acV, hp.2]) q) g
theorem OG.acmp_eq (X : OS B mL own nm rt Z n0 p l e R s m args below meth c T h cells slots) {x y : Addr} {o : Int} {pc' : Nat} (hd : decode B pc = .ok (.if_acmp .eq o, 3)) (hp : 0 ≤ (pc : Int) + o ∧ ((pc : Int) + o).toNat = pc') (g1 : x = y → OG p e below s n0 rc rs Q (T.setTop (mkF m pc' Ls st))) (g2 : ¬ x = y → OG p e below s n0 rc rs Q (T.setTop (mkF m (pc + 3) Ls st))) : OG p e below s n0 rc rs Q (T.setTop (mkF m pc Ls (.ref y :: .ref x :: st))) :=
  if hq : x = y then OG.acmp_eq_t X hd hp hq (g1 hq) else OG.acmp_eq_f X hd hp hq (g2 hq)
theorem OG.acmp_ne (X : OS B mL own nm rt Z n0 p l e R s m args below meth c T h cells slots) {x y : Addr} {o : Int} {pc' : Nat} (hd : decode B pc = .ok (.if_acmp .ne o, 3)) (hp : 0 ≤ (pc : Int) + o ∧ ((pc : Int) + o).toNat = pc') (g1 : x = y → OG p e below s n0 rc rs Q (T.setTop (mkF m (pc + 3) Ls st))) (g2 : ¬ x = y → OG p e below s n0 rc rs Q (T.setTop (mkF m pc' Ls st))) : OG p e below s n0 rc rs Q (T.setTop (mkF m pc Ls (.ref y :: .ref x :: st))) :=
  if hq : x = y then OG.acmp_ne_f X hd hp hq (g1 hq) else OG.acmp_ne_t X hd hp hq (g2 hq)
theorem OG.retI {z : Int32} (X : OS B mL own nm (some .int) Z n0 p l e R s m args below meth c T h cells slots) (hd : decode B pc = .ok (.ireturn, 1))  (hc : cells ≤ rc) (hs : slots ≤ rs) (hQ : Q (some (.int z)) h) : OG p e below s n0 rc rs Q (T.setTop (mkF m pc Ls (.int z :: st))) := by
  obtain ⟨⟨hx, hby, -, -, -, hrt, hlk, -⟩, eT, locs, N, Y⟩ := X
  obtain ⟨fs, hr, hrun, hended, hW, hsame⟩ := Y.leave (v := (some (.int z))) (fun q => by first | rfl | (rw [hrt] at q; cases q)) hlk
  refine ⟨_, _, ?_, hrun, hended, _, _, rfl, ⟨?_, N⟩, ⟨_, rfl⟩, hW, hsame.mono hc hs⟩
  · exact Jvm.RoadKit.retI Y hx hrt (hb hby hd) hr
  · show Q _ T.heap
    rw [eT]; exact hQ
theorem OG.retN {z : Int32} {t : FieldType} (X : OS B mL own nm (some t) Z n0 p l e R s m args below meth c T h cells slots) (hd : decode B pc = .ok (.ireturn, 1)) (ht : t = .boolean ∨ t = .byte ∨ t = .char ∨ t = .short) (hc : cells ≤ rc) (hs : slots ≤ rs) (hQ : Q (some (.int (nar t z))) h) : OG p e below s n0 rc rs Q (T.setTop (mkF m pc Ls (.int z :: st))) := by
  obtain ⟨⟨hx, hby, -, -, -, hrt, hlk, -⟩, eT, locs, N, Y⟩ := X
  obtain ⟨fs, hr, hrun, hended, hW, hsame⟩ := Y.leave (v := (some (.int (nar t z)))) (fun q => by first | rfl | (rw [hrt] at q; cases q)) hlk
  refine ⟨_, _, ?_, hrun, hended, _, _, rfl, ⟨?_, N⟩, ⟨_, rfl⟩, hW, hsame.mono hc hs⟩
  · exact Jvm.RoadKit.retN Y hx (t := t) hrt ht (hb hby hd) hr
  · show Q _ T.heap
    rw [eT]; exact hQ
theorem OG.retJ {z : Int64} (X : OS B mL own nm (some .long) Z n0 p l e R s m args below meth c T h cells slots) (hd : decode B pc = .ok (.lreturn, 1))  (hc : cells ≤ rc) (hs : slots ≤ rs) (hQ : Q (some (.long z)) h) : OG p e below s n0 rc rs Q (T.setTop (mkF m pc Ls (.long z :: st))) := by
  obtain ⟨⟨hx, hby, -, -, -, hrt, hlk, -⟩, eT, locs, N, Y⟩ := X
  obtain ⟨fs, hr, hrun, hended, hW, hsame⟩ := Y.leave (v := (some (.long z))) (fun q => by first | rfl | (rw [hrt] at q; cases q)) hlk
  refine ⟨_, _, ?_, hrun, hended, _, _, rfl, ⟨?_, N⟩, ⟨_, rfl⟩, hW, hsame.mono hc hs⟩
  · exact Jvm.RoadKit.retOut (t := .long) Y hx hrt rfl (Or.inr (Or.inl ⟨rfl, rfl, _, rfl⟩)) (hb hby hd) hr
  · show Q _ T.heap
    rw [eT]; exact hQ
theorem OG.retA {w : Value} {t : FieldType} (X : OS B mL own nm (some t) Z n0 p l e R s m args below meth c T h cells slots) (hd : decode B pc = .ok (.areturn, 1)) (ht : t.isReference = true) (hw : w.isRef = true) (hc : cells ≤ rc) (hs : slots ≤ rs) (hQ : Q (some w) h) : OG p e below s n0 rc rs Q (T.setTop (mkF m pc Ls (w :: st))) := by
  obtain ⟨⟨hx, hby, -, -, -, hrt, hlk, -⟩, eT, locs, N, Y⟩ := X
  obtain ⟨fs, hr, hrun, hended, hW, hsame⟩ := Y.leave (v := (some w)) (fun q => by first | rfl | (rw [hrt] at q; cases q)) hlk
  refine ⟨_, _, ?_, hrun, hended, _, _, rfl, ⟨?_, N⟩, ⟨_, rfl⟩, hW, hsame.mono hc hs⟩
  · exact Jvm.RoadKit.retOut (t := t) Y hx hrt (by rcases ref_cases hw with rfl | ⟨z, rfl⟩ <;> cases t <;> rfl) (Or.inr (Or.inr (Or.inr (Or.inr ⟨rfl, ht, hw⟩)))) (hb hby hd) hr
  · show Q _ T.heap
    rw [eT]; exact hQ
theorem OG.retV  (X : OS B mL own nm none Z n0 p l e R s m args below meth c T h cells slots) (hd : decode B pc = .ok (.return_, 1))  (hc : cells ≤ rc) (hs : slots ≤ rs) (hQ : Q none h) : OG p e below s n0 rc rs Q (T.setTop (mkF m pc Ls [])) := by
  obtain ⟨⟨hx, hby, -, -, -, hrt, hlk, -⟩, eT, locs, N, Y⟩ := X
  obtain ⟨fs, hr, hrun, hended, hW, hsame⟩ := Y.leave (v := none) (fun q => by first | rfl | (rw [hrt] at q; cases q)) hlk
  refine ⟨_, _, ?_, hrun, hended, _, _, rfl, ⟨?_, N⟩, ⟨_, rfl⟩, hW, hsame.mono hc hs⟩
  · exact Y.returnOut hx hrt (hb hby hd) hr
  · show Q _ T.heap
    rw [eT]; exact hQ
theorem OG.ldcInt (X : OS B mL own nm rt Z n0 p l e R s m args below meth c T h cells slots) {index : Nat} {v : Int32} (w : (Cond.constant own index v).before a0 Z = true) (hd : decode B pc = .ok (.ldc index, 2)) (g : OG p e below s n0 rc rs Q (T.setTop (mkF m (pc + 2) Ls (.int v :: st)))) : OG p e below s n0 rc rs Q (T.setTop (mkF m pc Ls st)) := by
  obtain ⟨⟨hx, hby, -, hown, -, -, -, hZ⟩, -, locs, -, Y⟩ := X
  exact OG.pre (fun _ k => Y.ldcInt hx hown (mvT hZ w) (g := mkF m pc Ls st) rfl (hb hby hd) _ k) g
theorem OG.ldcwInt (X : OS B mL own nm rt Z n0 p l e R s m args below meth c T h cells slots) {index : Nat} {v : Int32} (w : (Cond.constant own index v).before a0 Z = true) (hd : decode B pc = .ok (.ldc_w index, 3)) (g : OG p e below s n0 rc rs Q (T.setTop (mkF m (pc + 3) Ls (.int v :: st)))) : OG p e below s n0 rc rs Q (T.setTop (mkF m pc Ls st)) := by
  obtain ⟨⟨hx, hby, -, hown, -, -, -, hZ⟩, -, locs, -, Y⟩ := X
  exact OG.pre (fun _ k => Y.ldcwInt hx hown (mvT hZ w) (g := mkF m pc Ls st) rfl (hb hby hd) _ k) g
theorem OG.ldc2Long (X : OS B mL own nm rt Z n0 p l e R s m args below meth c T h cells slots) {index : Nat} {v : Int64} (w : (Cond.constantLong own index v).before a0 Z = true) (hd : decode B pc = .ok (.ldc2_w index, 3)) (g : OG p e below s n0 rc rs Q (T.setTop (mkF m (pc + 3) Ls (.long v :: st)))) : OG p e below s n0 rc rs Q (T.setTop (mkF m pc Ls st)) := by
  obtain ⟨⟨hx, hby, -, hown, -, -, -, hZ⟩, -, locs, -, Y⟩ := X
  exact OG.pre (fun _ k => Y.ldc2Long hx hown (mvT hZ w) (g := mkF m pc Ls st) rfl (hb hby hd) _ k) g
theorem OG.getF (X : OS B mL own nm rt Z n0 p l e R s m args below meth c T h cells slots) {R0 O n d host : String} {index : Nat} (w : (Cond.fieldLink own index R0 n d).before a0 Z = true ∨ (Cond.fieldLinkNest own index R0 n d host).before a0 Z = true) (via : Via Z R0 O n d) {a : Addr} {v : Value} (F : Fld Z h a O n d v) (hd : decode B pc = .ok (.getfield index, 3)) (g : ∀ T', OS B mL own nm rt Z n0 p l e R s m args below meth c T' h cells slots → OG p e below s n0 rc rs Q (T'.setTop (mkF m (pc + 3) Ls (v :: st)))) : OG p e below s n0 rc rs Q (T.setTop (mkF m pc Ls (.ref a :: st))) := by
  obtain ⟨h0, eT, locs, N, Y⟩ := X
  have h0' := h0
  obtain ⟨hx, hby, -, hown, -, -, -, hZ⟩ := h0'
  obtain ⟨T', Y', e', stp⟩ := RoadKit.getF Y hx hZ hown w via eT F (g := mkF m pc Ls (.ref a :: st)) rfl rfl (hb hby hd)
  exact OG.pre stp (g T' ⟨h0, e', locs, N, Y'⟩)
theorem OG.getS (X : OS B mL own nm rt Z n0 p l e R s m args below meth c T h cells slots) {R0 O n d host : String} {index : Nat} (w : (Cond.fieldLink own index R0 n d).before a0 Z = true ∨ (Cond.fieldLinkNest own index R0 n d host).before a0 Z = true) (via : Via Z R0 O n d) {v : Value} (F : Sta Z h O n d v) (hd : decode B pc = .ok (.getstatic index, 3)) (g : ∀ T', OS B mL own nm rt Z n0 p l e R s m args below meth c T' h cells slots → OG p e below s n0 rc rs Q (T'.setTop (mkF m (pc + 3) Ls (v :: st)))) : OG p e below s n0 rc rs Q (T.setTop (mkF m pc Ls st)) := by
  obtain ⟨h0, eT, locs, N, Y⟩ := X
  have h0' := h0
  obtain ⟨hx, hby, -, hown, -, -, -, hZ⟩ := h0'
  obtain ⟨T', Y', e', stp⟩ := RoadKit.getS2 Y hx hZ hown w via eT F (g := mkF m pc Ls st) rfl (hb hby hd)
  exact OG.pre stp (g T' ⟨h0, e', locs, N, Y'⟩)
theorem OG.putF (X : OS B mL own nm rt Z n0 p l e R s m args below meth c T h cells slots) {R0 O n d host C : String} {index kk : Nat} {ty : FieldType} (w : (Cond.fieldLink own index R0 n d).before a0 Z = true ∨ (Cond.fieldLinkNest own index R0 n d host).before a0 Z = true) (via : Via Z R0 O n d) {a : Addr} {v old : Value} (F : Fld Z h a O n d old) (E : Exa Z h a C) (L : (Cond.lays C O n d).before a0 Z = true ∨ ((Cond.laysFinal C O n d).before a0 Z = true ∧ own = O ∧ nm = "<init>")) (wi : (Cond.instantiable C kk).before a0 Z = true) (hty : parseFieldDescriptor d = some ty) (hn : narrow ty v = v) (hf : fits ty v = true) (hd : decode B pc = .ok (.putfield index, 3)) (ge : n0 ≤ a) (g : ∀ T' h', OS B mL own nm rt Z n0 p l e R s m args below meth c T' h' cells slots → Wr h h' a (slotOf Z O n d) v → OG p e below s n0 rc rs Q (T'.setTop (mkF m (pc + 3) Ls st))) : OG p e below s n0 rc rs Q (T.setTop (mkF m pc Ls (v :: .ref a :: st))) := by
  obtain ⟨h0, eT, locs, N, Y⟩ := X
  have h0' := h0
  obtain ⟨hx, hby, -, hown, hnm, -, -, hZ⟩ := h0'
  obtain ⟨T', h', Y', e', W, stp⟩ := RoadKit.putF Y hx hZ hown w via eT F E (L.imp id fun q => ⟨q.1, q.2.1, hnm.trans q.2.2⟩) wi hty hn hf (g := mkF m pc Ls (v :: .ref a :: st)) rfl rfl (hb hby hd)
  exact OG.pre stp (g T' h' ⟨h0, e', _, Fr.snoc Y' N ge, Y'⟩ W)
theorem OG.putFN (X : OS B mL own nm rt Z n0 p l e R s m args below meth c T h cells slots) {R0 O n d C : String} {index kk : Nat} {ty : FieldType} (w : (Cond.fieldLink own index R0 n d).before a0 Z = true) (via : Via Z R0 O n d) {a : Addr} {v v' old : Value} (F : Fld Z h a O n d old) (E : Exa Z h a C) (L : (Cond.lays C O n d).before a0 Z = true ∨ ((Cond.laysFinal C O n d).before a0 Z = true ∧ own = O ∧ nm = "<init>")) (wi : (Cond.instantiable C kk).before a0 Z = true) (hty : parseFieldDescriptor d = some ty) (hn : narrow ty v = v') (hf : fits ty v' = true) (hd : decode B pc = .ok (.putfield index, 3)) (ge : n0 ≤ a) (g : ∀ T' h', OS B mL own nm rt Z n0 p l e R s m args below meth c T' h' cells slots → Wr h h' a (slotOf Z O n d) v' → OG p e below s n0 rc rs Q (T'.setTop (mkF m (pc + 3) Ls st))) : OG p e below s n0 rc rs Q (T.setTop (mkF m pc Ls (v :: .ref a :: st))) := by
  obtain ⟨h0, eT, locs, N, Y⟩ := X
  have h0' := h0
  obtain ⟨hx, hby, -, hown, hnm, -, -, hZ⟩ := h0'
  obtain ⟨T', h', Y', e', W, stp⟩ := RoadKit.putFN Y hx hZ hown w via eT F E (L.imp id fun q => ⟨q.1, q.2.1, hnm.trans q.2.2⟩) wi hty hn hf (g := mkF m pc Ls (v :: .ref a :: st)) rfl rfl (hb hby hd)
  exact OG.pre stp (g T' h' ⟨h0, e', _, Fr.snoc Y' N ge, Y'⟩ W)
theorem OG.newO (X : OS B mL own nm rt Z n0 p l e R s m args below meth c T h cells slots) {C : String} {index n : Nat} (w : (Cond.classLink own index C).before a0 Z = true) (wi : (Cond.instantiable C n).before a0 Z = true) (wz : (Cond.initialized C).before a0 Z = true) (hd : decode B pc = .ok (.new index, 3)) (hc : cells + 1 ≤ R.cells) (hl : slots + n ≤ R.slots) (g : ∀ T' h' a, a = h.size → OS B mL own nm rt Z n0 p l e R s m args below meth c T' h' (cells + 1) (slots + n) → Ext h h' → Exa Z h' a C → (∀ {O nm d : String} {ty : FieldType}, Laid Z a0 C O nm d → parseFieldDescriptor d = some ty → Fld Z h' a O nm d (defaultValue ty)) → OG p e below s n0 rc rs Q (T'.setTop (mkF m (pc + 3) Ls (.ref a :: st)))) : OG p e below s n0 rc rs Q (T.setTop (mkF m pc Ls st)) := by
  obtain ⟨h0, eT, locs, N, Y⟩ := X
  have h0' := h0
  obtain ⟨hx, hby, -, hown, hnm, -, -, hZ⟩ := h0'
  obtain ⟨T', h', Y', e', E', A', D', -, stp⟩ := RoadKit.newO Y hx hZ hown w wi wz eT (g := mkF m pc Ls st) rfl (hb hby hd) hc hl
  exact OG.pre stp (g T' h' _ rfl ⟨h0, e', _, N, Y'⟩ E' A' D')
theorem OG.newP (X : OS B mL own nm rt Z n0 p l e R s m args below meth c T h cells slots) {aty : ArrayType} (w : (Cond.arrayClass (newarray.typeOf aty)).before a0 Z = true) {n : Int32} (hd : decode B pc = .ok (.newarray aty, 2)) (hn : ¬ n < 0) {cap : Nat} (hcap : n.toNatClampNeg ≤ cap) (hb8 : cap * 8 ≤ 536870912) (hc : cells + 1 ≤ R.cells) (hl : slots + cap ≤ R.slots) (g : ∀ T' h' a, a = h.size → OS B mL own nm rt Z n0 p l e R s m args below meth c T' h' (cells + 1) (slots + cap) → Ext h h' → (∃ cA, Arr Z h' a (newA cA (newarray.typeOf aty) n) (newarray.typeOf aty)) → OG p e below s n0 rc rs Q (T'.setTop (mkF m (pc + 2) Ls (.ref a :: st)))) : OG p e below s n0 rc rs Q (T.setTop (mkF m pc Ls (.int n :: st))) := by
  obtain ⟨h0, eT, locs, N, Y⟩ := X
  have h0' := h0
  obtain ⟨hx, hby, -, hown, hnm, -, -, hZ⟩ := h0'
  obtain ⟨T', h', cA, Y', e', E', A', stp⟩ := RoadKit.newP Y hx hZ w eT (g := mkF m pc Ls (.int n :: st)) rfl (hb hby hd) rfl hn hcap hb8 hc hl
  exact OG.pre stp (g T' h' _ rfl ⟨h0, e', _, N, Y'⟩ E' ⟨cA, A'⟩)
/-- an array of ints, bytes, chars, booleans: its length and what it holds -/
def Ia (Z : State) (h : Heap) (a : Addr) (ty : FieldType) (n : Nat) (f : Nat → Int32) : Prop := ∃ cl : Cell, Arr Z h a cl ty ∧ cl.slots.size = n ∧ n < 2 ^ 31 ∧ ∀ i, i < n → cl.slots[i]? = some (.int (f i))
variable {a b : Addr} {h' : Heap} {ty : FieldType} {n : Nat} {f : Nat → Int32} {sl : Nat} {v : Value} {wl : List Addr}
theorem Ia.lt (F : Ia Z h a ty n f) : a < h.size := by obtain ⟨c, A, -⟩ := F; exact A.lt
theorem Ia.ext (F : Ia Z h a ty n f) (E : Ext h h') : Ia Z h' a ty n f := by obtain ⟨c, A, r⟩ := F; exact ⟨c, A.ext E, r⟩
theorem Ia.other (F : Ia Z h b ty n f) (W : Wr h h' a sl v) (q : b ≠ a) : Ia Z h' b ty n f := by obtain ⟨c, A, r⟩ := F; exact ⟨c, A.other W q, r⟩
theorem Ia.keep (F : Ia Z h a ty n f) (K : Keep h h' wl) (q : a ∉ wl) : Ia Z h' a ty n f := by obtain ⟨c, A, r⟩ := F; exact ⟨c, ⟨K.2.1 a c A.1 q, A.2⟩, r⟩
theorem Ia.congr {f' : Nat → Int32} (F : Ia Z h a ty n f) (q : ∀ i, i < n → f i = f' i) : Ia Z h a ty n f' := by obtain ⟨c, A, r1, r2, r3⟩ := F; exact ⟨c, A, r1, r2, fun i hi => by rw [← q i hi]; exact r3 i hi⟩
theorem Ia.len (F : Ia Z h a ty n f) : n < 2 ^ 31 := by obtain ⟨c, A, r1, r2, r3⟩ := F; exact r2
theorem Ia.new {cA : ClassId} {k : Int32} (A : Arr Z h a (newA cA ty k) ty) (q : ¬ k < 0) (hk : k.toNatClampNeg = n) (hty : defaultValue ty = .int 0) : Ia Z h a ty n (fun _ => 0) := by
  subst hk
  refine ⟨_, A, sz_new _ _ _, ?_, fun i hi => ?_⟩
  · have := k.toInt_lt; simp only [Int32.toNatClampNeg]; omega
  · simp [newA, hi, hty]
theorem Ia.set {j : Nat} {x : Int32} (F : Ia Z h a ty n f) (W : Wr h h' a j (.int x)) : Ia Z h' a ty n (fun i => if i = j then x else f i) := by
  obtain ⟨c, A, r1, r2, r3⟩ := F
  refine ⟨_, A.same W, by rw [sz_set]; exact r1, r2, fun i hi => ?_⟩
  by_cases q : i = j
  · subst q; simp [Cell.setSlot, r1, hi]
  · have := r3 i hi
    simp only [Cell.setSlot, if_neg q]
    rw [Array.getElem?_setIfInBounds_ne (fun u => q u.symm)]; exact this
theorem idx32 {j : Int32} {n : Nat} (h1 : 0 ≤ j.toInt) (h2 : j.toInt < n) : ¬ (j < 0 ∨ n ≤ j.toNatClampNeg) := by
  have e0 : (0 : Int32).toInt = 0 := rfl
  simp only [Int32.lt_iff_toInt_lt, Int32.toNatClampNeg, e0]; omega
theorem len32 {n : Nat} (h : n < 2 ^ 31) : n.toInt32.toInt = n := Int32.toInt_ofNat_small h
theorem OG.iaload (X : OS B mL own nm rt Z n0 p l e R s m args below meth c T h cells slots) {a : Addr} {n : Nat} {f : Nat → Int32} (F : Ia Z h a .int n f) {j : Int32} (hj : 0 ≤ j.toInt ∧ j.toInt < n) (hd : decode B pc = .ok (.iaload, 1)) (g : OG p e below s n0 rc rs Q (T.setTop (mkF m (pc + 1) Ls (.int (f j.toInt.toNat) :: st)))) : OG p e below s n0 rc rs Q (T.setTop (mkF m pc Ls (.int j :: .ref a :: st))) := by
  obtain ⟨⟨hx, hby, -, -, -, -, -, hZ⟩, eT, locs, -, Y⟩ := X
  obtain ⟨cl, A, r1, r2, r3⟩ := F
  have hi := idx32 hj.1 hj.2
  have hq : j.toInt.toNat < n := by omega
  exact OG.pre (fun _ k => Y.iaload hx (j := j) (v := .int (f j.toInt.toNat)) (by rw [eT]; exact A.1) (State.isArrayOf_alike hZ.alike A.2.1) A.2.2 (by rw [r1]; exact hi) (r3 _ hq) (g := mkF m pc Ls (.int j :: .ref a :: st)) rfl rfl (hb hby hd) _ k) g
theorem OG.baload (X : OS B mL own nm rt Z n0 p l e R s m args below meth c T h cells slots) {a : Addr} {n : Nat} {f : Nat → Int32} (F : Ia Z h a .byte n f) {j : Int32} (hj : 0 ≤ j.toInt ∧ j.toInt < n) (hd : decode B pc = .ok (.baload, 1)) (g : OG p e below s n0 rc rs Q (T.setTop (mkF m (pc + 1) Ls (.int (f j.toInt.toNat) :: st)))) : OG p e below s n0 rc rs Q (T.setTop (mkF m pc Ls (.int j :: .ref a :: st))) := by
  obtain ⟨⟨hx, hby, -, -, -, -, -, hZ⟩, eT, locs, -, Y⟩ := X
  obtain ⟨cl, A, r1, r2, r3⟩ := F
  have hi := idx32 hj.1 hj.2
  have hq : j.toInt.toNat < n := by omega
  exact OG.pre (fun _ k => Y.baloadBytes hx (j := j) (v := .int (f j.toInt.toNat)) (by rw [eT]; exact A.1) (State.isArrayOf_alike hZ.alike A.2.1) A.2.2 (by rw [r1]; exact hi) (r3 _ hq) (g := mkF m pc Ls (.int j :: .ref a :: st)) rfl rfl (hb hby hd) _ k) g
theorem OG.zaload (X : OS B mL own nm rt Z n0 p l e R s m args below meth c T h cells slots) {a : Addr} {n : Nat} {f : Nat → Int32} (F : Ia Z h a .boolean n f) {j : Int32} (hj : 0 ≤ j.toInt ∧ j.toInt < n) (hd : decode B pc = .ok (.baload, 1)) (g : OG p e below s n0 rc rs Q (T.setTop (mkF m (pc + 1) Ls (.int (f j.toInt.toNat) :: st)))) : OG p e below s n0 rc rs Q (T.setTop (mkF m pc Ls (.int j :: .ref a :: st))) := by
  obtain ⟨⟨hx, hby, -, -, -, -, -, hZ⟩, eT, locs, -, Y⟩ := X
  obtain ⟨cl, A, r1, r2, r3⟩ := F
  have hi := idx32 hj.1 hj.2
  have hq : j.toInt.toNat < n := by omega
  exact OG.pre (fun _ k => Y.baloadBooleans hx (j := j) (v := .int (f j.toInt.toNat)) (by rw [eT]; exact A.1) (State.isArrayOf_alike hZ.alike A.2.1) A.2.2 (by rw [r1]; exact hi) (r3 _ hq) (g := mkF m pc Ls (.int j :: .ref a :: st)) rfl rfl (hb hby hd) _ k) g
theorem OG.caload (X : OS B mL own nm rt Z n0 p l e R s m args below meth c T h cells slots) {a : Addr} {n : Nat} {f : Nat → Int32} (F : Ia Z h a .char n f) {j : Int32} (hj : 0 ≤ j.toInt ∧ j.toInt < n) (hd : decode B pc = .ok (.caload, 1)) (g : OG p e below s n0 rc rs Q (T.setTop (mkF m (pc + 1) Ls (.int (f j.toInt.toNat) :: st)))) : OG p e below s n0 rc rs Q (T.setTop (mkF m pc Ls (.int j :: .ref a :: st))) := by
  obtain ⟨⟨hx, hby, -, -, -, -, -, hZ⟩, eT, locs, -, Y⟩ := X
  obtain ⟨cl, A, r1, r2, r3⟩ := F
  have hi := idx32 hj.1 hj.2
  have hq : j.toInt.toNat < n := by omega
  exact OG.pre (fun _ k => Y.caload hx (j := j) (v := .int (f j.toInt.toNat)) (by rw [eT]; exact A.1) (State.isArrayOf_alike hZ.alike A.2.1) A.2.2 (by rw [r1]; exact hi) (r3 _ hq) (g := mkF m pc Ls (.int j :: .ref a :: st)) rfl rfl (hb hby hd) _ k) g
theorem OG.saload (X : OS B mL own nm rt Z n0 p l e R s m args below meth c T h cells slots) {a : Addr} {n : Nat} {f : Nat → Int32} (F : Ia Z h a .short n f) {j : Int32} (hj : 0 ≤ j.toInt ∧ j.toInt < n) (hd : decode B pc = .ok (.saload, 1)) (g : OG p e below s n0 rc rs Q (T.setTop (mkF m (pc + 1) Ls (.int (f j.toInt.toNat) :: st)))) : OG p e below s n0 rc rs Q (T.setTop (mkF m pc Ls (.int j :: .ref a :: st))) := by
  obtain ⟨⟨hx, hby, -, -, -, -, -, hZ⟩, eT, locs, -, Y⟩ := X
  obtain ⟨cl, A, r1, r2, r3⟩ := F
  have hi := idx32 hj.1 hj.2
  have hq : j.toInt.toNat < n := by omega
  exact OG.pre (fun _ k => Y.saload hx (j := j) (v := .int (f j.toInt.toNat)) (by rw [eT]; exact A.1) (State.isArrayOf_alike hZ.alike A.2.1) A.2.2 (by rw [r1]; exact hi) (r3 _ hq) (g := mkF m pc Ls (.int j :: .ref a :: st)) rfl rfl (hb hby hd) _ k) g
theorem OG.arraylength (X : OS B mL own nm rt Z n0 p l e R s m args below meth c T h cells slots) {a : Addr} {ty : FieldType} {n : Nat} {f : Nat → Int32} (F : Ia Z h a ty n f) {z : Int32} (hz : z.toInt = n) (hd : decode B pc = .ok (.arraylength, 1)) (g : OG p e below s n0 rc rs Q (T.setTop (mkF m (pc + 1) Ls (.int z :: st)))) : OG p e below s n0 rc rs Q (T.setTop (mkF m pc Ls (.ref a :: st))) := by
  obtain ⟨⟨hx, hby, -, -, -, -, -, hZ⟩, eT, locs, -, Y⟩ := X
  obtain ⟨cl, A, r1, r2, r3⟩ := F
  have ez : cl.slots.size.toInt32 = z := by rw [← Int32.toInt_inj, r1, len32 r2, hz]
  exact OG.pre (fun _ k => Y.arraylength hx (by rw [eT]; exact A.1) (State.isArrayOf_alike hZ.alike A.2.1) (g := mkF m pc Ls (.ref a :: st)) rfl rfl (hb hby hd) _ (by rw [ez]; exact k)) g
theorem OG.iastore (X : OS B mL own nm rt Z n0 p l e R s m args below meth c T h cells slots) {a : Addr} {n : Nat} {f : Nat → Int32} (F : Ia Z h a .int n f) {j x : Int32} (hj : 0 ≤ j.toInt ∧ j.toInt < n) (hd : decode B pc = .ok (.iastore, 1)) (ge : n0 ≤ a) (g : ∀ T' h', OS B mL own nm rt Z n0 p l e R s m args below meth c T' h' cells slots → Wr h h' a j.toInt.toNat (.int (x)) → Ia Z h' a .int n (fun i => if i = j.toInt.toNat then x else f i) → OG p e below s n0 rc rs Q (T'.setTop (mkF m (pc + 1) Ls st))) : OG p e below s n0 rc rs Q (T.setTop (mkF m pc Ls (.int x :: .int j :: .ref a :: st))) := by
  obtain ⟨h0, eT, locs, N, Y⟩ := X
  have h0' := h0
  obtain ⟨hx, hby, -, hown, hnm, -, -, hZ⟩ := h0'
  have F' := F
  obtain ⟨cl, A, r1, r2, r3⟩ := F'
  obtain ⟨T', h', Y', e', W, stp⟩ := RoadKit.stI Y hx hZ eT A (j := j) (by rw [r1]; exact idx32 hj.1 hj.2) (g := mkF m pc Ls (.int x :: .int j :: .ref a :: st)) rfl rfl (hb hby hd)
  exact OG.pre stp (g T' h' ⟨h0, e', _, Fr.snoc Y' N ge, Y'⟩ W (F.set W))
theorem OG.bastore (X : OS B mL own nm rt Z n0 p l e R s m args below meth c T h cells slots) {a : Addr} {n : Nat} {f : Nat → Int32} (F : Ia Z h a .byte n f) {j x : Int32} (hj : 0 ≤ j.toInt ∧ j.toInt < n) (hd : decode B pc = .ok (.bastore, 1)) (ge : n0 ≤ a) (g : ∀ T' h', OS B mL own nm rt Z n0 p l e R s m args below meth c T' h' cells slots → Wr h h' a j.toInt.toNat (.int (x.toInt8.toInt32)) → Ia Z h' a .byte n (fun i => if i = j.toInt.toNat then x.toInt8.toInt32 else f i) → OG p e below s n0 rc rs Q (T'.setTop (mkF m (pc + 1) Ls st))) : OG p e below s n0 rc rs Q (T.setTop (mkF m pc Ls (.int x :: .int j :: .ref a :: st))) := by
  obtain ⟨h0, eT, locs, N, Y⟩ := X
  have h0' := h0
  obtain ⟨hx, hby, -, hown, hnm, -, -, hZ⟩ := h0'
  have F' := F
  obtain ⟨cl, A, r1, r2, r3⟩ := F'
  obtain ⟨T', h', Y', e', W, stp⟩ := RoadKit.stB Y hx hZ eT A (j := j) (by rw [r1]; exact idx32 hj.1 hj.2) (g := mkF m pc Ls (.int x :: .int j :: .ref a :: st)) rfl rfl (hb hby hd)
  exact OG.pre stp (g T' h' ⟨h0, e', _, Fr.snoc Y' N ge, Y'⟩ W (F.set W))
theorem OG.castore (X : OS B mL own nm rt Z n0 p l e R s m args below meth c T h cells slots) {a : Addr} {n : Nat} {f : Nat → Int32} (F : Ia Z h a .char n f) {j x : Int32} (hj : 0 ≤ j.toInt ∧ j.toInt < n) (hd : decode B pc = .ok (.castore, 1)) (ge : n0 ≤ a) (g : ∀ T' h', OS B mL own nm rt Z n0 p l e R s m args below meth c T' h' cells slots → Wr h h' a j.toInt.toNat (.int (x.toUInt32.toUInt16.toUInt32.toInt32)) → Ia Z h' a .char n (fun i => if i = j.toInt.toNat then x.toUInt32.toUInt16.toUInt32.toInt32 else f i) → OG p e below s n0 rc rs Q (T'.setTop (mkF m (pc + 1) Ls st))) : OG p e below s n0 rc rs Q (T.setTop (mkF m pc Ls (.int x :: .int j :: .ref a :: st))) := by
  obtain ⟨h0, eT, locs, N, Y⟩ := X
  have h0' := h0
  obtain ⟨hx, hby, -, hown, hnm, -, -, hZ⟩ := h0'
  have F' := F
  obtain ⟨cl, A, r1, r2, r3⟩ := F'
  obtain ⟨T', h', Y', e', W, stp⟩ := RoadKit.stC Y hx hZ eT A (j := j) (by rw [r1]; exact idx32 hj.1 hj.2) (g := mkF m pc Ls (.int x :: .int j :: .ref a :: st)) rfl rfl (hb hby hd)
  exact OG.pre stp (g T' h' ⟨h0, e', _, Fr.snoc Y' N ge, Y'⟩ W (F.set W))
theorem OG.zastore (X : OS B mL own nm rt Z n0 p l e R s m args below meth c T h cells slots) {a : Addr} {n : Nat} {f : Nat → Int32} (F : Ia Z h a .boolean n f) {j x : Int32} (hj : 0 ≤ j.toInt ∧ j.toInt < n) (hd : decode B pc = .ok (.bastore, 1)) (ge : n0 ≤ a) (g : ∀ T' h', OS B mL own nm rt Z n0 p l e R s m args below meth c T' h' cells slots → Wr h h' a j.toInt.toNat (.int (x &&& 1)) → Ia Z h' a .boolean n (fun i => if i = j.toInt.toNat then x &&& 1 else f i) → OG p e below s n0 rc rs Q (T'.setTop (mkF m (pc + 1) Ls st))) : OG p e below s n0 rc rs Q (T.setTop (mkF m pc Ls (.int x :: .int j :: .ref a :: st))) := by
  obtain ⟨h0, eT, locs, N, Y⟩ := X
  have h0' := h0
  obtain ⟨hx, hby, -, hown, hnm, -, -, hZ⟩ := h0'
  have F' := F
  obtain ⟨cl, A, r1, r2, r3⟩ := F'
  obtain ⟨T', h', Y', e', W, stp⟩ := RoadKit.stZ Y hx hZ eT A (j := j) (by rw [r1]; exact idx32 hj.1 hj.2) (g := mkF m pc Ls (.int x :: .int j :: .ref a :: st)) rfl rfl (hb hby hd)
  exact OG.pre stp (g T' h' ⟨h0, e', _, Fr.snoc Y' N ge, Y'⟩ W (F.set W))
theorem OG.callS (X : OS B mL own nm rt Z n0 p l e R s m args below meth c T h cells slots) {y : MethodName} {index : Nat} {Bc : ByteArray} {mc : Nat} {rtc : Option FieldType} {rmc : Room} {asc : Array Value} {Qc : Option Value → Heap → Prop} (w1 : (Cond.methodLink own index y).before a0 Z = true) (w2 : (Cond.static y).before a0 Z = true) (hy : y.cls ≠ "java/lang/invoke/MethodHandle" ∧ y.cls ≠ "java/lang/invoke/VarHandle") (hM : OM l y Bc mc rtc rmc [] Z asc h n0 Qc) (wc : (Cond.code y Bc mc rtc).before a0 Z = true) (wz : (Cond.initialized y.cls).before a0 Z = true) (hfr : rmc.frames + 1 ≤ R.frames) {W : Nat} (hlo : W + (mc + 11) + rmc.locals ≤ R.locals) (hsz : Ls.size = mL) {argsL : List Value} {ps : List FieldType} {rr : Option FieldType} (hpd : parseMethodDescriptor y.desc = some ⟨ps, rr⟩) (hlen : argsL.length = ps.length) (hd : decode B pc = .ok (.invokestatic index, 3)) (has : argsL.toArray = asc) (hW : (st.map fun v => v.category).sum ≤ W) (hcl : cells + rmc.cells ≤ R.cells) (hsl : slots + rmc.slots ≤ R.slots) (g : ∀ v T' h', OS B mL own nm rt Z n0 p l e R s m args below meth c T' h' (cells + rmc.cells) (slots + rmc.slots) → Qc v h' → OG p e below s n0 rc rs Q (T'.setTop (mkF m (pc + 3) Ls (v.toList ++ st)))) : OG p e below s n0 rc rs Q (T.setTop (mkF m pc Ls (argsL.reverse ++ st))) := by
  obtain ⟨h0, eT, locs, N, Y⟩ := X
  have h0' := h0
  obtain ⟨hx, hby, hml, hown, hnm, -, -, hZ⟩ := h0'
  obtain ⟨_, _, ⟨T', L', k', n'⟩, -, Y', ⟨Lc, hQ, q2, q3, q4⟩, stp⟩ := Jvm.LawKit.callS Y hx (y := y) hown (mvT hZ w1) (mvT hZ w2) (mvT hZ wz) (mvT hZ wc) hy (backOf (W := W) (Z := Z) (h := h) (rm := rmc) (as' := asc) (Q := fun v hh L => Qc v hh ∧ Fr n0 L) hM hZ wc wz hfr hlo) (g := mkF m pc Ls (argsL.reverse ++ st)) rfl (by rw [hml]; exact hsz) (argsL := argsL) (rest := st) (lenOf hpd hlen) rfl (by show 2 * 0 + _ ≤ _; omega) (hb hby hd) (fun _ _ => ⟨has, eT, hcl, hsl⟩)
  dsimp only [Pt.U, Pt.locs, Pt.cells, Pt.slots] at Y' q2 q3 q4 stp hQ
  subst q2 q3 q4
  exact OG.pre stp (g _ T' _ ⟨h0, rfl, _, Fr.app N hQ.2, Y'⟩ hQ.1)

theorem OG.callC (X : OS B mL own nm rt Z n0 p l e R s m args below meth c T h cells slots) {y : MethodName} {index : Nat} {Bc : ByteArray} {mc : Nat} {rmc : Room} {asc : Array Value} {Qc : Option Value → Heap → Prop} (hy1 : y.name = "<init>") (w1 : (Cond.methodLink own index y).before a0 Z = true) (w2 : (Cond.instanceMethod y).before a0 Z = true) (hy : y.cls ≠ "java/lang/invoke/MethodHandle" ∧ y.cls ≠ "java/lang/invoke/VarHandle") {a : Addr} (hM : OM l y Bc mc none rmc [] Z asc h n0 Qc) (wc : (Cond.code y Bc mc none).before a0 Z = true) (wz : (Cond.initialized y.cls).before a0 Z = true) (hfr : rmc.frames + 1 ≤ R.frames) {W : Nat} (hlo : W + (mc + 11) + rmc.locals ≤ R.locals) (hsz : Ls.size = mL) {argsL : List Value} {ps : List FieldType} {rr : Option FieldType} (hpd : parseMethodDescriptor y.desc = some ⟨ps, rr⟩) (hlen : argsL.length = ps.length) (hd : decode B pc = .ok (.invokespecial index, 3)) (has : (Value.ref a :: argsL).toArray = asc) (hW : (st.map fun v => v.category).sum ≤ W) (hcl : cells + rmc.cells ≤ R.cells) (hsl : slots + rmc.slots ≤ R.slots) (g : ∀ v T' h', OS B mL own nm rt Z n0 p l e R s m args below meth c T' h' (cells + rmc.cells) (slots + rmc.slots) → Qc v h' → OG p e below s n0 rc rs Q (T'.setTop (mkF m (pc + 3) Ls (v.toList ++ st)))) : OG p e below s n0 rc rs Q (T.setTop (mkF m pc Ls (argsL.reverse ++ .ref a :: st))) := by
  obtain ⟨h0, eT, locs, N, Y⟩ := X
  have h0' := h0
  obtain ⟨hx, hby, hml, hown, hnm, -, -, hZ⟩ := h0'
  obtain ⟨_, _, ⟨T', L', k', n'⟩, -, Y', ⟨Lc, hQ, q2, q3, q4⟩, stp⟩ := Y.specialBack hx (y := y) hy1 hown (mvT hZ w1) (mvT hZ w2) (mvT hZ wc) hy (backOf (W := W) (Z := Z) (h := h) (rm := rmc) (as' := asc) (Q := fun v hh L => Qc v hh ∧ Fr n0 L) hM hZ wc wz hfr hlo) (g := mkF m pc Ls (argsL.reverse ++ .ref a :: st)) rfl (by rw [hml]; exact hsz) (Steps.refl _) (a := a) (argsL := argsL) (rest := st) (lenOf hpd hlen) rfl (by show 2 * 0 + _ ≤ _; omega) (hb hby hd) (fun _ _ => ⟨has, eT, hcl, hsl⟩)
  dsimp only [Pt.U, Pt.locs, Pt.cells, Pt.slots] at Y' q2 q3 q4 stp hQ
  subst q2 q3 q4
  exact OG.pre (fun _ k => stp.trans k) (g _ T' _ ⟨h0, rfl, _, Fr.app N hQ.2, Y'⟩ hQ.1)

theorem OG.callV (X : OS B mL own nm rt Z n0 p l e R s m args below meth c T h cells slots) {y : MethodName} {index : Nat} {Bc : ByteArray} {mc : Nat} {rtc : Option FieldType} {rmc : Room} {asc : Array Value} {Qc : Option Value → Heap → Prop} {z : MethodName} {C : String} (w1 : (Cond.methodLink own index y).before a0 Z = true) (w2 : (Cond.declares y).before a0 Z = true) (w3 : NotFace s y) (w4 : (Cond.selects C y z).before a0 Z = true) (w5 : (Cond.instanceMethod z).before a0 Z = true) (hy : y.cls ≠ "java/lang/invoke/MethodHandle" ∧ y.cls ≠ "java/lang/invoke/VarHandle") {a : Addr} (E : Exa Z h a C) (hM : OM l z Bc mc rtc rmc [] Z asc h n0 Qc) (wc : (Cond.code z Bc mc rtc).before a0 Z = true) (wz : (Cond.initialized z.cls).before a0 Z = true) (hfr : rmc.frames + 1 ≤ R.frames) {W : Nat} (hlo : W + (mc + 11) + rmc.locals ≤ R.locals) (hsz : Ls.size = mL) {argsL : List Value} {ps : List FieldType} {rr : Option FieldType} (hpd : parseMethodDescriptor y.desc = some ⟨ps, rr⟩) (hlen : argsL.length = ps.length) (hd : decode B pc = .ok (.invokevirtual index, 3)) (has : (Value.ref a :: argsL).toArray = asc) (hW : (st.map fun v => v.category).sum ≤ W) (hcl : cells + rmc.cells ≤ R.cells) (hsl : slots + rmc.slots ≤ R.slots) (g : ∀ v T' h', OS B mL own nm rt Z n0 p l e R s m args below meth c T' h' (cells + rmc.cells) (slots + rmc.slots) → Qc v h' → OG p e below s n0 rc rs Q (T'.setTop (mkF m (pc + 3) Ls (v.toList ++ st)))) : OG p e below s n0 rc rs Q (T.setTop (mkF m pc Ls (argsL.reverse ++ .ref a :: st))) := by
  obtain ⟨h0, eT, locs, N, Y⟩ := X
  have h0' := h0
  obtain ⟨hx, hby, hml, hown, hnm, -, -, hZ⟩ := h0'
  obtain ⟨cq, kq, qa, qb, qc⟩ := isOf hZ eT E
  obtain ⟨_, _, ⟨T', L', k', n'⟩, -, Y', ⟨Lc, hQ, q2, q3, q4⟩, stp⟩ := Y.virtualBack hx (y := y) (z := z) hown (mvT hZ w1) (mvT hZ w2) w3 (mvT hZ w4) (mvT hZ w5) hy (backOf (W := W) (Z := Z) (h := h) (rm := rmc) (as' := asc) (Q := fun v hh L => Qc v hh ∧ Fr n0 L) hM hZ wc wz hfr hlo) qa qc (g := mkF m pc Ls (argsL.reverse ++ .ref a :: st)) rfl (by rw [hml]; exact hsz) (Steps.refl _) (argsL := argsL) (rest := st) (lenOf hpd hlen) rfl (by show 2 * 0 + _ ≤ _; omega) (hb hby hd) (fun _ _ => ⟨has, eT, hcl, hsl⟩)
  dsimp only [Pt.U, Pt.locs, Pt.cells, Pt.slots] at Y' q2 q3 q4 stp hQ
  subst q2 q3 q4
  exact OG.pre (fun _ k => stp.trans k) (g _ T' _ ⟨h0, rfl, _, Fr.app N hQ.2, Y'⟩ hQ.1)

theorem selP {y y' : MethodName} {args : Array Value} {s : State} (hc : y'.cls = y.cls) (w : (Cond.selects y'.cls y' y').before args s = true) (hp : s.PrivateAt y) (hi : (Cond.instanceMethod y).before args s = true) (hy : y.cls ≠ "java/lang/invoke/MethodHandle" ∧ y.cls ≠ "java/lang/invoke/VarHandle") : (Cond.selects y.cls y y).before args s = true := by
  obtain ⟨c2, r2, m2, q1, q2, q3, q4, kP, hkP, hkPi⟩ := Cond.selects_spec w
  exact selects_self_of_private (c := m2.cls) (by rw [← hc]; exact findClass_of_methodNamed q3) hkP hkPi hp hi hy
theorem OG.callP (X : OS B mL own nm rt Z n0 p l e R s m args below meth c T h cells slots) {y : MethodName} {index : Nat} {Bc : ByteArray} {mc : Nat} {rtc : Option FieldType} {rmc : Room} {asc : Array Value} {Qc : Option Value → Heap → Prop} {y' : MethodName} (w1 : (Cond.methodLink own index y).before a0 Z = true) (w2 : (Cond.instanceMethod y).before a0 Z = true) (hc' : y'.cls = y.cls) (w3 : (Cond.selects y'.cls y' y').before a0 Z = true) (w4 : (Cond.privateMethod y).before a0 Z = true) (hy : y.cls ≠ "java/lang/invoke/MethodHandle" ∧ y.cls ≠ "java/lang/invoke/VarHandle") {C : String} {a : Addr} (E : Exa Z h a C) (hM : OM l y Bc mc rtc rmc [] Z asc h n0 Qc) (wc : (Cond.code y Bc mc rtc).before a0 Z = true) (wz : (Cond.initialized y.cls).before a0 Z = true) (hfr : rmc.frames + 1 ≤ R.frames) {W : Nat} (hlo : W + (mc + 11) + rmc.locals ≤ R.locals) (hsz : Ls.size = mL) {argsL : List Value} {ps : List FieldType} {rr : Option FieldType} (hpd : parseMethodDescriptor y.desc = some ⟨ps, rr⟩) (hlen : argsL.length = ps.length) (hd : decode B pc = .ok (.invokevirtual index, 3)) (has : (Value.ref a :: argsL).toArray = asc) (hW : (st.map fun v => v.category).sum ≤ W) (hcl : cells + rmc.cells ≤ R.cells) (hsl : slots + rmc.slots ≤ R.slots) (g : ∀ v T' h', OS B mL own nm rt Z n0 p l e R s m args below meth c T' h' (cells + rmc.cells) (slots + rmc.slots) → Qc v h' → OG p e below s n0 rc rs Q (T'.setTop (mkF m (pc + 3) Ls (v.toList ++ st)))) : OG p e below s n0 rc rs Q (T.setTop (mkF m pc Ls (argsL.reverse ++ .ref a :: st))) := by
  obtain ⟨h0, eT, locs, N, Y⟩ := X
  have h0' := h0
  obtain ⟨hx, hby, hml, hown, hnm, -, -, hZ⟩ := h0'
  obtain ⟨cq, qa, qb⟩ := E.cell
  have hpr : s.PrivateAt y := Cond.privateMethod_at (mvP hZ w4 (args := #[]))
  obtain ⟨_, _, ⟨T', L', k', n'⟩, -, Y', ⟨Lc, hQ, q2, q3, q4⟩, stp⟩ := Y.privateBack hx (y := y) hown (mvT hZ w1) (mvT hZ w2) (selP hc' (mvT hZ w3) hpr (mvT hZ w2) hy) hpr (mvT hZ wc) hy (backOf (W := W) (Z := Z) (h := h) (rm := rmc) (as' := asc) (Q := fun v hh L => Qc v hh ∧ Fr n0 L) hM hZ wc wz hfr hlo) (g := mkF m pc Ls (argsL.reverse ++ .ref a :: st)) rfl (by rw [hml]; exact hsz) (Steps.refl _) (a := a) (by rw [eT]; exact qa) qb (argsL := argsL) (rest := st) (lenOf hpd hlen) rfl (by show 2 * 0 + _ ≤ _; omega) (hb hby hd) (fun _ _ => ⟨has, eT, hcl, hsl⟩)
  dsimp only [Pt.U, Pt.locs, Pt.cells, Pt.slots] at Y' q2 q3 q4 stp hQ
  subst q2 q3 q4
  exact OG.pre (fun _ k => stp.trans k) (g _ T' _ ⟨h0, rfl, _, Fr.app N hQ.2, Y'⟩ hQ.1)

theorem OG.initO (X : OS B mL own nm rt Z n0 p l e R s m args below meth c T h cells slots) {index : Nat} (w1 : (Cond.methodLink own index Lib.objectInit).before a0 Z = true) (w2 : (Cond.instanceMethod Lib.objectInit).before a0 Z = true) (w3 : (Cond.code Lib.objectInit ⟨#[0xb1]⟩ 1 none).before a0 Z = true) {a : Addr} (hd : decode B pc = .ok (.invokespecial index, 3)) (hsz : Ls.size = mL) (hf : 1 ≤ R.frames) {W : Nat} (hW : (st.map fun v => v.category).sum ≤ W) (hlo : W + 12 ≤ R.locals) (g : ∀ T', OS B mL own nm rt Z n0 p l e R s m args below meth c T' h cells slots → OG p e below s n0 rc rs Q (T'.setTop (mkF m (pc + 3) Ls st))) : OG p e below s n0 rc rs Q (T.setTop (mkF m pc Ls (.ref a :: st))) := by
  obtain ⟨h0, eT, locs, N, Y⟩ := X
  have h0' := h0
  obtain ⟨hx, hby, hml, hown, hnm, -, -, hZ⟩ := h0'
  obtain ⟨T', Y', e', stp⟩ := RoadKit.initO Y hx hZ hown w1 w2 w3 eT (g := mkF m pc Ls (.ref a :: st)) rfl (by rw [hml]; exact hsz) rfl (hb hby hd) hf (W := W) (by show 2 * 0 + _ ≤ _; omega) hlo
  exact OG.pre stp (g T' ⟨h0, e', _, N, Y'⟩)
theorem Ia.toArv (F : Ia Z h a .int n f) {z : Int32} (hz : z.toInt = n) : ∃ k, Arv Z h a k .int z ((List.range n).map fun i => .int (f i)) (.int 0) := by
  obtain ⟨c, A, r1, r2, r3⟩ := F
  refine ⟨c.cls, c, A, rfl, ?_, ?_, ?_, ?_⟩
  · rw [r1]; simp only [Int32.toNatClampNeg]; omega
  · rw [Int32.lt_iff_toInt_lt]; have : (0 : Int32).toInt = 0 := rfl
    omega
  · intro i hi; rw [r1] at hi; rw [r3 i hi]; simp [List.getD_eq_getElem?_getD, hi]
  · intro i hi; rw [r1] at hi; simp [List.getD_eq_getElem?_getD, hi, fits]
theorem Ia.ofArv {k : ClassId} {z : Int32} {vs : List Value} (W : Arv Z h a k .int z vs (.int 0)) (hz : z.toInt = n) (H : ∀ i, i < n → vs.getD i (.int 0) = .int (f i)) : Ia Z h a .int n f := by
  obtain ⟨c, A, -, S, -, Hs, -⟩ := W
  have hs : c.slots.size = n := by rw [S]; simp only [Int32.toNatClampNeg]; omega
  exact ⟨c, A, hs, by have := z.toInt_lt; omega, fun i hi => by rw [Hs i (by rw [hs]; exact hi), H i hi]⟩
theorem OG.arraycopyI (X : OS B mL own nm rt Z n0 p l e R s m args below meth c T h cells slots) {index : Nat} (w1 : (Cond.methodLink own index Jvm.Stand.acN).before a0 Z = true) (w2 : (Cond.native Jvm.Stand.acN).before a0 Z = true) (w3 : (Cond.static Jvm.Stand.acN).before a0 Z = true) (w4 : (Cond.initialized "java/lang/System").before a0 Z = true) {a b : Addr} {n n' : Nat} {f f' : Nat → Int32} (F : Ia Z h a .int n f) (G : Ia Z h b .int n' f') {nn : Int32} {q : Nat} (hq : nn.toInt = q) (h1 : q ≤ n) (h2 : q ≤ n') (ge : n0 ≤ b) (hd : decode B pc = .ok (.invokestatic index, 3)) (hsz : Ls.size = mL) (hf : 1 ≤ R.frames) {W : Nat} (hW : (st.map fun v => v.category).sum ≤ W) (hlo : W + 18 ≤ R.locals) (g : ∀ T' h', OS B mL own nm rt Z n0 p l e R s m args below meth c T' h' cells slots → Keep h h' [b] → Ia Z h' b .int n' (fun i => if i < q then f i else f' i) → OG p e below s n0 rc rs Q (T'.setTop (mkF m (pc + 3) Ls st))) : OG p e below s n0 rc rs Q (T.setTop (mkF m pc Ls (.int nn :: .int 0 :: .ref b :: .int 0 :: .ref a :: st))) := by
  obtain ⟨h0, eT, locs, N, Y⟩ := X
  have h0' := h0
  obtain ⟨hx, hby, hml, hown, hnm, -, -, hZ⟩ := h0'
  have la := F.len
  have lb := G.len
  obtain ⟨ka, VA⟩ := F.toArv (z := n.toInt32) (len32 la)
  obtain ⟨kb, VB⟩ := G.toArv (z := n'.toInt32) (len32 lb)
  have e0 : (0 : Int32).toNatClampNeg = 0 := rfl
  have eq : nn.toNatClampNeg = q := by simp only [Int32.toNatClampNeg]; omega
  have ea : n.toInt32.toNatClampNeg = n := by simp only [Int32.toNatClampNeg, len32 la]; omega
  have eb : n'.toInt32.toNatClampNeg = n' := by simp only [Int32.toNatClampNeg, len32 lb]; omega
  have hnn : ¬ nn < 0 := by rw [Int32.lt_iff_toInt_lt]; have : (0 : Int32).toInt = 0 := rfl; omega
  obtain ⟨T', h', L, Y', e', N', K, V, stp⟩ := cpA Y hx hZ hown w1 w2 w3 w4 eT VA VB (Or.inl ⟨rfl, rfl⟩) (sp := 0) (dp := 0) (nn := nn) (by decide) (by decide) hnn (by rw [e0, eq, ea]; omega) (by rw [e0, eq, eb]; omega) rfl (by rw [e0, eq]; simp; omega) N ge (g := mkF m pc Ls (.int nn :: .int 0 :: .ref b :: .int 0 :: .ref a :: st)) rfl (by rw [hml]; exact hsz) rfl (hb hby hd) hf (W := W) (by show 2 * 0 + _ ≤ _; omega) (by exact hlo)
  refine OG.pre stp (g T' h' ⟨h0, e', L, N', Y'⟩ K (Ia.ofArv V (len32 lb) (fun i hi => ?_)))
  rw [e0, eq]
  by_cases hi2 : i < q
  · simp [List.getD_eq_getElem?_getD, List.getElem?_append, hi2, Nat.lt_of_lt_of_le hi2 h1]
  · simp [List.getD_eq_getElem?_getD, List.getElem?_append, hi2, hi, show q + (i - q) = i by omega]
end OwnKit
end Jvm.RoadKit

namespace Jvm.Pilot.@@N@@
open Jvm Jvm.ClassFile Sem Op Lib Jvm.Free Jvm.Stand Jvm.LawKit Jvm.RoadKit Bundle Jvm.Pilot.@@N@@.Jvm.D
theorem d1_0 : decode method_2_code 0 = .ok (.lload_n 0, 1) := by decide +kernel
theorem d1_1 : decode method_2_code 1 = .ok (.ldc2_w 7, 3) := by decide +kernel
theorem d1_4 : decode method_2_code 4 = .ok (.land, 1) := by decide +kernel
theorem d1_5 : decode method_2_code 5 = .ok (.l2i, 1) := by decide +kernel
theorem d1_6 : decode method_2_code 6 = .ok (.ireturn, 1) := by decide +kernel
def F1 (u : Int64) : Int32 := ((u &&& (2147483647 : Int64)).toInt32)
theorem pn_1 : plainName "com/example/skipstone/skipstone/search/SpansNearPinLaw" = true := by first | (simp [plainName, overriddenIn]; done) | decide +kernel
theorem ef_1 (m : MethodId) (u : Int64) : entryFrame m #[(.long u)] 2 = mkF m 0 #[.val (.long u), .second] [] := by first | (simp [entryFrame, mkF, argsToLocals, Value.category]; done) | rfl
def Q1 (Z : State) (u : Int64)  (h0 : Heap) : Option Value → Heap → Prop := fun v h => v = some (.int (F1 u)) ∧ h = h0
abbrev room1 : Room := { frames := 0, cells := 0, slots := 0, locals := 0 }
set_option maxRecDepth 65536 in
set_option maxHeartbeats 40000000 in
theorem rm1 (l : Launch) (Z : State) (a0 : Array Value) (hw : ∀ d ∈ tables_1, d.before a0 Z = true) (ws : List Jvm.Cond) (u : Int64)  (h0 : Heap) (n0 : Nat)  :
    OM l (⟨"com/example/skipstone/skipstone/search/SpansNearPinLaw", "lo", "(J)I"⟩ : MethodName) method_2_code 2 (some .int) room1 ws Z #[(.long u)] h0 n0 (Q1 Z u  h0) := by
  refine OM.of (plainFor_of_name pn_1) (fun m => ef_1 m u) ?_
  intro p e s m below meth c T X
  refine OG.lloadN X d1_0 rfl ?_
  refine OG.ldc2Long X (v := (2147483647 : Int64)) (hw _ (List.mem_of_getElem? (i := 5) rfl)) d1_1 ?_
  refine OG.land X d1_4 ?_
  refine OG.l2i X d1_5 ?_
  exact OG.retI X d1_6 (by decide) (by decide) ⟨rfl, rfl⟩
theorem d2_0 : decode method_3_code 0 = .ok (.lload_n 0, 1) := by decide +kernel
theorem d2_1 : decode method_3_code 1 = .ok (.bipush 32, 2) := by decide +kernel
theorem d2_3 : decode method_3_code 3 = .ok (.lushr, 1) := by decide +kernel
theorem d2_4 : decode method_3_code 4 = .ok (.ldc2_w 7, 3) := by decide +kernel
theorem d2_7 : decode method_3_code 7 = .ok (.land, 1) := by decide +kernel
theorem d2_8 : decode method_3_code 8 = .ok (.l2i, 1) := by decide +kernel
theorem d2_9 : decode method_3_code 9 = .ok (.ireturn, 1) := by decide +kernel
def F2 (u : Int64) : Int32 := ((((u.toUInt64 >>> ((32 : Int32) &&& 0x3f).toInt64.toUInt64).toInt64) &&& (2147483647 : Int64)).toInt32)
theorem pn_2 : plainName "com/example/skipstone/skipstone/search/SpansNearPinLaw" = true := by first | (simp [plainName, overriddenIn]; done) | decide +kernel
theorem ef_2 (m : MethodId) (u : Int64) : entryFrame m #[(.long u)] 2 = mkF m 0 #[.val (.long u), .second] [] := by first | (simp [entryFrame, mkF, argsToLocals, Value.category]; done) | rfl
def Q2 (Z : State) (u : Int64)  (h0 : Heap) : Option Value → Heap → Prop := fun v h => v = some (.int (F2 u)) ∧ h = h0
abbrev room2 : Room := { frames := 0, cells := 0, slots := 0, locals := 0 }
set_option maxRecDepth 65536 in
set_option maxHeartbeats 40000000 in
theorem rm2 (l : Launch) (Z : State) (a0 : Array Value) (hw : ∀ d ∈ tables_1, d.before a0 Z = true) (ws : List Jvm.Cond) (u : Int64)  (h0 : Heap) (n0 : Nat)  :
    OM l (⟨"com/example/skipstone/skipstone/search/SpansNearPinLaw", "hi", "(J)I"⟩ : MethodName) method_3_code 2 (some .int) room2 ws Z #[(.long u)] h0 n0 (Q2 Z u  h0) := by
  refine OM.of (plainFor_of_name pn_2) (fun m => ef_2 m u) ?_
  intro p e s m below meth c T X
  refine OG.lloadN X d2_0 rfl ?_
  refine OG.bipush X d2_1 (z := (32 : Int32)) rfl ?_
  refine OG.lushr X d2_3 ?_
  refine OG.ldc2Long X (v := (2147483647 : Int64)) (hw _ (List.mem_of_getElem? (i := 5) rfl)) d2_4 ?_
  refine OG.land X d2_7 ?_
  refine OG.l2i X d2_8 ?_
  exact OG.retI X d2_9 (by decide) (by decide) ⟨rfl, rfl⟩
theorem d3_0 : decode method_4_code 0 = .ok (.lload_n 0, 1) := by decide +kernel
theorem d3_1 : decode method_4_code 1 = .ok (.bipush 31, 2) := by decide +kernel
theorem d3_3 : decode method_4_code 3 = .ok (.lushr, 1) := by decide +kernel
theorem d3_4 : decode method_4_code 4 = .ok (.lconst 1, 1) := by decide +kernel
theorem d3_5 : decode method_4_code 5 = .ok (.land, 1) := by decide +kernel
theorem d3_6 : decode method_4_code 6 = .ok (.l2i, 1) := by decide +kernel
theorem d3_7 : decode method_4_code 7 = .ok (.ireturn, 1) := by decide +kernel
def F3 (u : Int64) : Int32 := ((((u.toUInt64 >>> ((31 : Int32) &&& 0x3f).toInt64.toUInt64).toInt64) &&& (1 : Int64)).toInt32)
theorem pn_3 : plainName "com/example/skipstone/skipstone/search/SpansNearPinLaw" = true := by first | (simp [plainName, overriddenIn]; done) | decide +kernel
theorem ef_3 (m : MethodId) (u : Int64) : entryFrame m #[(.long u)] 2 = mkF m 0 #[.val (.long u), .second] [] := by first | (simp [entryFrame, mkF, argsToLocals, Value.category]; done) | rfl
def Q3 (Z : State) (u : Int64)  (h0 : Heap) : Option Value → Heap → Prop := fun v h => v = some (.int (F3 u)) ∧ h = h0
abbrev room3 : Room := { frames := 0, cells := 0, slots := 0, locals := 0 }
set_option maxRecDepth 65536 in
set_option maxHeartbeats 40000000 in
theorem rm3 (l : Launch) (Z : State) (a0 : Array Value) (hw : ∀ d ∈ tables_1, d.before a0 Z = true) (ws : List Jvm.Cond) (u : Int64)  (h0 : Heap) (n0 : Nat)  :
    OM l (⟨"com/example/skipstone/skipstone/search/SpansNearPinLaw", "bit", "(J)I"⟩ : MethodName) method_4_code 2 (some .int) room3 ws Z #[(.long u)] h0 n0 (Q3 Z u  h0) := by
  refine OM.of (plainFor_of_name pn_3) (fun m => ef_3 m u) ?_
  intro p e s m below meth c T X
  refine OG.lloadN X d3_0 rfl ?_
  refine OG.bipush X d3_1 (z := (31 : Int32)) rfl ?_
  refine OG.lushr X d3_3 ?_
  refine OG.lconst X d3_4 (z := (1 : Int64)) rfl ?_
  refine OG.land X d3_5 ?_
  refine OG.l2i X d3_6 ?_
  exact OG.retI X d3_7 (by decide) (by decide) ⟨rfl, rfl⟩
theorem d4_0 : decode jdk_29_method_69_code 0 = .ok (.iload_n 0, 1) := by decide +kernel
theorem d4_1 : decode jdk_29_method_69_code 1 = .ok (.iload_n 1, 1) := by decide +kernel
theorem d4_2 : decode jdk_29_method_69_code 2 = .ok (.if_icmp .gt 7, 3) := by decide +kernel
theorem d4_9 : decode jdk_29_method_69_code 9 = .ok (.iload_n 1, 1) := by decide +kernel
theorem d4_10 : decode jdk_29_method_69_code 10 = .ok (.ireturn, 1) := by decide +kernel
theorem d4_5 : decode jdk_29_method_69_code 5 = .ok (.iload_n 0, 1) := by decide +kernel
theorem d4_6 : decode jdk_29_method_69_code 6 = .ok (.goto 4, 3) := by decide +kernel
def F4 (x : Int32) (y : Int32) : Int32 := (if y < x then y else x)
theorem ef_4 (m : MethodId) (x : Int32) (y : Int32) : entryFrame m #[(.int x), (.int y)] 2 = mkF m 0 #[.val (.int x), .val (.int y)] [] := by first | (simp [entryFrame, mkF, argsToLocals, Value.category]; done) | rfl
def Q4 (Z : State) (x : Int32) (y : Int32)  (h0 : Heap) : Option Value → Heap → Prop := fun v h => v = some (.int (F4 x y)) ∧ h = h0
abbrev room4 : Room := { frames := 0, cells := 0, slots := 0, locals := 0 }
set_option maxRecDepth 65536 in
set_option maxHeartbeats 40000000 in
theorem rm4 (l : Launch) (Z : State) (a0 : Array Value) (hw : ∀ d ∈ tables_1, d.before a0 Z = true) (ws : List Jvm.Cond) (x : Int32) (y : Int32)  (h0 : Heap) (n0 : Nat)  :
    OM l (⟨"java/lang/Math", "min", "(II)I"⟩ : MethodName) jdk_29_method_69_code 2 (some .int) room4 ws Z #[(.int x), (.int y)] h0 n0 (Q4 Z x y  h0) := by
  refine OM.of (Jvm.Free.JP.mathPlain rfl (by decide +kernel)) (fun m => ef_4 m x y) ?_
  intro p e s m below meth c T X
  refine OG.iloadN X d4_0 rfl ?_
  refine OG.iloadN X d4_1 rfl ?_
  refine OG.icmp_gt X d4_2 (pc' := 9) (by decide) ?_ ?_
  · intro c2
    refine OG.iloadN X d4_9 rfl ?_
    exact OG.retI X d4_10 (by decide) (by decide) ⟨by rw [F4, if_pos c2]; try rfl, rfl⟩
  · intro c2
    refine OG.iloadN X d4_5 rfl ?_
    refine OG.goto X d4_6 (pc' := 10) (by decide) ?_
    exact OG.retI X d4_10 (by decide) (by decide) ⟨by rw [F4, if_neg c2]; try rfl, rfl⟩
theorem d5_0 : decode jdk_29_method_65_code 0 = .ok (.iload_n 0, 1) := by decide +kernel
theorem d5_1 : decode jdk_29_method_65_code 1 = .ok (.iload_n 1, 1) := by decide +kernel
theorem d5_2 : decode jdk_29_method_65_code 2 = .ok (.if_icmp .lt 7, 3) := by decide +kernel
theorem d5_9 : decode jdk_29_method_65_code 9 = .ok (.iload_n 1, 1) := by decide +kernel
theorem d5_10 : decode jdk_29_method_65_code 10 = .ok (.ireturn, 1) := by decide +kernel
theorem d5_5 : decode jdk_29_method_65_code 5 = .ok (.iload_n 0, 1) := by decide +kernel
theorem d5_6 : decode jdk_29_method_65_code 6 = .ok (.goto 4, 3) := by decide +kernel
def F5 (x : Int32) (y : Int32) : Int32 := (if x < y then y else x)
theorem ef_5 (m : MethodId) (x : Int32) (y : Int32) : entryFrame m #[(.int x), (.int y)] 2 = mkF m 0 #[.val (.int x), .val (.int y)] [] := by first | (simp [entryFrame, mkF, argsToLocals, Value.category]; done) | rfl
def Q5 (Z : State) (x : Int32) (y : Int32)  (h0 : Heap) : Option Value → Heap → Prop := fun v h => v = some (.int (F5 x y)) ∧ h = h0
abbrev room5 : Room := { frames := 0, cells := 0, slots := 0, locals := 0 }
set_option maxRecDepth 65536 in
set_option maxHeartbeats 40000000 in
theorem rm5 (l : Launch) (Z : State) (a0 : Array Value) (hw : ∀ d ∈ tables_1, d.before a0 Z = true) (ws : List Jvm.Cond) (x : Int32) (y : Int32)  (h0 : Heap) (n0 : Nat)  :
    OM l (⟨"java/lang/Math", "max", "(II)I"⟩ : MethodName) jdk_29_method_65_code 2 (some .int) room5 ws Z #[(.int x), (.int y)] h0 n0 (Q5 Z x y  h0) := by
  refine OM.of (Jvm.Free.JP.mathPlain rfl (by decide +kernel)) (fun m => ef_5 m x y) ?_
  intro p e s m below meth c T X
  refine OG.iloadN X d5_0 rfl ?_
  refine OG.iloadN X d5_1 rfl ?_
  refine OG.icmp_lt X d5_2 (pc' := 9) (by decide) ?_ ?_
  · intro c2
    refine OG.iloadN X d5_9 rfl ?_
    exact OG.retI X d5_10 (by decide) (by decide) ⟨by rw [F5, if_pos c2]; try rfl, rfl⟩
  · intro c2
    refine OG.iloadN X d5_5 rfl ?_
    refine OG.goto X d5_6 (pc' := 10) (by decide) ?_
    exact OG.retI X d5_10 (by decide) (by decide) ⟨by rw [F5, if_neg c2]; try rfl, rfl⟩
theorem d8_0 : decode method_6_code 0 = .ok (.iload_n 2, 1) := by decide +kernel
theorem d8_1 : decode method_6_code 1 = .ok (.i2l, 1) := by decide +kernel
theorem d8_2 : decode method_6_code 2 = .ok (.iload_n 1, 1) := by decide +kernel
theorem d8_3 : decode method_6_code 3 = .ok (.i2l, 1) := by decide +kernel
theorem d8_4 : decode method_6_code 4 = .ok (.lsub, 1) := by decide +kernel
theorem d8_5 : decode method_6_code 5 = .ok (.iload 4, 2) := by decide +kernel
theorem d8_7 : decode method_6_code 7 = .ok (.i2l, 1) := by decide +kernel
theorem d8_8 : decode method_6_code 8 = .ok (.lcmp, 1) := by decide +kernel
theorem d8_9 : decode method_6_code 9 = .ok (.ifCond .gt 19, 3) := by decide +kernel
theorem d8_28 : decode method_6_code 28 = .ok (.iconst 0, 1) := by decide +kernel
theorem d8_29 : decode method_6_code 29 = .ok (.ireturn, 1) := by decide +kernel
theorem d8_12 : decode method_6_code 12 = .ok (.iload_n 0, 1) := by decide +kernel
theorem d8_13 : decode method_6_code 13 = .ok (.i2l, 1) := by decide +kernel
theorem d8_14 : decode method_6_code 14 = .ok (.iload_n 3, 1) := by decide +kernel
theorem d8_15 : decode method_6_code 15 = .ok (.i2l, 1) := by decide +kernel
theorem d8_16 : decode method_6_code 16 = .ok (.lsub, 1) := by decide +kernel
theorem d8_17 : decode method_6_code 17 = .ok (.iload 4, 2) := by decide +kernel
theorem d8_19 : decode method_6_code 19 = .ok (.i2l, 1) := by decide +kernel
theorem d8_20 : decode method_6_code 20 = .ok (.lcmp, 1) := by decide +kernel
theorem d8_21 : decode method_6_code 21 = .ok (.ifCond .gt 7, 3) := by decide +kernel
theorem d8_24 : decode method_6_code 24 = .ok (.iconst 1, 1) := by decide +kernel
theorem d8_25 : decode method_6_code 25 = .ok (.goto 4, 3) := by decide +kernel
def F8 (sa : Int32) (ea : Int32) (sb : Int32) (eb : Int32) (d : Int32) : Int32 := (if (d.toInt64) < ((sb.toInt64) - (ea.toInt64)) then (0 : Int32) else (if (d.toInt64) < ((sa.toInt64) - (eb.toInt64)) then (0 : Int32) else (1 : Int32)))
theorem pn_8 : plainName "com/example/skipstone/skipstone/search/SpansNearPinLaw" = true := by first | (simp [plainName, overriddenIn]; done) | decide +kernel
theorem ef_8 (m : MethodId) (sa : Int32) (ea : Int32) (sb : Int32) (eb : Int32) (d : Int32) : entryFrame m #[(.int sa), (.int ea), (.int sb), (.int eb), (.int d)] 5 = mkF m 0 #[.val (.int sa), .val (.int ea), .val (.int sb), .val (.int eb), .val (.int d)] [] := by first | (simp [entryFrame, mkF, argsToLocals, Value.category]; done) | rfl
def Q8 (Z : State) (sa : Int32) (ea : Int32) (sb : Int32) (eb : Int32) (d : Int32)  (h0 : Heap) : Option Value → Heap → Prop := fun v h => v = some (.int (F8 sa ea sb eb d)) ∧ h = h0
abbrev room8 : Room := { frames := 0, cells := 0, slots := 0, locals := 0 }
set_option maxRecDepth 65536 in
set_option maxHeartbeats 40000000 in
theorem rm8 (l : Launch) (Z : State) (a0 : Array Value) (hw : ∀ d ∈ tables_1, d.before a0 Z = true) (ws : List Jvm.Cond) (sa : Int32) (ea : Int32) (sb : Int32) (eb : Int32) (d : Int32)  (h0 : Heap) (n0 : Nat)  :
    OM l (⟨"com/example/skipstone/skipstone/search/SpansNearPinLaw", "close", "(IIIII)Z"⟩ : MethodName) method_6_code 5 (some .boolean) room8 ws Z #[(.int sa), (.int ea), (.int sb), (.int eb), (.int d)] h0 n0 (Q8 Z sa ea sb eb d  h0) := by
  refine OM.of (plainFor_of_name pn_8) (fun m => ef_8 m sa ea sb eb d) ?_
  intro p e s m below meth c T X
  refine OG.iloadN X d8_0 rfl ?_
  refine OG.i2l X d8_1 ?_
  refine OG.iloadN X d8_2 rfl ?_
  refine OG.i2l X d8_3 ?_
  refine OG.lsub X d8_4 ?_
  refine OG.iload X d8_5 rfl ?_
  refine OG.i2l X d8_7 ?_
  refine OG.lcmp X d8_8 ?_
  refine OG.ifl_gt X d8_9 (pc' := 28) (by decide) ?_ ?_
  · intro c9
    refine OG.iconst X d8_28 (z := (0 : Int32)) rfl ?_
    exact OG.retN X (t := .boolean) d8_29 (by simp) (by decide) (by decide) ⟨by rw [F8, if_pos c9]; try rfl, rfl⟩
  · intro c9
    refine OG.iloadN X d8_12 rfl ?_
    refine OG.i2l X d8_13 ?_
    refine OG.iloadN X d8_14 rfl ?_
    refine OG.i2l X d8_15 ?_
    refine OG.lsub X d8_16 ?_
    refine OG.iload X d8_17 rfl ?_
    refine OG.i2l X d8_19 ?_
    refine OG.lcmp X d8_20 ?_
    refine OG.ifl_gt X d8_21 (pc' := 28) (by decide) ?_ ?_
    · intro c21
      refine OG.iconst X d8_28 (z := (0 : Int32)) rfl ?_
      exact OG.retN X (t := .boolean) d8_29 (by simp) (by decide) (by decide) ⟨by rw [F8, if_neg c9, if_pos c21]; try rfl, rfl⟩
    · intro c21
      refine OG.iconst X d8_24 (z := (1 : Int32)) rfl ?_
      refine OG.goto X d8_25 (pc' := 29) (by decide) ?_
      exact OG.retN X (t := .boolean) d8_29 (by simp) (by decide) (by decide) ⟨by rw [F8, if_neg c9, if_neg c21]; try rfl, rfl⟩
def nr (f g p q : Nat → Int32) (d nA nB : Int32) : Nat → Int32 → Int32 → Int32
  | 0, _, _ => 0
  | k + 1, i, j => if i < nA then (if j < nB then (if d.toInt64 < (p j.toInt.toNat).toInt64 - (g i.toInt.toNat).toInt64 then nr f g p q d nA nB k (i + 1) j else if d.toInt64 < (f i.toInt.toNat).toInt64 - (q j.toInt.toNat).toInt64 then nr f g p q d nA nB k i (j + 1) else 1) else 0) else 0
def nb (R S : Nat → Nat → Bool) (nA nB : Nat) : Nat → Nat → Nat → Bool
  | 0, _, _ => false
  | k + 1, i, j => if i < nA then (if j < nB then (if R i j = true then nb R S nA nB k (i + 1) j else if S i j = true then nb R S nA nB k i (j + 1) else true) else false) else false
def cl (d s e t u : Int32) : Bool := !decide (d.toInt64 < t.toInt64 - e.toInt64) && !decide (d.toInt64 < s.toInt64 - u.toInt64)
theorem own_i1 {i : Int32} {k : Nat} (h : i.toInt = k) (hk : k ≤ 10) : (i + 1).toInt = (k + 1 : Nat) := by
  have h1 := c_iadd i 1
  have h2 := rng32 (i + 1)
  have h3 : (1 : Int32).toInt = 1 := rfl
  omega
theorem own_nr {f g p q : Nat → Int32} {d lA lB : Int32} {nA nB : Nat} (hA : lA.toInt = nA) (hB : lB.toInt = nB) (hA3 : nA ≤ 3) (hB3 : nB ≤ 3) {R S : Nat → Nat → Bool} (hR : ∀ i j, i < nA → j < nB → R i j = decide (d.toInt64 < (p j).toInt64 - (g i).toInt64)) (hS : ∀ i j, i < nA → j < nB → S i j = decide (d.toInt64 < (f i).toInt64 - (q j).toInt64)) :
    ∀ (k : Nat) (i j : Int32) (i' j' : Nat), i.toInt = i' → j.toInt = j' → i' ≤ nA → j' ≤ nB → nr f g p q d lA lB k i j = if nb R S nA nB k i' j' = true then 1 else 0 := by
  intro k
  induction k with
  | zero => intro i j i' j' _ _ _ _; rfl
  | succ k ih =>
    intro i j i' j' hi hj hi3 hj3
    rw [nr, nb]
    by_cases c1 : i' < nA
    · rw [if_pos (by rw [Int32.lt_iff_toInt_lt]; omega : i < lA), if_pos c1]
      by_cases c2 : j' < nB
      · rw [if_pos (by rw [Int32.lt_iff_toInt_lt]; omega : j < lB), if_pos c2, show i.toInt.toNat = i' by omega, show j.toInt.toNat = j' by omega]
        have r := hR i' j' c1 c2
        have s := hS i' j' c1 c2
        by_cases c3 : d.toInt64 < (p j').toInt64 - (g i').toInt64
        · rw [if_pos c3, if_pos (r.trans (decide_eq_true c3))]
          exact ih _ _ _ _ (own_i1 hi (by omega)) hj (by omega) (by omega)
        · rw [if_neg c3, if_neg (show ¬ R i' j' = true by rw [r]; simpa using c3)]
          by_cases c4 : d.toInt64 < (f i').toInt64 - (q j').toInt64
          · rw [if_pos c4, if_pos (s.trans (decide_eq_true c4))]
            exact ih _ _ _ _ hi (own_i1 hj (by omega)) (by omega) (by omega)
          · rw [if_neg c4, if_neg (show ¬ S i' j' = true by rw [s]; simpa using c4)]; rfl
      · rw [if_neg (by rw [Int32.lt_iff_toInt_lt]; omega : ¬ j < lB), if_neg c2]; rfl
    · rw [if_neg (by rw [Int32.lt_iff_toInt_lt]; omega : ¬ i < lA), if_neg c1]; rfl
def tb (r00 r01 r10 r11 r20 r21 : Bool) (i j : Nat) : Bool := if i = 0 then (if j = 0 then r00 else r01) else if i = 1 then (if j = 0 then r10 else r11) else (if j = 0 then r20 else r21)
def anyN (nA nB : Nat) (r00 r01 r10 r11 r20 r21 s00 s01 s10 s11 s20 s21 : Bool) : Bool :=
  (decide (0 < nA) && decide (0 < nB) && (!r00 && !s00)) || (decide (0 < nA) && decide (1 < nB) && (!r01 && !s01)) || (decide (1 < nA) && decide (0 < nB) && (!r10 && !s10)) || (decide (1 < nA) && decide (1 < nB) && (!r11 && !s11)) || (decide (2 < nA) && decide (0 < nB) && (!r20 && !s20)) || (decide (2 < nA) && decide (1 < nB) && (!r21 && !s21))
def allB (f : Bool → Bool) : Bool := f true && f false
theorem allB_at {f : Bool → Bool} (h : allB f = true) (b : Bool) : f b = true := by
  have := Bool.and_eq_true_iff.mp h
  cases b
  · exact this.2
  · exact this.1
def imp (a b : Bool) : Bool := !a || b
def chk (nA nB : Nat) (r00 r01 r10 r11 r20 r21 s00 s01 s10 s11 s20 s21 : Bool) : Bool :=
  !(imp r00 r01 && imp r10 r11 && imp r20 r21 && imp s00 s10 && imp s10 s20 && imp s01 s11 && imp s11 s21) || ((nb (tb r00 r01 r10 r11 r20 r21) (tb s00 s01 s10 s11 s20 s21) nA nB 7 0 0 == anyN nA nB r00 r01 r10 r11 r20 r21 s00 s01 s10 s11 s20 s21) && (nb (fun i j => tb s00 s01 s10 s11 s20 s21 j i) (fun i j => tb r00 r01 r10 r11 r20 r21 j i) nB nA 7 0 0 == anyN nA nB r00 r01 r10 r11 r20 r21 s00 s01 s10 s11 s20 s21))
set_option maxRecDepth 100000 in
theorem own_key0 : ∀ (nA : Fin 4) (nB : Fin 3), (allB fun r00 => allB fun r01 => allB fun r10 => allB fun r11 => allB fun r20 => allB fun r21 => allB fun s00 => allB fun s01 => allB fun s10 => allB fun s11 => allB fun s20 => allB fun s21 => chk nA.val nB.val r00 r01 r10 r11 r20 r21 s00 s01 s10 s11 s20 s21) = true := by decide +kernel
theorem own_key {nA nB : Nat} (hA : nA < 4) (hB : nB < 3) {r00 r01 r10 r11 r20 r21 s00 s01 s10 s11 s20 s21 : Bool} (m1 : r00 = true → r01 = true) (m2 : r10 = true → r11 = true) (m3 : r20 = true → r21 = true) (m4 : s00 = true → s10 = true) (m5 : s10 = true → s20 = true) (m6 : s01 = true → s11 = true) (m7 : s11 = true → s21 = true) :
    nb (tb r00 r01 r10 r11 r20 r21) (tb s00 s01 s10 s11 s20 s21) nA nB 7 0 0 = anyN nA nB r00 r01 r10 r11 r20 r21 s00 s01 s10 s11 s20 s21 ∧ nb (fun i j => tb s00 s01 s10 s11 s20 s21 j i) (fun i j => tb r00 r01 r10 r11 r20 r21 j i) nB nA 7 0 0 = anyN nA nB r00 r01 r10 r11 r20 r21 s00 s01 s10 s11 s20 s21 := by
  have k := allB_at (allB_at (allB_at (allB_at (allB_at (allB_at (allB_at (allB_at (allB_at (allB_at (allB_at (allB_at (own_key0 ⟨nA, hA⟩ ⟨nB, hB⟩) r00) r01) r10) r11) r20) r21) s00) s01) s10) s11) s20) s21
  have im : ∀ {a b : Bool}, (a = true → b = true) → imp a b = true := fun {a b} h => by cases a <;> cases b <;> simp_all [imp]
  unfold chk at k
  rw [im m1, im m2, im m3, im m4, im m5, im m6, im m7] at k
  simpa using k

theorem own_N0 {n : Int32} {K : Nat} (h : n.toInt = K) (q : ¬ 0 < n) : K = 0 := by
  rw [Int32.lt_iff_toInt_lt] at q
  have : (0 : Int32).toInt = 0 := rfl
  omega
theorem own_Nk {n k : Int32} {K : Nat} (h : n.toInt = K) (q : n = k) : (K : Int) = k.toInt := by subst q; omega
theorem own_N3 {n : Int32} {K : Nat} (h : n.toInt = K) (h3 : K ≤ 3) (q0 : 0 < n) (q1 : ¬ n = 1) (q2 : ¬ n = 2) : K = 3 := by
  rw [Int32.lt_iff_toInt_lt] at q0
  rw [← Int32.toInt_inj] at q1 q2
  have e0 : (0 : Int32).toInt = 0 := rfl
  have e1 : (1 : Int32).toInt = 1 := rfl
  have e2 : (2 : Int32).toInt = 2 := rfl
  omega
theorem pn_6 : plainName "com/example/skipstone/skipstone/search/SpansNearPinLaw" = true := by first | (simp [plainName, overriddenIn]; done) | decide +kernel
theorem ef_6 (m : MethodId) (n : Int32) (x : Int32) (y : Int32) (u : Int32) : entryFrame m #[(.int n), (.int x), (.int y), (.int u)] 4 = mkF m 0 #[.val (.int n), .val (.int x), .val (.int y), .val (.int u)] [] := by first | (simp [entryFrame, mkF, argsToLocals, Value.category]; done) | rfl
def Q6 (Z : State) (n : Int32) (x : Int32) (y : Int32) (u : Int32) (K : Nat) (h0 : Heap) (n0 : Nat) : Option Value → Heap → Prop := fun v h => ∃ (b : Addr) (f : Nat → Int32), v = some (.ref b) ∧ n0 ≤ b ∧ h0.size ≤ b ∧ Keep h0 h [] ∧ Ia Z h b .int K f ∧ (0 < K → f 0 = x) ∧ (1 < K → f 1 = y) ∧ (2 < K → f 2 = u)
theorem d6_0 : decode method_5_code 0 = .ok (.iload_n 0, 1) := by decide +kernel
theorem d6_1 : decode method_5_code 1 = .ok (.ifCond .gt 7, 3) := by decide +kernel
theorem d6_8 : decode method_5_code 8 = .ok (.iload_n 0, 1) := by decide +kernel
theorem d6_9 : decode method_5_code 9 = .ok (.iconst 1, 1) := by decide +kernel
theorem d6_10 : decode method_5_code 10 = .ok (.if_icmp .ne 11, 3) := by decide +kernel
theorem d6_21 : decode method_5_code 21 = .ok (.iload_n 0, 1) := by decide +kernel
theorem d6_22 : decode method_5_code 22 = .ok (.iconst 2, 1) := by decide +kernel
theorem d6_23 : decode method_5_code 23 = .ok (.if_icmp .ne 15, 3) := by decide +kernel
theorem d6_38 : decode method_5_code 38 = .ok (.iconst 3, 1) := by decide +kernel
theorem d6_39 : decode method_5_code 39 = .ok (.newarray .int, 2) := by decide +kernel
theorem d6_41 : decode method_5_code 41 = .ok (.dup, 1) := by decide +kernel
theorem d6_42 : decode method_5_code 42 = .ok (.iconst 0, 1) := by decide +kernel
theorem d6_43 : decode method_5_code 43 = .ok (.iload_n 1, 1) := by decide +kernel
theorem d6_44 : decode method_5_code 44 = .ok (.iastore, 1) := by decide +kernel
theorem d6_45 : decode method_5_code 45 = .ok (.dup, 1) := by decide +kernel
theorem d6_46 : decode method_5_code 46 = .ok (.iconst 1, 1) := by decide +kernel
theorem d6_47 : decode method_5_code 47 = .ok (.iload_n 2, 1) := by decide +kernel
theorem d6_48 : decode method_5_code 48 = .ok (.iastore, 1) := by decide +kernel
theorem d6_49 : decode method_5_code 49 = .ok (.dup, 1) := by decide +kernel
theorem d6_50 : decode method_5_code 50 = .ok (.iconst 2, 1) := by decide +kernel
theorem d6_51 : decode method_5_code 51 = .ok (.iload_n 3, 1) := by decide +kernel
theorem d6_52 : decode method_5_code 52 = .ok (.iastore, 1) := by decide +kernel
theorem d6_53 : decode method_5_code 53 = .ok (.areturn, 1) := by decide +kernel
theorem d6_26 : decode method_5_code 26 = .ok (.iconst 2, 1) := by decide +kernel
theorem d6_27 : decode method_5_code 27 = .ok (.newarray .int, 2) := by decide +kernel
theorem d6_29 : decode method_5_code 29 = .ok (.dup, 1) := by decide +kernel
theorem d6_30 : decode method_5_code 30 = .ok (.iconst 0, 1) := by decide +kernel
theorem d6_31 : decode method_5_code 31 = .ok (.iload_n 1, 1) := by decide +kernel
theorem d6_32 : decode method_5_code 32 = .ok (.iastore, 1) := by decide +kernel
theorem d6_33 : decode method_5_code 33 = .ok (.dup, 1) := by decide +kernel
theorem d6_34 : decode method_5_code 34 = .ok (.iconst 1, 1) := by decide +kernel
theorem d6_35 : decode method_5_code 35 = .ok (.iload_n 2, 1) := by decide +kernel
theorem d6_36 : decode method_5_code 36 = .ok (.iastore, 1) := by decide +kernel
theorem d6_37 : decode method_5_code 37 = .ok (.areturn, 1) := by decide +kernel
theorem d6_13 : decode method_5_code 13 = .ok (.iconst 1, 1) := by decide +kernel
theorem d6_14 : decode method_5_code 14 = .ok (.newarray .int, 2) := by decide +kernel
theorem d6_16 : decode method_5_code 16 = .ok (.dup, 1) := by decide +kernel
theorem d6_17 : decode method_5_code 17 = .ok (.iconst 0, 1) := by decide +kernel
theorem d6_18 : decode method_5_code 18 = .ok (.iload_n 1, 1) := by decide +kernel
theorem d6_19 : decode method_5_code 19 = .ok (.iastore, 1) := by decide +kernel
theorem d6_20 : decode method_5_code 20 = .ok (.areturn, 1) := by decide +kernel
theorem d6_4 : decode method_5_code 4 = .ok (.iconst 0, 1) := by decide +kernel
theorem d6_5 : decode method_5_code 5 = .ok (.newarray .int, 2) := by decide +kernel
theorem d6_7 : decode method_5_code 7 = .ok (.areturn, 1) := by decide +kernel
abbrev room6 : Room := { frames := 0, cells := 1, slots := 3, locals := 0 }
set_option maxRecDepth 65536 in
set_option maxHeartbeats 40000000 in
theorem rm6 (l : Launch) (Z : State) (a0 : Array Value) (hw : ∀ d ∈ tables_1, d.before a0 Z = true) (ws : List Jvm.Cond) (n : Int32) (x : Int32) (y : Int32) (u : Int32) (K : Nat) (h0 : Heap) (n0 : Nat) (Z0 : n0 ≤ h0.size) (hN : n.toInt = K) (hN3 : K ≤ 3) :
    OM l (⟨"com/example/skipstone/skipstone/search/SpansNearPinLaw", "take", "(IIII)[I"⟩ : MethodName) method_5_code 4 (some (.array .int)) room6 ws Z #[(.int n), (.int x), (.int y), (.int u)] h0 n0 (Q6 Z n x y u K h0 n0) := by
  refine OM.of (plainFor_of_name pn_6) (fun m => ef_6 m n x y u) ?_
  intro p e s m below meth c T X
  have K0 : Keep h0 h0 [] := Keep.refl _ _
  refine OG.iloadN X d6_0 rfl ?_
  refine OG.if_gt X d6_1 (pc' := 8) (by decide) ?_ ?_
  · intro c1
    refine OG.iloadN X d6_8 rfl ?_
    refine OG.iconst X d6_9 (z := (1 : Int32)) rfl ?_
    refine OG.icmp_ne X d6_10 (pc' := 21) (by decide) ?_ ?_
    · intro c10
      refine OG.iloadN X d6_21 rfl ?_
      refine OG.iconst X d6_22 (z := (2 : Int32)) rfl ?_
      refine OG.icmp_ne X d6_23 (pc' := 38) (by decide) ?_ ?_
      · intro c23
        refine OG.iconst X d6_38 (z := (3 : Int32)) rfl ?_
        refine OG.newP X (hw _ (List.mem_of_getElem? (i := 22) rfl)) d6_39 (by decide) (cap := 3) (by decide) (by decide) (by decide) (by decide) ?_
        rintro T1 h2 b4 gb4 X1 E3 ⟨cAb4, Nb4⟩
        have g_b4 : n0 ≤ b4 := Nat.le_trans Z0 (Nat.le_of_eq gb4.symm)
        have sz_b4 : h0.size ≤ b4 := Nat.le_trans K0.1 (Nat.le_of_eq gb4.symm)
        replace Z0 := Nat.le_trans Z0 E3.1
        replace K0 := K0.ext E3
        have A_b4 : Ia Z h2 b4 .int 3 (fun _ => 0) := Ia.new Nb4 (by decide) rfl rfl
        refine OG.dup X1 d6_41 rfl ?_
        refine OG.iconst X1 d6_42 (z := (0 : Int32)) rfl ?_
        refine OG.iloadN X1 d6_43 rfl ?_
        refine OG.iastore X1 A_b4 (by decide) d6_44 g_b4 ?_
        intro T5 h6 X5 W7 A5
        replace Z0 := Nat.le_trans Z0 (Keep.of_wr W7).1
        replace K0 := K0.wr W7 (Or.inr sz_b4)
        replace A_b4 := A5
        refine OG.dup X5 d6_45 rfl ?_
        refine OG.iconst X5 d6_46 (z := (1 : Int32)) rfl ?_
        refine OG.iloadN X5 d6_47 rfl ?_
        refine OG.iastore X5 A_b4 (by decide) d6_48 g_b4 ?_
        intro T8 h9 X8 W10 A8
        replace Z0 := Nat.le_trans Z0 (Keep.of_wr W10).1
        replace K0 := K0.wr W10 (Or.inr sz_b4)
        replace A_b4 := A8
        refine OG.dup X8 d6_49 rfl ?_
        refine OG.iconst X8 d6_50 (z := (2 : Int32)) rfl ?_
        refine OG.iloadN X8 d6_51 rfl ?_
        refine OG.iastore X8 A_b4 (by decide) d6_52 g_b4 ?_
        intro T11 h12 X11 W13 A11
        replace Z0 := Nat.le_trans Z0 (Keep.of_wr W13).1
        replace K0 := K0.wr W13 (Or.inr sz_b4)
        replace A_b4 := A11
        obtain rfl : K = 3 := own_N3 hN hN3 c1 c10 c23
        exact OG.retA X11 d6_53 rfl rfl (by decide) (by decide) ⟨b4, _, rfl, g_b4, sz_b4, K0, A_b4, fun _ => rfl, fun _ => rfl, fun _ => rfl⟩
      · intro c23
        refine OG.iconst X d6_26 (z := (2 : Int32)) rfl ?_
        refine OG.newP X (hw _ (List.mem_of_getElem? (i := 22) rfl)) d6_27 (by decide) (cap := 2) (by decide) (by decide) (by decide) (by decide) ?_
        rintro T14 h15 b17 gb17 X14 E16 ⟨cAb17, Nb17⟩
        have g_b17 : n0 ≤ b17 := Nat.le_trans Z0 (Nat.le_of_eq gb17.symm)
        have sz_b17 : h0.size ≤ b17 := Nat.le_trans K0.1 (Nat.le_of_eq gb17.symm)
        replace Z0 := Nat.le_trans Z0 E16.1
        replace K0 := K0.ext E16
        have A_b17 : Ia Z h15 b17 .int 2 (fun _ => 0) := Ia.new Nb17 (by decide) rfl rfl
        refine OG.dup X14 d6_29 rfl ?_
        refine OG.iconst X14 d6_30 (z := (0 : Int32)) rfl ?_
        refine OG.iloadN X14 d6_31 rfl ?_
        refine OG.iastore X14 A_b17 (by decide) d6_32 g_b17 ?_
        intro T18 h19 X18 W20 A18
        replace Z0 := Nat.le_trans Z0 (Keep.of_wr W20).1
        replace K0 := K0.wr W20 (Or.inr sz_b17)
        replace A_b17 := A18
        refine OG.dup X18 d6_33 rfl ?_
        refine OG.iconst X18 d6_34 (z := (1 : Int32)) rfl ?_
        refine OG.iloadN X18 d6_35 rfl ?_
        refine OG.iastore X18 A_b17 (by decide) d6_36 g_b17 ?_
        intro T21 h22 X21 W23 A21
        replace Z0 := Nat.le_trans Z0 (Keep.of_wr W23).1
        replace K0 := K0.wr W23 (Or.inr sz_b17)
        replace A_b17 := A21
        obtain rfl : K = 2 := by have := own_Nk hN c23; have e : (2 : Int32).toInt = 2 := rfl; omega
        exact OG.retA X21 d6_37 rfl rfl (by decide) (by decide) ⟨b17, _, rfl, g_b17, sz_b17, K0, A_b17, fun _ => rfl, fun _ => rfl, fun q => absurd q (by decide)⟩
    · intro c10
      refine OG.iconst X d6_13 (z := (1 : Int32)) rfl ?_
      refine OG.newP X (hw _ (List.mem_of_getElem? (i := 22) rfl)) d6_14 (by decide) (cap := 1) (by decide) (by decide) (by decide) (by decide) ?_
      rintro T24 h25 b27 gb27 X24 E26 ⟨cAb27, Nb27⟩
      have g_b27 : n0 ≤ b27 := Nat.le_trans Z0 (Nat.le_of_eq gb27.symm)
      have sz_b27 : h0.size ≤ b27 := Nat.le_trans K0.1 (Nat.le_of_eq gb27.symm)
      replace Z0 := Nat.le_trans Z0 E26.1
      replace K0 := K0.ext E26
      have A_b27 : Ia Z h25 b27 .int 1 (fun _ => 0) := Ia.new Nb27 (by decide) rfl rfl
      refine OG.dup X24 d6_16 rfl ?_
      refine OG.iconst X24 d6_17 (z := (0 : Int32)) rfl ?_
      refine OG.iloadN X24 d6_18 rfl ?_
      refine OG.iastore X24 A_b27 (by decide) d6_19 g_b27 ?_
      intro T28 h29 X28 W30 A28
      replace Z0 := Nat.le_trans Z0 (Keep.of_wr W30).1
      replace K0 := K0.wr W30 (Or.inr sz_b27)
      replace A_b27 := A28
      obtain rfl : K = 1 := by have := own_Nk hN c10; have e : (1 : Int32).toInt = 1 := rfl; omega
      exact OG.retA X28 d6_20 rfl rfl (by decide) (by decide) ⟨b27, _, rfl, g_b27, sz_b27, K0, A_b27, fun _ => rfl, fun q => absurd q (by decide), fun q => absurd q (by decide)⟩
  · intro c1
    refine OG.iconst X d6_4 (z := (0 : Int32)) rfl ?_
    refine OG.newP X (hw _ (List.mem_of_getElem? (i := 22) rfl)) d6_5 (by decide) (cap := 0) (by decide) (by decide) (by decide) (by decide) ?_
    rintro T31 h32 b34 gb34 X31 E33 ⟨cAb34, Nb34⟩
    have g_b34 : n0 ≤ b34 := Nat.le_trans Z0 (Nat.le_of_eq gb34.symm)
    have sz_b34 : h0.size ≤ b34 := Nat.le_trans K0.1 (Nat.le_of_eq gb34.symm)
    replace Z0 := Nat.le_trans Z0 E33.1
    replace K0 := K0.ext E33
    have A_b34 : Ia Z h32 b34 .int 0 (fun _ => 0) := Ia.new Nb34 (by decide) rfl rfl
    obtain rfl : K = 0 := own_N0 hN c1
    exact OG.retA X31 d6_7 rfl rfl (by decide) (by decide) ⟨b34, _, rfl, g_b34, sz_b34, K0, A_b34, fun q => absurd q (by decide), fun q => absurd q (by decide), fun q => absurd q (by decide)⟩
theorem own_in {i z : Int32} {K : Nat} (h0 : 0 ≤ i.toInt) (h : i < z) (hz : z.toInt = K) : 0 ≤ i.toInt ∧ i.toInt < K := by
  rw [Int32.lt_iff_toInt_lt] at h; omega
theorem own_st {i z : Int32} {K : Nat} (h0 : 0 ≤ i.toInt) (h : i < z) (hz : z.toInt = K) (hK : K ≤ 3) : (i + 1).toInt = i.toInt + 1 ∧ i.toInt < K := by
  rw [Int32.lt_iff_toInt_lt] at h
  have h1 := c_iadd i 1
  have h2 := rng32 (i + 1)
  have h3 : (1 : Int32).toInt = 1 := rfl
  omega
theorem pn_7 : plainName "com/example/skipstone/skipstone/search/Spans" = true := by first | (simp [plainName, overriddenIn]; done) | decide +kernel
theorem ef_7 (m : MethodId) (a1 : Addr) (a2 : Addr) (b1 : Addr) (b2 : Addr) (d : Int32) : entryFrame m #[(.ref a1), (.ref a2), (.ref b1), (.ref b2), (.int d)] 7 = mkF m 0 #[.val (.ref a1), .val (.ref a2), .val (.ref b1), .val (.ref b2), .val (.int d), .unset, .unset] [] := by first | (simp [entryFrame, mkF, argsToLocals, Value.category]; done) | rfl
def Q7 (Z : State) (a1 : Addr) (a2 : Addr) (b1 : Addr) (b2 : Addr) (d : Int32) (f g p' q : Nat → Int32) (zA zB : Int32) (NA NB : Nat) (h0 : Heap) : Option Value → Heap → Prop := fun v h => v = some (.int (nr f g p' q d zA zB 7 0 0)) ∧ h = h0
theorem d7_0 : decode prog_243_method_6_code 0 = .ok (.iconst 0, 1) := by decide +kernel
theorem d7_1 : decode prog_243_method_6_code 1 = .ok (.istore 5, 2) := by decide +kernel
theorem d7_3 : decode prog_243_method_6_code 3 = .ok (.iconst 0, 1) := by decide +kernel
theorem d7_4 : decode prog_243_method_6_code 4 = .ok (.istore 6, 2) := by decide +kernel
theorem d7_6 : decode prog_243_method_6_code 6 = .ok (.iload 5, 2) := by decide +kernel
theorem d7_8 : decode prog_243_method_6_code 8 = .ok (.aload_n 0, 1) := by decide +kernel
theorem d7_9 : decode prog_243_method_6_code 9 = .ok (.arraylength, 1) := by decide +kernel
theorem d7_10 : decode prog_243_method_6_code 10 = .ok (.if_icmp .ge 60, 3) := by decide +kernel
theorem d7_70 : decode prog_243_method_6_code 70 = .ok (.iconst 0, 1) := by decide +kernel
theorem d7_71 : decode prog_243_method_6_code 71 = .ok (.ireturn, 1) := by decide +kernel
theorem d7_13 : decode prog_243_method_6_code 13 = .ok (.iload 6, 2) := by decide +kernel
theorem d7_15 : decode prog_243_method_6_code 15 = .ok (.aload_n 2, 1) := by decide +kernel
theorem d7_16 : decode prog_243_method_6_code 16 = .ok (.arraylength, 1) := by decide +kernel
theorem d7_17 : decode prog_243_method_6_code 17 = .ok (.if_icmp .ge 53, 3) := by decide +kernel
theorem d7_20 : decode prog_243_method_6_code 20 = .ok (.aload_n 2, 1) := by decide +kernel
theorem d7_21 : decode prog_243_method_6_code 21 = .ok (.iload 6, 2) := by decide +kernel
theorem d7_23 : decode prog_243_method_6_code 23 = .ok (.iaload, 1) := by decide +kernel
theorem d7_24 : decode prog_243_method_6_code 24 = .ok (.i2l, 1) := by decide +kernel
theorem d7_25 : decode prog_243_method_6_code 25 = .ok (.aload_n 1, 1) := by decide +kernel
theorem d7_26 : decode prog_243_method_6_code 26 = .ok (.iload 5, 2) := by decide +kernel
theorem d7_28 : decode prog_243_method_6_code 28 = .ok (.iaload, 1) := by decide +kernel
theorem d7_29 : decode prog_243_method_6_code 29 = .ok (.i2l, 1) := by decide +kernel
theorem d7_30 : decode prog_243_method_6_code 30 = .ok (.lsub, 1) := by decide +kernel
theorem d7_31 : decode prog_243_method_6_code 31 = .ok (.iload 4, 2) := by decide +kernel
theorem d7_33 : decode prog_243_method_6_code 33 = .ok (.i2l, 1) := by decide +kernel
theorem d7_34 : decode prog_243_method_6_code 34 = .ok (.lcmp, 1) := by decide +kernel
theorem d7_35 : decode prog_243_method_6_code 35 = .ok (.ifCond .le 9, 3) := by decide +kernel
theorem d7_44 : decode prog_243_method_6_code 44 = .ok (.aload_n 0, 1) := by decide +kernel
theorem d7_45 : decode prog_243_method_6_code 45 = .ok (.iload 5, 2) := by decide +kernel
theorem d7_47 : decode prog_243_method_6_code 47 = .ok (.iaload, 1) := by decide +kernel
theorem d7_48 : decode prog_243_method_6_code 48 = .ok (.i2l, 1) := by decide +kernel
theorem d7_49 : decode prog_243_method_6_code 49 = .ok (.aload_n 3, 1) := by decide +kernel
theorem d7_50 : decode prog_243_method_6_code 50 = .ok (.iload 6, 2) := by decide +kernel
theorem d7_52 : decode prog_243_method_6_code 52 = .ok (.iaload, 1) := by decide +kernel
theorem d7_53 : decode prog_243_method_6_code 53 = .ok (.i2l, 1) := by decide +kernel
theorem d7_54 : decode prog_243_method_6_code 54 = .ok (.lsub, 1) := by decide +kernel
theorem d7_55 : decode prog_243_method_6_code 55 = .ok (.iload 4, 2) := by decide +kernel
theorem d7_57 : decode prog_243_method_6_code 57 = .ok (.i2l, 1) := by decide +kernel
theorem d7_58 : decode prog_243_method_6_code 58 = .ok (.lcmp, 1) := by decide +kernel
theorem d7_59 : decode prog_243_method_6_code 59 = .ok (.ifCond .le 9, 3) := by decide +kernel
theorem d7_68 : decode prog_243_method_6_code 68 = .ok (.iconst 1, 1) := by decide +kernel
theorem d7_69 : decode prog_243_method_6_code 69 = .ok (.ireturn, 1) := by decide +kernel
theorem d7_62 : decode prog_243_method_6_code 62 = .ok (.iinc 6 1, 3) := by decide +kernel
theorem d7_65 : decode prog_243_method_6_code 65 = .ok (.goto (-59), 3) := by decide +kernel
theorem d7_38 : decode prog_243_method_6_code 38 = .ok (.iinc 5 1, 3) := by decide +kernel
theorem d7_41 : decode prog_243_method_6_code 41 = .ok (.goto (-35), 3) := by decide +kernel
abbrev room7 : Room := { frames := 0, cells := 0, slots := 0, locals := 0 }
set_option maxRecDepth 65536 in
set_option maxHeartbeats 40000000 in
theorem rm7 (l : Launch) (Z : State) (a0 : Array Value) (hw : ∀ d ∈ tables_1, d.before a0 Z = true) (ws : List Jvm.Cond) (a1 : Addr) (a2 : Addr) (b1 : Addr) (b2 : Addr) (d : Int32) (f g p' q : Nat → Int32) (zA zB : Int32) (NA NB : Nat) (h0 : Heap) (n0 : Nat) (A_a1 : Ia Z h0 a1 .int NA f) (A_a2 : Ia Z h0 a2 .int NA g) (A_b1 : Ia Z h0 b1 .int NB p') (A_b2 : Ia Z h0 b2 .int NB q) (hzA : zA.toInt = NA) (hzB : zB.toInt = NB) (hA3 : NA ≤ 3) (hB3 : NB ≤ 3) :
    OM l (⟨"com/example/skipstone/skipstone/search/Spans", "near", "([I[I[I[II)Z"⟩ : MethodName) prog_243_method_6_code 7 (some .boolean) room7 ws Z #[(.ref a1), (.ref a2), (.ref b1), (.ref b2), (.int d)] h0 n0 (Q7 Z a1 a2 b1 b2 d f g p' q zA zB NA NB h0) := by
  refine OM.of (plainFor_of_name pn_7) (fun m => ef_7 m a1 a2 b1 b2 d) ?_
  intro p e s m below meth c T X
  refine OG.iconst X d7_0 (z := (0 : Int32)) rfl ?_
  refine OG.istore X d7_1 (l' := #[.val (.ref a1), .val (.ref a2), .val (.ref b1), .val (.ref b2), .val (.int d), .val (.int (0 : Int32)), .unset]) rfl ?_
  refine OG.iconst X d7_3 (z := (0 : Int32)) rfl ?_
  refine OG.istore X d7_4 (l' := #[.val (.ref a1), .val (.ref a2), .val (.ref b1), .val (.ref b2), .val (.int d), .val (.int (0 : Int32)), .val (.int (0 : Int32))]) rfl ?_
  have loop1 : ∀ (k : Nat) (Tloop1 : State) (i : Int32) (j : Int32), OS prog_243_method_6_code 7 "com/example/skipstone/skipstone/search/Spans" "near" (some .boolean) Z n0 p l e room7 s m #[(.ref a1), (.ref a2), (.ref b1), (.ref b2), (.int d)] below meth c Tloop1 h0 0 0 → ((NA : Int) - i.toInt).toNat + ((NB : Int) - j.toInt).toNat < k → 0 ≤ i.toInt → 0 ≤ j.toInt → nr f g p' q d zA zB k i j = nr f g p' q d zA zB 7 0 0 → OG p e below s n0 room7.cells room7.slots (Q7 Z a1 a2 b1 b2 d f g p' q zA zB NA NB h0) (Tloop1.setTop (mkF m 6 #[.val (.ref a1), .val (.ref a2), .val (.ref b1), .val (.ref b2), .val (.int d), .val (.int i), .val (.int j)] [])) := by
    intro k
    induction k with
    | zero => intro Tloop1 i j Xloop1 hk; exact absurd hk (Nat.not_lt_zero _)
    | succ k ih =>
      intro Tloop1 i j Xloop1 hk hi hj hv
      refine OG.iload Xloop1 d7_6 rfl ?_
      refine OG.aloadN Xloop1 d7_8 rfl rfl ?_
      refine OG.arraylength Xloop1 A_a1 (z := zA) hzA d7_9 ?_
      refine OG.icmp_ge Xloop1 d7_10 (pc' := 70) (by decide) ?_ ?_
      · intro c10
        refine OG.iconst Xloop1 d7_70 (z := (0 : Int32)) rfl ?_
        exact OG.retN Xloop1 (t := .boolean) d7_71 (by simp) (by decide) (by decide) ⟨by rw [← hv, nr, if_neg c10]; rfl, rfl⟩
      · intro c10
        refine OG.iload Xloop1 d7_13 rfl ?_
        refine OG.aloadN Xloop1 d7_15 rfl rfl ?_
        refine OG.arraylength Xloop1 A_b1 (z := zB) hzB d7_16 ?_
        refine OG.icmp_ge Xloop1 d7_17 (pc' := 70) (by decide) ?_ ?_
        · intro c17
          refine OG.iconst Xloop1 d7_70 (z := (0 : Int32)) rfl ?_
          exact OG.retN Xloop1 (t := .boolean) d7_71 (by simp) (by decide) (by decide) ⟨by rw [← hv, nr, if_pos c10, if_neg c17]; rfl, rfl⟩
        · intro c17
          refine OG.aloadN Xloop1 d7_20 rfl rfl ?_
          refine OG.iload Xloop1 d7_21 rfl ?_
          refine OG.iaload Xloop1 A_b1 (own_in hj c17 hzB) d7_23 ?_
          refine OG.i2l Xloop1 d7_24 ?_
          refine OG.aloadN Xloop1 d7_25 rfl rfl ?_
          refine OG.iload Xloop1 d7_26 rfl ?_
          refine OG.iaload Xloop1 A_a2 (own_in hi c10 hzA) d7_28 ?_
          refine OG.i2l Xloop1 d7_29 ?_
          refine OG.lsub Xloop1 d7_30 ?_
          refine OG.iload Xloop1 d7_31 rfl ?_
          refine OG.i2l Xloop1 d7_33 ?_
          refine OG.lcmp Xloop1 d7_34 ?_
          refine OG.ifl_le Xloop1 d7_35 (pc' := 44) (by decide) ?_ ?_
          · intro c35
            refine OG.aloadN Xloop1 d7_44 rfl rfl ?_
            refine OG.iload Xloop1 d7_45 rfl ?_
            refine OG.iaload Xloop1 A_a1 (own_in hi c10 hzA) d7_47 ?_
            refine OG.i2l Xloop1 d7_48 ?_
            refine OG.aloadN Xloop1 d7_49 rfl rfl ?_
            refine OG.iload Xloop1 d7_50 rfl ?_
            refine OG.iaload Xloop1 A_b2 (own_in hj c17 hzB) d7_52 ?_
            refine OG.i2l Xloop1 d7_53 ?_
            refine OG.lsub Xloop1 d7_54 ?_
            refine OG.iload Xloop1 d7_55 rfl ?_
            refine OG.i2l Xloop1 d7_57 ?_
            refine OG.lcmp Xloop1 d7_58 ?_
            refine OG.ifl_le Xloop1 d7_59 (pc' := 68) (by decide) ?_ ?_
            · intro c59
              refine OG.iconst Xloop1 d7_68 (z := (1 : Int32)) rfl ?_
              exact OG.retN Xloop1 (t := .boolean) d7_69 (by simp) (by decide) (by decide) ⟨by rw [← hv, nr, if_pos c10, if_pos c17, if_neg c35, if_neg c59]; rfl, rfl⟩
            · intro c59
              refine OG.iinc Xloop1 d7_62 rfl (z := (1 : Int32)) rfl (l' := #[.val (.ref a1), .val (.ref a2), .val (.ref b1), .val (.ref b2), .val (.int d), .val (.int i), .val (.int (j + (1 : Int32)))]) rfl ?_
              refine OG.goto Xloop1 d7_65 (pc' := 6) (by decide) ?_
              exact ih Tloop1 i (j + (1 : Int32)) Xloop1 (by have := own_st hi c10 hzA hA3; have := own_st hj c17 hzB hB3; omega) (by have := own_st hi c10 hzA hA3; omega) (by have := own_st hj c17 hzB hB3; omega) (by rw [← hv, nr, if_pos c10, if_pos c17, if_neg c35, if_pos c59])
          · intro c35
            refine OG.iinc Xloop1 d7_38 rfl (z := (1 : Int32)) rfl (l' := #[.val (.ref a1), .val (.ref a2), .val (.ref b1), .val (.ref b2), .val (.int d), .val (.int (i + (1 : Int32))), .val (.int j)]) rfl ?_
            refine OG.goto Xloop1 d7_41 (pc' := 6) (by decide) ?_
            exact ih Tloop1 (i + (1 : Int32)) j Xloop1 (by have := own_st hi c10 hzA hA3; have := own_st hj c17 hzB hB3; omega) (by have := own_st hi c10 hzA hA3; omega) (by have := own_st hj c17 hzB hB3; omega) (by rw [← hv, nr, if_pos c10, if_pos c17, if_pos c35])
  exact loop1 7 T (0 : Int32) (0 : Int32) X (by have e : (0 : Int32).toInt = 0 := rfl; omega) (by decide) (by decide) rfl
def TT (a b la lb k nx : Int32) : Int32 := if a < la then (if b < lb then (if k = 0 then nx else 1) else nx) else nx
def rr (d s' t' : Int32) : Bool := decide (d.toInt64 < t'.toInt64 - s'.toInt64)
theorem own_TT {a b la lb nx sa ea sb eb d : Int32} {a' b' nA nB : Nat} (hA : la.toInt = nA) (hB : lb.toInt = nB) (ha : a.toInt = a') (hb : b.toInt = b') : TT a b la lb (F8 sa ea sb eb d) nx = if (decide (a' < nA) && decide (b' < nB) && (!rr d ea sb && !rr d eb sa)) = true then 1 else nx := by
  unfold TT F8 rr
  by_cases c1 : a' < nA
  · rw [if_pos (by rw [Int32.lt_iff_toInt_lt]; omega : a < la)]
    by_cases c2 : b' < nB
    · rw [if_pos (by rw [Int32.lt_iff_toInt_lt]; omega : b < lb)]
      by_cases c3 : d.toInt64 < sb.toInt64 - ea.toInt64
      · simp [c1, c2, c3]
      · by_cases c4 : d.toInt64 < sa.toInt64 - eb.toInt64
        · simp [c1, c2, c3, c4]
        · simp [c1, c2, c3, c4]
    · rw [if_neg (by rw [Int32.lt_iff_toInt_lt]; omega : ¬ b < lb)]; simp [c2]
  · rw [if_neg (by rw [Int32.lt_iff_toInt_lt]; omega : ¬ a < la)]; simp [c1]
theorem own_ch (b1 b2 b3 b4 b5 b6 : Bool) : (if b1 = true then (1 : Int32) else if b2 = true then 1 else if b3 = true then 1 else if b4 = true then 1 else if b5 = true then 1 else if b6 = true then 1 else 0) = if (b1 || b2 || b3 || b4 || b5 || b6) = true then 1 else 0 := by
  cases b1 <;> cases b2 <;> cases b3 <;> cases b4 <;> cases b5 <;> cases b6 <;> rfl
theorem own_mono {d x y z : Int32} (h : y.toInt ≤ z.toInt) : rr d x y = true → rr d x z = true := by
  unfold rr
  intro q
  have q := of_decide_eq_true q
  refine decide_eq_true ?_
  rw [Int64.lt_iff_toInt_lt] at *
  have h1 := c_lsub y.toInt64 x.toInt64
  have h2 := c_lsub z.toInt64 x.toInt64
  have h3 := rng64 (y.toInt64 - x.toInt64)
  have h4 := rng64 (z.toInt64 - x.toInt64)
  rw [c_i2l, c_i2l] at h1 h2
  have := rng32 x
  have := rng32 y
  have := rng32 z
  omega
theorem own_min (u w : Int32) : (F4 u w).toInt = min u.toInt w.toInt := by
  unfold F4; split <;> rename_i h <;> rw [Int32.lt_iff_toInt_lt] at h <;> omega
theorem own_max (u w : Int32) : (F5 u w).toInt = max u.toInt w.toInt := by
  unfold F5; split <;> rename_i h <;> rw [Int32.lt_iff_toInt_lt] at h <;> omega
theorem own_bit (u : Int64) : F3 u = 0 ∨ F3 u = 1 := by
  have h1 := c_maskL ((u.toUInt64 >>> (((31 : Int32) &&& 0x3f).toInt64.toUInt64)).toInt64) 1 1 (by decide) (by decide)
  have h0 : ((2 ^ 1 : Nat) : Int) = 2 := by decide
  rw [h0] at h1
  have h2 := c_l2i (((u.toUInt64 >>> (((31 : Int32) &&& 0x3f).toInt64.toUInt64)).toInt64) &&& 1)
  have h3 := rng32 (((u.toUInt64 >>> (((31 : Int32) &&& 0x3f).toInt64.toUInt64)).toInt64) &&& 1).toInt32
  have e0 : (0 : Int32).toInt = 0 := rfl
  have e1 : (1 : Int32).toInt = 1 := rfl
  unfold F3
  rw [← Int32.toInt_inj, ← Int32.toInt_inj]
  omega
theorem own_la {la : Int32} {u w : Int64} (h : la = F3 u ||| (F3 w <<< ((1 : Int32) &&& 31))) : ∃ K : Nat, la.toInt = K ∧ K ≤ 3 := by
  rcases own_bit u with q | q <;> rcases own_bit w with p | p <;> rw [q, p] at h <;> rw [h]
  · exact ⟨0, by decide, by decide⟩
  · exact ⟨2, by decide, by decide⟩
  · exact ⟨1, by decide, by decide⟩
  · exact ⟨3, by decide, by decide⟩
theorem own_lb {lb : Int32} {u w : Int64} (h : lb = F4 2 (F3 u ||| (F3 w <<< ((1 : Int32) &&& 31)))) : ∃ K : Nat, lb.toInt = K ∧ K ≤ 2 := by
  rcases own_bit u with q | q <;> rcases own_bit w with p | p <;> rw [q, p] at h <;> rw [h]
  · exact ⟨0, by decide, by decide⟩
  · exact ⟨2, by decide, by decide⟩
  · exact ⟨1, by decide, by decide⟩
  · exact ⟨2, by decide, by decide⟩
theorem own_sort {a0 a1 a2 s0 s1 s2 : Int32} (h0 : s0 = F4 (F4 a0 a1) a2) (h1 : s1 = F5 (F4 a0 a1) (F4 (F5 a0 a1) a2)) (h2 : s2 = F5 (F5 a0 a1) a2) : s0.toInt ≤ s1.toInt ∧ s1.toInt ≤ s2.toInt := by
  have e0 := own_min (F4 a0 a1) a2
  have e1 := own_min a0 a1
  have e2 := own_max a0 a1
  have e3 := own_max (F4 a0 a1) (F4 (F5 a0 a1) a2)
  have e4 := own_min (F5 a0 a1) a2
  have e5 := own_max (F5 a0 a1) a2
  rw [← h0] at e0
  rw [← h1] at e3
  rw [← h2] at e5
  omega
theorem own_sort2 {a0 a1 s0 s1 : Int32} (h0 : s0 = F4 a0 a1) (h1 : s1 = F5 a0 a1) : s0.toInt ≤ s1.toInt := by
  have e1 := own_min a0 a1
  have e2 := own_max a0 a1
  rw [← h0] at e1
  rw [← h1] at e2
  omega
def ANY (NA NB : Nat) (s0 s1 s2 e0 e1 e2 t0 t1 u0 u1 d : Int32) : Int32 := if anyN NA NB (rr d e0 t0) (rr d e0 t1) (rr d e1 t0) (rr d e1 t1) (rr d e2 t0) (rr d e2 t1) (rr d u0 s0) (rr d u1 s0) (rr d u0 s1) (rr d u1 s1) (rr d u0 s2) (rr d u1 s2) = true then 1 else 0
theorem own_W {la lb s0 s1 s2 e0 e1 e2 t0 t1 u0 u1 d : Int32} {NA NB : Nat} (hA : la.toInt = NA) (hB : lb.toInt = NB) : TT 0 0 la lb (F8 s0 e0 t0 u0 d) (TT 0 1 la lb (F8 s0 e0 t1 u1 d) (TT 1 0 la lb (F8 s1 e1 t0 u0 d) (TT 1 1 la lb (F8 s1 e1 t1 u1 d) (TT 2 0 la lb (F8 s2 e2 t0 u0 d) (TT 2 1 la lb (F8 s2 e2 t1 u1 d) 0))))) = ANY NA NB s0 s1 s2 e0 e1 e2 t0 t1 u0 u1 d := by
  rw [own_TT (a' := 0) (b' := 0) hA hB rfl rfl, own_TT (a' := 0) (b' := 1) hA hB rfl rfl, own_TT (a' := 1) (b' := 0) hA hB rfl rfl, own_TT (a' := 1) (b' := 1) hA hB rfl rfl, own_TT (a' := 2) (b' := 0) hA hB rfl rfl, own_TT (a' := 2) (b' := 1) hA hB rfl rfl, own_ch]
  rfl
theorem own_tb {NA NB : Nat} {F G : Nat → Int32} {d x0 x1 x2 y0 y1 : Int32} (hA3 : NA ≤ 3) (hB2 : NB ≤ 2) (f0 : 0 < NA → F 0 = x0) (f1 : 1 < NA → F 1 = x1) (f2 : 2 < NA → F 2 = x2) (g0 : 0 < NB → G 0 = y0) (g1 : 1 < NB → G 1 = y1) (r : Int32 → Int32 → Bool) : ∀ i j, i < NA → j < NB → tb (r x0 y0) (r x0 y1) (r x1 y0) (r x1 y1) (r x2 y0) (r x2 y1) i j = r (F i) (G j) := by
  intro i j hi hj
  have ci : i = 0 ∨ i = 1 ∨ i = 2 := by omega
  have cj : j = 0 ∨ j = 1 := by omega
  rcases ci with rfl | rfl | rfl <;> rcases cj with rfl | rfl
  · rw [f0 hi, g0 hj]; rfl
  · rw [f0 hi, g1 hj]; rfl
  · rw [f1 hi, g0 hj]; rfl
  · rw [f1 hi, g1 hj]; rfl
  · rw [f2 hi, g0 hj]; rfl
  · rw [f2 hi, g1 hj]; rfl
theorem own_near {la lb s0 s1 s2 e0 e1 e2 t0 t1 u0 u1 d z0 z1 : Int32} {NA NB : Nat} {fs fe gs ge : Nat → Int32} (hA : la.toInt = NA) (hB : lb.toInt = NB) (hA3 : NA ≤ 3) (hB2 : NB ≤ 2) (hs : s0.toInt ≤ s1.toInt ∧ s1.toInt ≤ s2.toInt) (ht : t0.toInt ≤ t1.toInt)
    (a0 : 0 < NA → fs 0 = s0) (a1 : 1 < NA → fs 1 = s1) (a2 : 2 < NA → fs 2 = s2) (b0 : 0 < NA → fe 0 = e0) (b1 : 1 < NA → fe 1 = e1) (b2 : 2 < NA → fe 2 = e2) (k0 : 0 < NB → gs 0 = t0) (k1 : 1 < NB → gs 1 = t1) (k2 : 2 < NB → gs 2 = z0) (m0 : 0 < NB → ge 0 = u0) (m1 : 1 < NB → ge 1 = u1) (m2 : 2 < NB → ge 2 = z1) :
    nr fs fe gs ge d la lb 7 0 0 = ANY NA NB s0 s1 s2 e0 e1 e2 t0 t1 u0 u1 d ∧ nr gs ge fs fe d lb la 7 0 0 = ANY NA NB s0 s1 s2 e0 e1 e2 t0 t1 u0 u1 d := by
  have key := own_key (nA := NA) (nB := NB) (by omega) (by omega) (own_mono (d := d) (x := e0) ht) (own_mono (d := d) (x := e1) ht) (own_mono (d := d) (x := e2) ht) (own_mono (d := d) (x := u0) hs.1) (own_mono (d := d) (x := u0) hs.2) (own_mono (d := d) (x := u1) hs.1) (own_mono (d := d) (x := u1) hs.2)
  have R := own_tb (d := d) hA3 hB2 b0 b1 b2 k0 k1 (fun x y => rr d x y)
  have S := own_tb (d := d) hA3 hB2 a0 a1 a2 m0 m1 (fun x y => rr d y x)
  have n1 := own_nr (f := fs) (g := fe) (p := gs) (q := ge) (d := d) hA hB hA3 (by omega) (R := tb (rr d e0 t0) (rr d e0 t1) (rr d e1 t0) (rr d e1 t1) (rr d e2 t0) (rr d e2 t1)) (S := tb (rr d u0 s0) (rr d u1 s0) (rr d u0 s1) (rr d u1 s1) (rr d u0 s2) (rr d u1 s2)) R S 7 0 0 0 0 rfl rfl (by omega) (by omega)
  have n2 := own_nr (f := gs) (g := ge) (p := fs) (q := fe) (d := d) hB hA (by omega) hA3 (R := fun i j => tb (rr d u0 s0) (rr d u1 s0) (rr d u0 s1) (rr d u1 s1) (rr d u0 s2) (rr d u1 s2) j i) (S := fun i j => tb (rr d e0 t0) (rr d e0 t1) (rr d e1 t0) (rr d e1 t1) (rr d e2 t0) (rr d e2 t1) j i) (fun i j hi hj => S j i hj hi) (fun i j hi hj => R j i hj hi) 7 0 0 0 0 rfl rfl (by omega) (by omega)
  rw [n1, n2, key.1, key.2]
  exact ⟨rfl, rfl⟩
theorem pn_0 : plainName "com/example/skipstone/skipstone/search/SpansNearPinLaw" = true := by first | (simp [plainName, overriddenIn]; done) | decide +kernel
theorem ef_0 (m : MethodId) (i0 : Int64) (i1 : Int64) (i2 : Int64) (i3 : Int64) (i4 : Int64) (i5 : Int32) : entryFrame m #[(.long i0), (.long i1), (.long i2), (.long i3), (.long i4), (.int i5)] maxLocals = mkF m 0 #[.val (.long i0), .second, .val (.long i1), .second, .val (.long i2), .second, .val (.long i3), .second, .val (.long i4), .second, .val (.int i5), .unset, .unset, .unset, .unset, .unset, .unset, .unset, .unset, .unset, .unset, .unset, .unset, .unset, .unset, .unset, .unset, .unset, .unset, .unset, .unset, .unset, .unset, .unset, .unset, .unset, .unset, .unset, .unset, .unset, .unset] [] := by first | (simp [entryFrame, mkF, argsToLocals, Value.category, maxLocals]; done) | rfl
def Q0 (Z : State) (i0 : Int64) (i1 : Int64) (i2 : Int64) (i3 : Int64) (i4 : Int64) (i5 : Int32)  (h0 : Heap) : Option Value → Heap → Prop := fun v h => v = some (.int 1)
theorem pd_0 : parseMethodDescriptor "(J)I" = some ⟨[.long], some .int⟩ := by decide +kernel
theorem pd_1 : parseMethodDescriptor "(II)I" = some ⟨[.int, .int], some .int⟩ := by decide +kernel
theorem pd_2 : parseMethodDescriptor "(IIII)[I" = some ⟨[.int, .int, .int, .int], some (.array .int)⟩ := by decide +kernel
theorem pd_3 : parseMethodDescriptor "(IIIII)Z" = some ⟨[.int, .int, .int, .int, .int], some .boolean⟩ := by decide +kernel
theorem pd_4 : parseMethodDescriptor "([I[I[I[II)Z" = some ⟨[(.array .int), (.array .int), (.array .int), (.array .int), .int], some .boolean⟩ := by decide +kernel
set_option maxRecDepth 65536 in
set_option maxHeartbeats 40000000 in
theorem rm0 (l : Launch) (Z : State) (a0 : Array Value) (hw : ∀ d ∈ tables_1, d.before a0 Z = true) (ws : List Jvm.Cond) (i0 : Int64) (i1 : Int64) (i2 : Int64) (i3 : Int64) (i4 : Int64) (i5 : Int32)  (h0 : Heap) (n0 : Nat) (Z0 : n0 ≤ h0.size)  :
    OM l x code maxLocals ret room_1 ws Z #[(.long i0), (.long i1), (.long i2), (.long i3), (.long i4), (.int i5)] h0 n0 (Q0 Z i0 i1 i2 i3 i4 i5  h0) := by
  refine OM.of (plainFor_of_name pn_0) (fun m => ef_0 m i0 i1 i2 i3 i4 i5) ?_
  intro p e s m below meth c T X
  refine OG.iload X at_0 rfl ?_
  refine OG.ldcInt X (v := (2147483647 : Int32)) (hw _ (List.mem_of_getElem? (i := 0) rfl)) at_2 ?_
  refine OG.iand X at_4 ?_
  refine OG.istoreV X at_5 (l' := fun z => #[.val (.long i0), .second, .val (.long i1), .second, .val (.long i2), .second, .val (.long i3), .second, .val (.long i4), .second, .val (.int i5), .val (.int z), .unset, .unset, .unset, .unset, .unset, .unset, .unset, .unset, .unset, .unset, .unset, .unset, .unset, .unset, .unset, .unset, .unset, .unset, .unset, .unset, .unset, .unset, .unset, .unset, .unset, .unset, .unset, .unset, .unset]) (fun _ => rfl) ?_
  intro d hd
  refine OG.lloadN X at_7 rfl ?_
  refine OG.callS X (hw _ (List.mem_of_getElem? (i := 1) rfl)) (hw _ (List.mem_of_getElem? (i := 2) rfl)) (by decide) (rm1 l Z a0 hw [] i0 h0 n0) (hw _ (List.mem_of_getElem? (i := 4) rfl)) (hw _ (List.mem_of_getElem? (i := 3) rfl)) (by decide) (W := 0) (by decide) rfl (argsL := [(.long i0)]) pd_0 rfl at_8 rfl (Nat.le_of_eq rfl) (by decide) (by decide) ?_
  rintro _ T1 h2 X1 ⟨rfl, eh2⟩
  rw [eh2] at X1
  show OG p e below s n0 room_1.cells room_1.slots (Q0 Z i0 i1 i2 i3 i4 i5  h0) (T1.setTop (mkF m 11 #[.val (.long i0), .second, .val (.long i1), .second, .val (.long i2), .second, .val (.long i3), .second, .val (.long i4), .second, .val (.int i5), .val (.int d), .unset, .unset, .unset, .unset, .unset, .unset, .unset, .unset, .unset, .unset, .unset, .unset, .unset, .unset, .unset, .unset, .unset, .unset, .unset, .unset, .unset, .unset, .unset, .unset, .unset, .unset, .unset, .unset, .unset] [(.int (F1 i0))]))
  refine OG.istoreV X1 at_11 (l' := fun z => #[.val (.long i0), .second, .val (.long i1), .second, .val (.long i2), .second, .val (.long i3), .second, .val (.long i4), .second, .val (.int i5), .val (.int d), .val (.int z), .unset, .unset, .unset, .unset, .unset, .unset, .unset, .unset, .unset, .unset, .unset, .unset, .unset, .unset, .unset, .unset, .unset, .unset, .unset, .unset, .unset, .unset, .unset, .unset, .unset, .unset, .unset, .unset]) (fun _ => rfl) ?_
  intro a0_ ha0_
  refine OG.lloadN X1 at_13 rfl ?_
  refine OG.callS X1 (hw _ (List.mem_of_getElem? (i := 6) rfl)) (hw _ (List.mem_of_getElem? (i := 7) rfl)) (by decide) (rm2 l Z a0 hw [] i0 h0 n0) (hw _ (List.mem_of_getElem? (i := 8) rfl)) (hw _ (List.mem_of_getElem? (i := 3) rfl)) (by decide) (W := 0) (by decide) rfl (argsL := [(.long i0)]) pd_0 rfl at_14 rfl (Nat.le_of_eq rfl) (by decide) (by decide) ?_
  rintro _ T3 h4 X3 ⟨rfl, eh4⟩
  rw [eh4] at X3
  show OG p e below s n0 room_1.cells room_1.slots (Q0 Z i0 i1 i2 i3 i4 i5  h0) (T3.setTop (mkF m 17 #[.val (.long i0), .second, .val (.long i1), .second, .val (.long i2), .second, .val (.long i3), .second, .val (.long i4), .second, .val (.int i5), .val (.int d), .val (.int a0_), .unset, .unset, .unset, .unset, .unset, .unset, .unset, .unset, .unset, .unset, .unset, .unset, .unset, .unset, .unset, .unset, .unset, .unset, .unset, .unset, .unset, .unset, .unset, .unset, .unset, .unset, .unset, .unset] [(.int (F2 i0))]))
  refine OG.istoreV X3 at_17 (l' := fun z => #[.val (.long i0), .second, .val (.long i1), .second, .val (.long i2), .second, .val (.long i3), .second, .val (.long i4), .second, .val (.int i5), .val (.int d), .val (.int a0_), .val (.int z), .unset, .unset, .unset, .unset, .unset, .unset, .unset, .unset, .unset, .unset, .unset, .unset, .unset, .unset, .unset, .unset, .unset, .unset, .unset, .unset, .unset, .unset, .unset, .unset, .unset, .unset, .unset]) (fun _ => rfl) ?_
  intro a1_ ha1_
  refine OG.lloadN X3 at_19 rfl ?_
  refine OG.callS X3 (hw _ (List.mem_of_getElem? (i := 1) rfl)) (hw _ (List.mem_of_getElem? (i := 2) rfl)) (by decide) (rm1 l Z a0 hw [] i1 h0 n0) (hw _ (List.mem_of_getElem? (i := 4) rfl)) (hw _ (List.mem_of_getElem? (i := 3) rfl)) (by decide) (W := 0) (by decide) rfl (argsL := [(.long i1)]) pd_0 rfl at_20 rfl (Nat.le_of_eq rfl) (by decide) (by decide) ?_
  rintro _ T5 h6 X5 ⟨rfl, eh6⟩
  rw [eh6] at X5
  show OG p e below s n0 room_1.cells room_1.slots (Q0 Z i0 i1 i2 i3 i4 i5  h0) (T5.setTop (mkF m 23 #[.val (.long i0), .second, .val (.long i1), .second, .val (.long i2), .second, .val (.long i3), .second, .val (.long i4), .second, .val (.int i5), .val (.int d), .val (.int a0_), .val (.int a1_), .unset, .unset, .unset, .unset, .unset, .unset, .unset, .unset, .unset, .unset, .unset, .unset, .unset, .unset, .unset, .unset, .unset, .unset, .unset, .unset, .unset, .unset, .unset, .unset, .unset, .unset, .unset] [(.int (F1 i1))]))
  refine OG.istoreV X5 at_23 (l' := fun z => #[.val (.long i0), .second, .val (.long i1), .second, .val (.long i2), .second, .val (.long i3), .second, .val (.long i4), .second, .val (.int i5), .val (.int d), .val (.int a0_), .val (.int a1_), .val (.int z), .unset, .unset, .unset, .unset, .unset, .unset, .unset, .unset, .unset, .unset, .unset, .unset, .unset, .unset, .unset, .unset, .unset, .unset, .unset, .unset, .unset, .unset, .unset, .unset, .unset, .unset]) (fun _ => rfl) ?_
  intro a2_ ha2_
  refine OG.lloadN X5 at_25 rfl ?_
  refine OG.callS X5 (hw _ (List.mem_of_getElem? (i := 6) rfl)) (hw _ (List.mem_of_getElem? (i := 7) rfl)) (by decide) (rm2 l Z a0 hw [] i1 h0 n0) (hw _ (List.mem_of_getElem? (i := 8) rfl)) (hw _ (List.mem_of_getElem? (i := 3) rfl)) (by decide) (W := 0) (by decide) rfl (argsL := [(.long i1)]) pd_0 rfl at_26 rfl (Nat.le_of_eq rfl) (by decide) (by decide) ?_
  rintro _ T7 h8 X7 ⟨rfl, eh8⟩
  rw [eh8] at X7
  show OG p e below s n0 room_1.cells room_1.slots (Q0 Z i0 i1 i2 i3 i4 i5  h0) (T7.setTop (mkF m 29 #[.val (.long i0), .second, .val (.long i1), .second, .val (.long i2), .second, .val (.long i3), .second, .val (.long i4), .second, .val (.int i5), .val (.int d), .val (.int a0_), .val (.int a1_), .val (.int a2_), .unset, .unset, .unset, .unset, .unset, .unset, .unset, .unset, .unset, .unset, .unset, .unset, .unset, .unset, .unset, .unset, .unset, .unset, .unset, .unset, .unset, .unset, .unset, .unset, .unset, .unset] [(.int (F2 i1))]))
  refine OG.istoreV X7 at_29 (l' := fun z => #[.val (.long i0), .second, .val (.long i1), .second, .val (.long i2), .second, .val (.long i3), .second, .val (.long i4), .second, .val (.int i5), .val (.int d), .val (.int a0_), .val (.int a1_), .val (.int a2_), .val (.int z), .unset, .unset, .unset, .unset, .unset, .unset, .unset, .unset, .unset, .unset, .unset, .unset, .unset, .unset, .unset, .unset, .unset, .unset, .unset, .unset, .unset, .unset, .unset, .unset, .unset]) (fun _ => rfl) ?_
  intro x0 hx0
  refine OG.lload X7 at_31 rfl ?_
  refine OG.callS X7 (hw _ (List.mem_of_getElem? (i := 1) rfl)) (hw _ (List.mem_of_getElem? (i := 2) rfl)) (by decide) (rm1 l Z a0 hw [] i2 h0 n0) (hw _ (List.mem_of_getElem? (i := 4) rfl)) (hw _ (List.mem_of_getElem? (i := 3) rfl)) (by decide) (W := 0) (by decide) rfl (argsL := [(.long i2)]) pd_0 rfl at_33 rfl (Nat.le_of_eq rfl) (by decide) (by decide) ?_
  rintro _ T9 h10 X9 ⟨rfl, eh10⟩
  rw [eh10] at X9
  show OG p e below s n0 room_1.cells room_1.slots (Q0 Z i0 i1 i2 i3 i4 i5  h0) (T9.setTop (mkF m 36 #[.val (.long i0), .second, .val (.long i1), .second, .val (.long i2), .second, .val (.long i3), .second, .val (.long i4), .second, .val (.int i5), .val (.int d), .val (.int a0_), .val (.int a1_), .val (.int a2_), .val (.int x0), .unset, .unset, .unset, .unset, .unset, .unset, .unset, .unset, .unset, .unset, .unset, .unset, .unset, .unset, .unset, .unset, .unset, .unset, .unset, .unset, .unset, .unset, .unset, .unset, .unset] [(.int (F1 i2))]))
  refine OG.istoreV X9 at_36 (l' := fun z => #[.val (.long i0), .second, .val (.long i1), .second, .val (.long i2), .second, .val (.long i3), .second, .val (.long i4), .second, .val (.int i5), .val (.int d), .val (.int a0_), .val (.int a1_), .val (.int a2_), .val (.int x0), .val (.int z), .unset, .unset, .unset, .unset, .unset, .unset, .unset, .unset, .unset, .unset, .unset, .unset, .unset, .unset, .unset, .unset, .unset, .unset, .unset, .unset, .unset, .unset, .unset, .unset]) (fun _ => rfl) ?_
  intro x1 hx1
  refine OG.lload X9 at_38 rfl ?_
  refine OG.callS X9 (hw _ (List.mem_of_getElem? (i := 6) rfl)) (hw _ (List.mem_of_getElem? (i := 7) rfl)) (by decide) (rm2 l Z a0 hw [] i2 h0 n0) (hw _ (List.mem_of_getElem? (i := 8) rfl)) (hw _ (List.mem_of_getElem? (i := 3) rfl)) (by decide) (W := 0) (by decide) rfl (argsL := [(.long i2)]) pd_0 rfl at_40 rfl (Nat.le_of_eq rfl) (by decide) (by decide) ?_
  rintro _ T11 h12 X11 ⟨rfl, eh12⟩
  rw [eh12] at X11
  show OG p e below s n0 room_1.cells room_1.slots (Q0 Z i0 i1 i2 i3 i4 i5  h0) (T11.setTop (mkF m 43 #[.val (.long i0), .second, .val (.long i1), .second, .val (.long i2), .second, .val (.long i3), .second, .val (.long i4), .second, .val (.int i5), .val (.int d), .val (.int a0_), .val (.int a1_), .val (.int a2_), .val (.int x0), .val (.int x1), .unset, .unset, .unset, .unset, .unset, .unset, .unset, .unset, .unset, .unset, .unset, .unset, .unset, .unset, .unset, .unset, .unset, .unset, .unset, .unset, .unset, .unset, .unset, .unset] [(.int (F2 i2))]))
  refine OG.istoreV X11 at_43 (l' := fun z => #[.val (.long i0), .second, .val (.long i1), .second, .val (.long i2), .second, .val (.long i3), .second, .val (.long i4), .second, .val (.int i5), .val (.int d), .val (.int a0_), .val (.int a1_), .val (.int a2_), .val (.int x0), .val (.int x1), .val (.int z), .unset, .unset, .unset, .unset, .unset, .unset, .unset, .unset, .unset, .unset, .unset, .unset, .unset, .unset, .unset, .unset, .unset, .unset, .unset, .unset, .unset, .unset, .unset]) (fun _ => rfl) ?_
  intro x2 hx2
  refine OG.lload X11 at_45 rfl ?_
  refine OG.callS X11 (hw _ (List.mem_of_getElem? (i := 1) rfl)) (hw _ (List.mem_of_getElem? (i := 2) rfl)) (by decide) (rm1 l Z a0 hw [] i3 h0 n0) (hw _ (List.mem_of_getElem? (i := 4) rfl)) (hw _ (List.mem_of_getElem? (i := 3) rfl)) (by decide) (W := 0) (by decide) rfl (argsL := [(.long i3)]) pd_0 rfl at_47 rfl (Nat.le_of_eq rfl) (by decide) (by decide) ?_
  rintro _ T13 h14 X13 ⟨rfl, eh14⟩
  rw [eh14] at X13
  show OG p e below s n0 room_1.cells room_1.slots (Q0 Z i0 i1 i2 i3 i4 i5  h0) (T13.setTop (mkF m 50 #[.val (.long i0), .second, .val (.long i1), .second, .val (.long i2), .second, .val (.long i3), .second, .val (.long i4), .second, .val (.int i5), .val (.int d), .val (.int a0_), .val (.int a1_), .val (.int a2_), .val (.int x0), .val (.int x1), .val (.int x2), .unset, .unset, .unset, .unset, .unset, .unset, .unset, .unset, .unset, .unset, .unset, .unset, .unset, .unset, .unset, .unset, .unset, .unset, .unset, .unset, .unset, .unset, .unset] [(.int (F1 i3))]))
  refine OG.istoreV X13 at_50 (l' := fun z => #[.val (.long i0), .second, .val (.long i1), .second, .val (.long i2), .second, .val (.long i3), .second, .val (.long i4), .second, .val (.int i5), .val (.int d), .val (.int a0_), .val (.int a1_), .val (.int a2_), .val (.int x0), .val (.int x1), .val (.int x2), .val (.int z), .unset, .unset, .unset, .unset, .unset, .unset, .unset, .unset, .unset, .unset, .unset, .unset, .unset, .unset, .unset, .unset, .unset, .unset, .unset, .unset, .unset, .unset]) (fun _ => rfl) ?_
  intro b0_ hb0_
  refine OG.lload X13 at_52 rfl ?_
  refine OG.callS X13 (hw _ (List.mem_of_getElem? (i := 6) rfl)) (hw _ (List.mem_of_getElem? (i := 7) rfl)) (by decide) (rm2 l Z a0 hw [] i3 h0 n0) (hw _ (List.mem_of_getElem? (i := 8) rfl)) (hw _ (List.mem_of_getElem? (i := 3) rfl)) (by decide) (W := 0) (by decide) rfl (argsL := [(.long i3)]) pd_0 rfl at_54 rfl (Nat.le_of_eq rfl) (by decide) (by decide) ?_
  rintro _ T15 h16 X15 ⟨rfl, eh16⟩
  rw [eh16] at X15
  show OG p e below s n0 room_1.cells room_1.slots (Q0 Z i0 i1 i2 i3 i4 i5  h0) (T15.setTop (mkF m 57 #[.val (.long i0), .second, .val (.long i1), .second, .val (.long i2), .second, .val (.long i3), .second, .val (.long i4), .second, .val (.int i5), .val (.int d), .val (.int a0_), .val (.int a1_), .val (.int a2_), .val (.int x0), .val (.int x1), .val (.int x2), .val (.int b0_), .unset, .unset, .unset, .unset, .unset, .unset, .unset, .unset, .unset, .unset, .unset, .unset, .unset, .unset, .unset, .unset, .unset, .unset, .unset, .unset, .unset, .unset] [(.int (F2 i3))]))
  refine OG.istoreV X15 at_57 (l' := fun z => #[.val (.long i0), .second, .val (.long i1), .second, .val (.long i2), .second, .val (.long i3), .second, .val (.long i4), .second, .val (.int i5), .val (.int d), .val (.int a0_), .val (.int a1_), .val (.int a2_), .val (.int x0), .val (.int x1), .val (.int x2), .val (.int b0_), .val (.int z), .unset, .unset, .unset, .unset, .unset, .unset, .unset, .unset, .unset, .unset, .unset, .unset, .unset, .unset, .unset, .unset, .unset, .unset, .unset, .unset, .unset]) (fun _ => rfl) ?_
  intro b1_ hb1_
  refine OG.lload X15 at_59 rfl ?_
  refine OG.callS X15 (hw _ (List.mem_of_getElem? (i := 1) rfl)) (hw _ (List.mem_of_getElem? (i := 2) rfl)) (by decide) (rm1 l Z a0 hw [] i4 h0 n0) (hw _ (List.mem_of_getElem? (i := 4) rfl)) (hw _ (List.mem_of_getElem? (i := 3) rfl)) (by decide) (W := 0) (by decide) rfl (argsL := [(.long i4)]) pd_0 rfl at_61 rfl (Nat.le_of_eq rfl) (by decide) (by decide) ?_
  rintro _ T17 h18 X17 ⟨rfl, eh18⟩
  rw [eh18] at X17
  show OG p e below s n0 room_1.cells room_1.slots (Q0 Z i0 i1 i2 i3 i4 i5  h0) (T17.setTop (mkF m 64 #[.val (.long i0), .second, .val (.long i1), .second, .val (.long i2), .second, .val (.long i3), .second, .val (.long i4), .second, .val (.int i5), .val (.int d), .val (.int a0_), .val (.int a1_), .val (.int a2_), .val (.int x0), .val (.int x1), .val (.int x2), .val (.int b0_), .val (.int b1_), .unset, .unset, .unset, .unset, .unset, .unset, .unset, .unset, .unset, .unset, .unset, .unset, .unset, .unset, .unset, .unset, .unset, .unset, .unset, .unset, .unset] [(.int (F1 i4))]))
  refine OG.istoreV X17 at_64 (l' := fun z => #[.val (.long i0), .second, .val (.long i1), .second, .val (.long i2), .second, .val (.long i3), .second, .val (.long i4), .second, .val (.int i5), .val (.int d), .val (.int a0_), .val (.int a1_), .val (.int a2_), .val (.int x0), .val (.int x1), .val (.int x2), .val (.int b0_), .val (.int b1_), .val (.int z), .unset, .unset, .unset, .unset, .unset, .unset, .unset, .unset, .unset, .unset, .unset, .unset, .unset, .unset, .unset, .unset, .unset, .unset, .unset, .unset]) (fun _ => rfl) ?_
  intro y0 hy0
  refine OG.lload X17 at_66 rfl ?_
  refine OG.callS X17 (hw _ (List.mem_of_getElem? (i := 6) rfl)) (hw _ (List.mem_of_getElem? (i := 7) rfl)) (by decide) (rm2 l Z a0 hw [] i4 h0 n0) (hw _ (List.mem_of_getElem? (i := 8) rfl)) (hw _ (List.mem_of_getElem? (i := 3) rfl)) (by decide) (W := 0) (by decide) rfl (argsL := [(.long i4)]) pd_0 rfl at_68 rfl (Nat.le_of_eq rfl) (by decide) (by decide) ?_
  rintro _ T19 h20 X19 ⟨rfl, eh20⟩
  rw [eh20] at X19
  show OG p e below s n0 room_1.cells room_1.slots (Q0 Z i0 i1 i2 i3 i4 i5  h0) (T19.setTop (mkF m 71 #[.val (.long i0), .second, .val (.long i1), .second, .val (.long i2), .second, .val (.long i3), .second, .val (.long i4), .second, .val (.int i5), .val (.int d), .val (.int a0_), .val (.int a1_), .val (.int a2_), .val (.int x0), .val (.int x1), .val (.int x2), .val (.int b0_), .val (.int b1_), .val (.int y0), .unset, .unset, .unset, .unset, .unset, .unset, .unset, .unset, .unset, .unset, .unset, .unset, .unset, .unset, .unset, .unset, .unset, .unset, .unset, .unset] [(.int (F2 i4))]))
  refine OG.istoreV X19 at_71 (l' := fun z => #[.val (.long i0), .second, .val (.long i1), .second, .val (.long i2), .second, .val (.long i3), .second, .val (.long i4), .second, .val (.int i5), .val (.int d), .val (.int a0_), .val (.int a1_), .val (.int a2_), .val (.int x0), .val (.int x1), .val (.int x2), .val (.int b0_), .val (.int b1_), .val (.int y0), .val (.int z), .unset, .unset, .unset, .unset, .unset, .unset, .unset, .unset, .unset, .unset, .unset, .unset, .unset, .unset, .unset, .unset, .unset, .unset, .unset]) (fun _ => rfl) ?_
  intro y1 hy1
  refine OG.lloadN X19 at_73 rfl ?_
  refine OG.callS X19 (hw _ (List.mem_of_getElem? (i := 9) rfl)) (hw _ (List.mem_of_getElem? (i := 10) rfl)) (by decide) (rm3 l Z a0 hw [] i0 h0 n0) (hw _ (List.mem_of_getElem? (i := 11) rfl)) (hw _ (List.mem_of_getElem? (i := 3) rfl)) (by decide) (W := 0) (by decide) rfl (argsL := [(.long i0)]) pd_0 rfl at_74 rfl (Nat.le_of_eq rfl) (by decide) (by decide) ?_
  rintro _ T21 h22 X21 ⟨rfl, eh22⟩
  rw [eh22] at X21
  show OG p e below s n0 room_1.cells room_1.slots (Q0 Z i0 i1 i2 i3 i4 i5  h0) (T21.setTop (mkF m 77 #[.val (.long i0), .second, .val (.long i1), .second, .val (.long i2), .second, .val (.long i3), .second, .val (.long i4), .second, .val (.int i5), .val (.int d), .val (.int a0_), .val (.int a1_), .val (.int a2_), .val (.int x0), .val (.int x1), .val (.int x2), .val (.int b0_), .val (.int b1_), .val (.int y0), .val (.int y1), .unset, .unset, .unset, .unset, .unset, .unset, .unset, .unset, .unset, .unset, .unset, .unset, .unset, .unset, .unset, .unset, .unset, .unset, .unset] [(.int (F3 i0))]))
  refine OG.lloadN X21 at_77 rfl ?_
  refine OG.callS X21 (hw _ (List.mem_of_getElem? (i := 9) rfl)) (hw _ (List.mem_of_getElem? (i := 10) rfl)) (by decide) (rm3 l Z a0 hw [] i1 h0 n0) (hw _ (List.mem_of_getElem? (i := 11) rfl)) (hw _ (List.mem_of_getElem? (i := 3) rfl)) (by decide) (W := 1) (by decide) rfl (argsL := [(.long i1)]) pd_0 rfl at_78 rfl (Nat.le_of_eq rfl) (by decide) (by decide) ?_
  rintro _ T23 h24 X23 ⟨rfl, eh24⟩
  rw [eh24] at X23
  show OG p e below s n0 room_1.cells room_1.slots (Q0 Z i0 i1 i2 i3 i4 i5  h0) (T23.setTop (mkF m 81 #[.val (.long i0), .second, .val (.long i1), .second, .val (.long i2), .second, .val (.long i3), .second, .val (.long i4), .second, .val (.int i5), .val (.int d), .val (.int a0_), .val (.int a1_), .val (.int a2_), .val (.int x0), .val (.int x1), .val (.int x2), .val (.int b0_), .val (.int b1_), .val (.int y0), .val (.int y1), .unset, .unset, .unset, .unset, .unset, .unset, .unset, .unset, .unset, .unset, .unset, .unset, .unset, .unset, .unset, .unset, .unset, .unset, .unset] [(.int (F3 i1)), (.int (F3 i0))]))
  refine OG.iconst X23 at_81 (z := (1 : Int32)) rfl ?_
  refine OG.ishl X23 at_82 ?_
  refine OG.ior X23 at_83 ?_
  refine OG.istoreV X23 at_84 (l' := fun z => #[.val (.long i0), .second, .val (.long i1), .second, .val (.long i2), .second, .val (.long i3), .second, .val (.long i4), .second, .val (.int i5), .val (.int d), .val (.int a0_), .val (.int a1_), .val (.int a2_), .val (.int x0), .val (.int x1), .val (.int x2), .val (.int b0_), .val (.int b1_), .val (.int y0), .val (.int y1), .val (.int z), .unset, .unset, .unset, .unset, .unset, .unset, .unset, .unset, .unset, .unset, .unset, .unset, .unset, .unset, .unset, .unset, .unset, .unset]) (fun _ => rfl) ?_
  intro la hla
  obtain ⟨NA, hla2, hA3⟩ := own_la hla
  refine OG.iconst X23 at_86 (z := (2 : Int32)) rfl ?_
  refine OG.lload X23 at_87 rfl ?_
  refine OG.callS X23 (hw _ (List.mem_of_getElem? (i := 9) rfl)) (hw _ (List.mem_of_getElem? (i := 10) rfl)) (by decide) (rm3 l Z a0 hw [] i2 h0 n0) (hw _ (List.mem_of_getElem? (i := 11) rfl)) (hw _ (List.mem_of_getElem? (i := 3) rfl)) (by decide) (W := 1) (by decide) rfl (argsL := [(.long i2)]) pd_0 rfl at_89 rfl (Nat.le_of_eq rfl) (by decide) (by decide) ?_
  rintro _ T25 h26 X25 ⟨rfl, eh26⟩
  rw [eh26] at X25
  show OG p e below s n0 room_1.cells room_1.slots (Q0 Z i0 i1 i2 i3 i4 i5  h0) (T25.setTop (mkF m 92 #[.val (.long i0), .second, .val (.long i1), .second, .val (.long i2), .second, .val (.long i3), .second, .val (.long i4), .second, .val (.int i5), .val (.int d), .val (.int a0_), .val (.int a1_), .val (.int a2_), .val (.int x0), .val (.int x1), .val (.int x2), .val (.int b0_), .val (.int b1_), .val (.int y0), .val (.int y1), .val (.int la), .unset, .unset, .unset, .unset, .unset, .unset, .unset, .unset, .unset, .unset, .unset, .unset, .unset, .unset, .unset, .unset, .unset, .unset] [(.int (F3 i2)), (.int (2 : Int32))]))
  refine OG.lload X25 at_92 rfl ?_
  refine OG.callS X25 (hw _ (List.mem_of_getElem? (i := 9) rfl)) (hw _ (List.mem_of_getElem? (i := 10) rfl)) (by decide) (rm3 l Z a0 hw [] i3 h0 n0) (hw _ (List.mem_of_getElem? (i := 11) rfl)) (hw _ (List.mem_of_getElem? (i := 3) rfl)) (by decide) (W := 2) (by decide) rfl (argsL := [(.long i3)]) pd_0 rfl at_94 rfl (Nat.le_of_eq rfl) (by decide) (by decide) ?_
  rintro _ T27 h28 X27 ⟨rfl, eh28⟩
  rw [eh28] at X27
  show OG p e below s n0 room_1.cells room_1.slots (Q0 Z i0 i1 i2 i3 i4 i5  h0) (T27.setTop (mkF m 97 #[.val (.long i0), .second, .val (.long i1), .second, .val (.long i2), .second, .val (.long i3), .second, .val (.long i4), .second, .val (.int i5), .val (.int d), .val (.int a0_), .val (.int a1_), .val (.int a2_), .val (.int x0), .val (.int x1), .val (.int x2), .val (.int b0_), .val (.int b1_), .val (.int y0), .val (.int y1), .val (.int la), .unset, .unset, .unset, .unset, .unset, .unset, .unset, .unset, .unset, .unset, .unset, .unset, .unset, .unset, .unset, .unset, .unset, .unset] [(.int (F3 i3)), (.int (F3 i2)), (.int (2 : Int32))]))
  refine OG.iconst X27 at_97 (z := (1 : Int32)) rfl ?_
  refine OG.ishl X27 at_98 ?_
  refine OG.ior X27 at_99 ?_
  refine OG.callS X27 (hw _ (List.mem_of_getElem? (i := 12) rfl)) (hw _ (List.mem_of_getElem? (i := 13) rfl)) (by decide) (rm4 l Z a0 hw [] (2 : Int32) ((F3 i2) ||| ((F3 i3) <<< ((1 : Int32) &&& 31))) h0 n0) (hw _ (List.mem_of_getElem? (i := 15) rfl)) (hw _ (List.mem_of_getElem? (i := 14) rfl)) (by decide) (W := 0) (by decide) rfl (argsL := [(.int (2 : Int32)), (.int ((F3 i2) ||| ((F3 i3) <<< ((1 : Int32) &&& 31))))]) pd_1 rfl at_100 rfl (Nat.le_of_eq rfl) (by decide) (by decide) ?_
  rintro _ T29 h30 X29 ⟨rfl, eh30⟩
  rw [eh30] at X29
  show OG p e below s n0 room_1.cells room_1.slots (Q0 Z i0 i1 i2 i3 i4 i5  h0) (T29.setTop (mkF m 103 #[.val (.long i0), .second, .val (.long i1), .second, .val (.long i2), .second, .val (.long i3), .second, .val (.long i4), .second, .val (.int i5), .val (.int d), .val (.int a0_), .val (.int a1_), .val (.int a2_), .val (.int x0), .val (.int x1), .val (.int x2), .val (.int b0_), .val (.int b1_), .val (.int y0), .val (.int y1), .val (.int la), .unset, .unset, .unset, .unset, .unset, .unset, .unset, .unset, .unset, .unset, .unset, .unset, .unset, .unset, .unset, .unset, .unset, .unset] [(.int (F4 (2 : Int32) ((F3 i2) ||| ((F3 i3) <<< ((1 : Int32) &&& 31)))))]))
  refine OG.istoreV X29 at_103 (l' := fun z => #[.val (.long i0), .second, .val (.long i1), .second, .val (.long i2), .second, .val (.long i3), .second, .val (.long i4), .second, .val (.int i5), .val (.int d), .val (.int a0_), .val (.int a1_), .val (.int a2_), .val (.int x0), .val (.int x1), .val (.int x2), .val (.int b0_), .val (.int b1_), .val (.int y0), .val (.int y1), .val (.int la), .val (.int z), .unset, .unset, .unset, .unset, .unset, .unset, .unset, .unset, .unset, .unset, .unset, .unset, .unset, .unset, .unset, .unset, .unset]) (fun _ => rfl) ?_
  intro lb hlb
  obtain ⟨NB, hlb2, hB2⟩ := own_lb hlb
  refine OG.lload X29 at_105 rfl ?_
  refine OG.callS X29 (hw _ (List.mem_of_getElem? (i := 9) rfl)) (hw _ (List.mem_of_getElem? (i := 10) rfl)) (by decide) (rm3 l Z a0 hw [] i4 h0 n0) (hw _ (List.mem_of_getElem? (i := 11) rfl)) (hw _ (List.mem_of_getElem? (i := 3) rfl)) (by decide) (W := 0) (by decide) rfl (argsL := [(.long i4)]) pd_0 rfl at_107 rfl (Nat.le_of_eq rfl) (by decide) (by decide) ?_
  rintro _ T31 h32 X31 ⟨rfl, eh32⟩
  rw [eh32] at X31
  show OG p e below s n0 room_1.cells room_1.slots (Q0 Z i0 i1 i2 i3 i4 i5  h0) (T31.setTop (mkF m 110 #[.val (.long i0), .second, .val (.long i1), .second, .val (.long i2), .second, .val (.long i3), .second, .val (.long i4), .second, .val (.int i5), .val (.int d), .val (.int a0_), .val (.int a1_), .val (.int a2_), .val (.int x0), .val (.int x1), .val (.int x2), .val (.int b0_), .val (.int b1_), .val (.int y0), .val (.int y1), .val (.int la), .val (.int lb), .unset, .unset, .unset, .unset, .unset, .unset, .unset, .unset, .unset, .unset, .unset, .unset, .unset, .unset, .unset, .unset, .unset] [(.int (F3 i4))]))
  refine OG.iconst X31 at_110 (z := (1 : Int32)) rfl ?_
  have hj33 : ∀ sw : Int32, sw = (if (F3 i4) = (1 : Int32) then (1 : Int32) else (0 : Int32)) → OG p e below s n0 room_1.cells room_1.slots (Q0 Z i0 i1 i2 i3 i4 i5  h0) (T31.setTop (mkF m 119 #[.val (.long i0), .second, .val (.long i1), .second, .val (.long i2), .second, .val (.long i3), .second, .val (.long i4), .second, .val (.int i5), .val (.int d), .val (.int a0_), .val (.int a1_), .val (.int a2_), .val (.int x0), .val (.int x1), .val (.int x2), .val (.int b0_), .val (.int b1_), .val (.int y0), .val (.int y1), .val (.int la), .val (.int lb), .unset, .unset, .unset, .unset, .unset, .unset, .unset, .unset, .unset, .unset, .unset, .unset, .unset, .unset, .unset, .unset, .unset] [(.int sw)])) := by
    intro sw hsw
    refine OG.istore X31 at_119 (l' := #[.val (.long i0), .second, .val (.long i1), .second, .val (.long i2), .second, .val (.long i3), .second, .val (.long i4), .second, .val (.int i5), .val (.int d), .val (.int a0_), .val (.int a1_), .val (.int a2_), .val (.int x0), .val (.int x1), .val (.int x2), .val (.int b0_), .val (.int b1_), .val (.int y0), .val (.int y1), .val (.int la), .val (.int lb), .val (.int sw), .unset, .unset, .unset, .unset, .unset, .unset, .unset, .unset, .unset, .unset, .unset, .unset, .unset, .unset, .unset, .unset]) rfl ?_
    refine OG.iload X31 at_121 rfl ?_
    refine OG.iload X31 at_123 rfl ?_
    refine OG.callS X31 (hw _ (List.mem_of_getElem? (i := 12) rfl)) (hw _ (List.mem_of_getElem? (i := 13) rfl)) (by decide) (rm4 l Z a0 hw [] a0_ a1_ h0 n0) (hw _ (List.mem_of_getElem? (i := 15) rfl)) (hw _ (List.mem_of_getElem? (i := 14) rfl)) (by decide) (W := 0) (by decide) rfl (argsL := [(.int a0_), (.int a1_)]) pd_1 rfl at_125 rfl (Nat.le_of_eq rfl) (by decide) (by decide) ?_
    rintro _ T34 h35 X34 ⟨rfl, eh35⟩
    rw [eh35] at X34
    show OG p e below s n0 room_1.cells room_1.slots (Q0 Z i0 i1 i2 i3 i4 i5  h0) (T34.setTop (mkF m 128 #[.val (.long i0), .second, .val (.long i1), .second, .val (.long i2), .second, .val (.long i3), .second, .val (.long i4), .second, .val (.int i5), .val (.int d), .val (.int a0_), .val (.int a1_), .val (.int a2_), .val (.int x0), .val (.int x1), .val (.int x2), .val (.int b0_), .val (.int b1_), .val (.int y0), .val (.int y1), .val (.int la), .val (.int lb), .val (.int sw), .unset, .unset, .unset, .unset, .unset, .unset, .unset, .unset, .unset, .unset, .unset, .unset, .unset, .unset, .unset, .unset] [(.int (F4 a0_ a1_))]))
    refine OG.iload X34 at_128 rfl ?_
    refine OG.callS X34 (hw _ (List.mem_of_getElem? (i := 12) rfl)) (hw _ (List.mem_of_getElem? (i := 13) rfl)) (by decide) (rm4 l Z a0 hw [] (F4 a0_ a1_) a2_ h0 n0) (hw _ (List.mem_of_getElem? (i := 15) rfl)) (hw _ (List.mem_of_getElem? (i := 14) rfl)) (by decide) (W := 0) (by decide) rfl (argsL := [(.int (F4 a0_ a1_)), (.int a2_)]) pd_1 rfl at_130 rfl (Nat.le_of_eq rfl) (by decide) (by decide) ?_
    rintro _ T36 h37 X36 ⟨rfl, eh37⟩
    rw [eh37] at X36
    show OG p e below s n0 room_1.cells room_1.slots (Q0 Z i0 i1 i2 i3 i4 i5  h0) (T36.setTop (mkF m 133 #[.val (.long i0), .second, .val (.long i1), .second, .val (.long i2), .second, .val (.long i3), .second, .val (.long i4), .second, .val (.int i5), .val (.int d), .val (.int a0_), .val (.int a1_), .val (.int a2_), .val (.int x0), .val (.int x1), .val (.int x2), .val (.int b0_), .val (.int b1_), .val (.int y0), .val (.int y1), .val (.int la), .val (.int lb), .val (.int sw), .unset, .unset, .unset, .unset, .unset, .unset, .unset, .unset, .unset, .unset, .unset, .unset, .unset, .unset, .unset, .unset] [(.int (F4 (F4 a0_ a1_) a2_))]))
    refine OG.istoreV X36 at_133 (l' := fun z => #[.val (.long i0), .second, .val (.long i1), .second, .val (.long i2), .second, .val (.long i3), .second, .val (.long i4), .second, .val (.int i5), .val (.int d), .val (.int a0_), .val (.int a1_), .val (.int a2_), .val (.int x0), .val (.int x1), .val (.int x2), .val (.int b0_), .val (.int b1_), .val (.int y0), .val (.int y1), .val (.int la), .val (.int lb), .val (.int sw), .val (.int z), .unset, .unset, .unset, .unset, .unset, .unset, .unset, .unset, .unset, .unset, .unset, .unset, .unset, .unset, .unset]) (fun _ => rfl) ?_
    intro s0 hs0
    refine OG.iload X36 at_135 rfl ?_
    refine OG.iload X36 at_137 rfl ?_
    refine OG.callS X36 (hw _ (List.mem_of_getElem? (i := 12) rfl)) (hw _ (List.mem_of_getElem? (i := 13) rfl)) (by decide) (rm4 l Z a0 hw [] a0_ a1_ h0 n0) (hw _ (List.mem_of_getElem? (i := 15) rfl)) (hw _ (List.mem_of_getElem? (i := 14) rfl)) (by decide) (W := 0) (by decide) rfl (argsL := [(.int a0_), (.int a1_)]) pd_1 rfl at_139 rfl (Nat.le_of_eq rfl) (by decide) (by decide) ?_
    rintro _ T38 h39 X38 ⟨rfl, eh39⟩
    rw [eh39] at X38
    show OG p e below s n0 room_1.cells room_1.slots (Q0 Z i0 i1 i2 i3 i4 i5  h0) (T38.setTop (mkF m 142 #[.val (.long i0), .second, .val (.long i1), .second, .val (.long i2), .second, .val (.long i3), .second, .val (.long i4), .second, .val (.int i5), .val (.int d), .val (.int a0_), .val (.int a1_), .val (.int a2_), .val (.int x0), .val (.int x1), .val (.int x2), .val (.int b0_), .val (.int b1_), .val (.int y0), .val (.int y1), .val (.int la), .val (.int lb), .val (.int sw), .val (.int s0), .unset, .unset, .unset, .unset, .unset, .unset, .unset, .unset, .unset, .unset, .unset, .unset, .unset, .unset, .unset] [(.int (F4 a0_ a1_))]))
    refine OG.iload X38 at_142 rfl ?_
    refine OG.iload X38 at_144 rfl ?_
    refine OG.callS X38 (hw _ (List.mem_of_getElem? (i := 16) rfl)) (hw _ (List.mem_of_getElem? (i := 17) rfl)) (by decide) (rm5 l Z a0 hw [] a0_ a1_ h0 n0) (hw _ (List.mem_of_getElem? (i := 18) rfl)) (hw _ (List.mem_of_getElem? (i := 14) rfl)) (by decide) (W := 1) (by decide) rfl (argsL := [(.int a0_), (.int a1_)]) pd_1 rfl at_146 rfl (Nat.le_of_eq rfl) (by decide) (by decide) ?_
    rintro _ T40 h41 X40 ⟨rfl, eh41⟩
    rw [eh41] at X40
    show OG p e below s n0 room_1.cells room_1.slots (Q0 Z i0 i1 i2 i3 i4 i5  h0) (T40.setTop (mkF m 149 #[.val (.long i0), .second, .val (.long i1), .second, .val (.long i2), .second, .val (.long i3), .second, .val (.long i4), .second, .val (.int i5), .val (.int d), .val (.int a0_), .val (.int a1_), .val (.int a2_), .val (.int x0), .val (.int x1), .val (.int x2), .val (.int b0_), .val (.int b1_), .val (.int y0), .val (.int y1), .val (.int la), .val (.int lb), .val (.int sw), .val (.int s0), .unset, .unset, .unset, .unset, .unset, .unset, .unset, .unset, .unset, .unset, .unset, .unset, .unset, .unset, .unset] [(.int (F5 a0_ a1_)), (.int (F4 a0_ a1_))]))
    refine OG.iload X40 at_149 rfl ?_
    refine OG.callS X40 (hw _ (List.mem_of_getElem? (i := 12) rfl)) (hw _ (List.mem_of_getElem? (i := 13) rfl)) (by decide) (rm4 l Z a0 hw [] (F5 a0_ a1_) a2_ h0 n0) (hw _ (List.mem_of_getElem? (i := 15) rfl)) (hw _ (List.mem_of_getElem? (i := 14) rfl)) (by decide) (W := 1) (by decide) rfl (argsL := [(.int (F5 a0_ a1_)), (.int a2_)]) pd_1 rfl at_151 rfl (Nat.le_of_eq rfl) (by decide) (by decide) ?_
    rintro _ T42 h43 X42 ⟨rfl, eh43⟩
    rw [eh43] at X42
    show OG p e below s n0 room_1.cells room_1.slots (Q0 Z i0 i1 i2 i3 i4 i5  h0) (T42.setTop (mkF m 154 #[.val (.long i0), .second, .val (.long i1), .second, .val (.long i2), .second, .val (.long i3), .second, .val (.long i4), .second, .val (.int i5), .val (.int d), .val (.int a0_), .val (.int a1_), .val (.int a2_), .val (.int x0), .val (.int x1), .val (.int x2), .val (.int b0_), .val (.int b1_), .val (.int y0), .val (.int y1), .val (.int la), .val (.int lb), .val (.int sw), .val (.int s0), .unset, .unset, .unset, .unset, .unset, .unset, .unset, .unset, .unset, .unset, .unset, .unset, .unset, .unset, .unset] [(.int (F4 (F5 a0_ a1_) a2_)), (.int (F4 a0_ a1_))]))
    refine OG.callS X42 (hw _ (List.mem_of_getElem? (i := 16) rfl)) (hw _ (List.mem_of_getElem? (i := 17) rfl)) (by decide) (rm5 l Z a0 hw [] (F4 a0_ a1_) (F4 (F5 a0_ a1_) a2_) h0 n0) (hw _ (List.mem_of_getElem? (i := 18) rfl)) (hw _ (List.mem_of_getElem? (i := 14) rfl)) (by decide) (W := 0) (by decide) rfl (argsL := [(.int (F4 a0_ a1_)), (.int (F4 (F5 a0_ a1_) a2_))]) pd_1 rfl at_154 rfl (Nat.le_of_eq rfl) (by decide) (by decide) ?_
    rintro _ T44 h45 X44 ⟨rfl, eh45⟩
    rw [eh45] at X44
    show OG p e below s n0 room_1.cells room_1.slots (Q0 Z i0 i1 i2 i3 i4 i5  h0) (T44.setTop (mkF m 157 #[.val (.long i0), .second, .val (.long i1), .second, .val (.long i2), .second, .val (.long i3), .second, .val (.long i4), .second, .val (.int i5), .val (.int d), .val (.int a0_), .val (.int a1_), .val (.int a2_), .val (.int x0), .val (.int x1), .val (.int x2), .val (.int b0_), .val (.int b1_), .val (.int y0), .val (.int y1), .val (.int la), .val (.int lb), .val (.int sw), .val (.int s0), .unset, .unset, .unset, .unset, .unset, .unset, .unset, .unset, .unset, .unset, .unset, .unset, .unset, .unset, .unset] [(.int (F5 (F4 a0_ a1_) (F4 (F5 a0_ a1_) a2_)))]))
    refine OG.istoreV X44 at_157 (l' := fun z => #[.val (.long i0), .second, .val (.long i1), .second, .val (.long i2), .second, .val (.long i3), .second, .val (.long i4), .second, .val (.int i5), .val (.int d), .val (.int a0_), .val (.int a1_), .val (.int a2_), .val (.int x0), .val (.int x1), .val (.int x2), .val (.int b0_), .val (.int b1_), .val (.int y0), .val (.int y1), .val (.int la), .val (.int lb), .val (.int sw), .val (.int s0), .val (.int z), .unset, .unset, .unset, .unset, .unset, .unset, .unset, .unset, .unset, .unset, .unset, .unset, .unset, .unset]) (fun _ => rfl) ?_
    intro s1 hs1
    refine OG.iload X44 at_159 rfl ?_
    refine OG.iload X44 at_161 rfl ?_
    refine OG.callS X44 (hw _ (List.mem_of_getElem? (i := 16) rfl)) (hw _ (List.mem_of_getElem? (i := 17) rfl)) (by decide) (rm5 l Z a0 hw [] a0_ a1_ h0 n0) (hw _ (List.mem_of_getElem? (i := 18) rfl)) (hw _ (List.mem_of_getElem? (i := 14) rfl)) (by decide) (W := 0) (by decide) rfl (argsL := [(.int a0_), (.int a1_)]) pd_1 rfl at_163 rfl (Nat.le_of_eq rfl) (by decide) (by decide) ?_
    rintro _ T46 h47 X46 ⟨rfl, eh47⟩
    rw [eh47] at X46
    show OG p e below s n0 room_1.cells room_1.slots (Q0 Z i0 i1 i2 i3 i4 i5  h0) (T46.setTop (mkF m 166 #[.val (.long i0), .second, .val (.long i1), .second, .val (.long i2), .second, .val (.long i3), .second, .val (.long i4), .second, .val (.int i5), .val (.int d), .val (.int a0_), .val (.int a1_), .val (.int a2_), .val (.int x0), .val (.int x1), .val (.int x2), .val (.int b0_), .val (.int b1_), .val (.int y0), .val (.int y1), .val (.int la), .val (.int lb), .val (.int sw), .val (.int s0), .val (.int s1), .unset, .unset, .unset, .unset, .unset, .unset, .unset, .unset, .unset, .unset, .unset, .unset, .unset, .unset] [(.int (F5 a0_ a1_))]))
    refine OG.iload X46 at_166 rfl ?_
    refine OG.callS X46 (hw _ (List.mem_of_getElem? (i := 16) rfl)) (hw _ (List.mem_of_getElem? (i := 17) rfl)) (by decide) (rm5 l Z a0 hw [] (F5 a0_ a1_) a2_ h0 n0) (hw _ (List.mem_of_getElem? (i := 18) rfl)) (hw _ (List.mem_of_getElem? (i := 14) rfl)) (by decide) (W := 0) (by decide) rfl (argsL := [(.int (F5 a0_ a1_)), (.int a2_)]) pd_1 rfl at_168 rfl (Nat.le_of_eq rfl) (by decide) (by decide) ?_
    rintro _ T48 h49 X48 ⟨rfl, eh49⟩
    rw [eh49] at X48
    show OG p e below s n0 room_1.cells room_1.slots (Q0 Z i0 i1 i2 i3 i4 i5  h0) (T48.setTop (mkF m 171 #[.val (.long i0), .second, .val (.long i1), .second, .val (.long i2), .second, .val (.long i3), .second, .val (.long i4), .second, .val (.int i5), .val (.int d), .val (.int a0_), .val (.int a1_), .val (.int a2_), .val (.int x0), .val (.int x1), .val (.int x2), .val (.int b0_), .val (.int b1_), .val (.int y0), .val (.int y1), .val (.int la), .val (.int lb), .val (.int sw), .val (.int s0), .val (.int s1), .unset, .unset, .unset, .unset, .unset, .unset, .unset, .unset, .unset, .unset, .unset, .unset, .unset, .unset] [(.int (F5 (F5 a0_ a1_) a2_))]))
    refine OG.istoreV X48 at_171 (l' := fun z => #[.val (.long i0), .second, .val (.long i1), .second, .val (.long i2), .second, .val (.long i3), .second, .val (.long i4), .second, .val (.int i5), .val (.int d), .val (.int a0_), .val (.int a1_), .val (.int a2_), .val (.int x0), .val (.int x1), .val (.int x2), .val (.int b0_), .val (.int b1_), .val (.int y0), .val (.int y1), .val (.int la), .val (.int lb), .val (.int sw), .val (.int s0), .val (.int s1), .val (.int z), .unset, .unset, .unset, .unset, .unset, .unset, .unset, .unset, .unset, .unset, .unset, .unset, .unset]) (fun _ => rfl) ?_
    intro s2 hs2
    refine OG.iload X48 at_173 rfl ?_
    refine OG.iload X48 at_175 rfl ?_
    refine OG.callS X48 (hw _ (List.mem_of_getElem? (i := 16) rfl)) (hw _ (List.mem_of_getElem? (i := 17) rfl)) (by decide) (rm5 l Z a0 hw [] s0 x0 h0 n0) (hw _ (List.mem_of_getElem? (i := 18) rfl)) (hw _ (List.mem_of_getElem? (i := 14) rfl)) (by decide) (W := 0) (by decide) rfl (argsL := [(.int s0), (.int x0)]) pd_1 rfl at_177 rfl (Nat.le_of_eq rfl) (by decide) (by decide) ?_
    rintro _ T50 h51 X50 ⟨rfl, eh51⟩
    rw [eh51] at X50
    show OG p e below s n0 room_1.cells room_1.slots (Q0 Z i0 i1 i2 i3 i4 i5  h0) (T50.setTop (mkF m 180 #[.val (.long i0), .second, .val (.long i1), .second, .val (.long i2), .second, .val (.long i3), .second, .val (.long i4), .second, .val (.int i5), .val (.int d), .val (.int a0_), .val (.int a1_), .val (.int a2_), .val (.int x0), .val (.int x1), .val (.int x2), .val (.int b0_), .val (.int b1_), .val (.int y0), .val (.int y1), .val (.int la), .val (.int lb), .val (.int sw), .val (.int s0), .val (.int s1), .val (.int s2), .unset, .unset, .unset, .unset, .unset, .unset, .unset, .unset, .unset, .unset, .unset, .unset, .unset] [(.int (F5 s0 x0))]))
    refine OG.istoreV X50 at_180 (l' := fun z => #[.val (.long i0), .second, .val (.long i1), .second, .val (.long i2), .second, .val (.long i3), .second, .val (.long i4), .second, .val (.int i5), .val (.int d), .val (.int a0_), .val (.int a1_), .val (.int a2_), .val (.int x0), .val (.int x1), .val (.int x2), .val (.int b0_), .val (.int b1_), .val (.int y0), .val (.int y1), .val (.int la), .val (.int lb), .val (.int sw), .val (.int s0), .val (.int s1), .val (.int s2), .val (.int z), .unset, .unset, .unset, .unset, .unset, .unset, .unset, .unset, .unset, .unset, .unset, .unset]) (fun _ => rfl) ?_
    intro e0 he0
    refine OG.iload X50 at_182 rfl ?_
    refine OG.iload X50 at_184 rfl ?_
    refine OG.callS X50 (hw _ (List.mem_of_getElem? (i := 16) rfl)) (hw _ (List.mem_of_getElem? (i := 17) rfl)) (by decide) (rm5 l Z a0 hw [] s1 x1 h0 n0) (hw _ (List.mem_of_getElem? (i := 18) rfl)) (hw _ (List.mem_of_getElem? (i := 14) rfl)) (by decide) (W := 0) (by decide) rfl (argsL := [(.int s1), (.int x1)]) pd_1 rfl at_186 rfl (Nat.le_of_eq rfl) (by decide) (by decide) ?_
    rintro _ T52 h53 X52 ⟨rfl, eh53⟩
    rw [eh53] at X52
    show OG p e below s n0 room_1.cells room_1.slots (Q0 Z i0 i1 i2 i3 i4 i5  h0) (T52.setTop (mkF m 189 #[.val (.long i0), .second, .val (.long i1), .second, .val (.long i2), .second, .val (.long i3), .second, .val (.long i4), .second, .val (.int i5), .val (.int d), .val (.int a0_), .val (.int a1_), .val (.int a2_), .val (.int x0), .val (.int x1), .val (.int x2), .val (.int b0_), .val (.int b1_), .val (.int y0), .val (.int y1), .val (.int la), .val (.int lb), .val (.int sw), .val (.int s0), .val (.int s1), .val (.int s2), .val (.int e0), .unset, .unset, .unset, .unset, .unset, .unset, .unset, .unset, .unset, .unset, .unset, .unset] [(.int (F5 s1 x1))]))
    refine OG.istoreV X52 at_189 (l' := fun z => #[.val (.long i0), .second, .val (.long i1), .second, .val (.long i2), .second, .val (.long i3), .second, .val (.long i4), .second, .val (.int i5), .val (.int d), .val (.int a0_), .val (.int a1_), .val (.int a2_), .val (.int x0), .val (.int x1), .val (.int x2), .val (.int b0_), .val (.int b1_), .val (.int y0), .val (.int y1), .val (.int la), .val (.int lb), .val (.int sw), .val (.int s0), .val (.int s1), .val (.int s2), .val (.int e0), .val (.int z), .unset, .unset, .unset, .unset, .unset, .unset, .unset, .unset, .unset, .unset, .unset]) (fun _ => rfl) ?_
    intro e1 he1
    refine OG.iload X52 at_191 rfl ?_
    refine OG.iload X52 at_193 rfl ?_
    refine OG.callS X52 (hw _ (List.mem_of_getElem? (i := 16) rfl)) (hw _ (List.mem_of_getElem? (i := 17) rfl)) (by decide) (rm5 l Z a0 hw [] s2 x2 h0 n0) (hw _ (List.mem_of_getElem? (i := 18) rfl)) (hw _ (List.mem_of_getElem? (i := 14) rfl)) (by decide) (W := 0) (by decide) rfl (argsL := [(.int s2), (.int x2)]) pd_1 rfl at_195 rfl (Nat.le_of_eq rfl) (by decide) (by decide) ?_
    rintro _ T54 h55 X54 ⟨rfl, eh55⟩
    rw [eh55] at X54
    show OG p e below s n0 room_1.cells room_1.slots (Q0 Z i0 i1 i2 i3 i4 i5  h0) (T54.setTop (mkF m 198 #[.val (.long i0), .second, .val (.long i1), .second, .val (.long i2), .second, .val (.long i3), .second, .val (.long i4), .second, .val (.int i5), .val (.int d), .val (.int a0_), .val (.int a1_), .val (.int a2_), .val (.int x0), .val (.int x1), .val (.int x2), .val (.int b0_), .val (.int b1_), .val (.int y0), .val (.int y1), .val (.int la), .val (.int lb), .val (.int sw), .val (.int s0), .val (.int s1), .val (.int s2), .val (.int e0), .val (.int e1), .unset, .unset, .unset, .unset, .unset, .unset, .unset, .unset, .unset, .unset, .unset] [(.int (F5 s2 x2))]))
    refine OG.istoreV X54 at_198 (l' := fun z => #[.val (.long i0), .second, .val (.long i1), .second, .val (.long i2), .second, .val (.long i3), .second, .val (.long i4), .second, .val (.int i5), .val (.int d), .val (.int a0_), .val (.int a1_), .val (.int a2_), .val (.int x0), .val (.int x1), .val (.int x2), .val (.int b0_), .val (.int b1_), .val (.int y0), .val (.int y1), .val (.int la), .val (.int lb), .val (.int sw), .val (.int s0), .val (.int s1), .val (.int s2), .val (.int e0), .val (.int e1), .val (.int z), .unset, .unset, .unset, .unset, .unset, .unset, .unset, .unset, .unset, .unset]) (fun _ => rfl) ?_
    intro e2 he2
    refine OG.iload X54 at_200 rfl ?_
    refine OG.iload X54 at_202 rfl ?_
    refine OG.callS X54 (hw _ (List.mem_of_getElem? (i := 12) rfl)) (hw _ (List.mem_of_getElem? (i := 13) rfl)) (by decide) (rm4 l Z a0 hw [] b0_ b1_ h0 n0) (hw _ (List.mem_of_getElem? (i := 15) rfl)) (hw _ (List.mem_of_getElem? (i := 14) rfl)) (by decide) (W := 0) (by decide) rfl (argsL := [(.int b0_), (.int b1_)]) pd_1 rfl at_204 rfl (Nat.le_of_eq rfl) (by decide) (by decide) ?_
    rintro _ T56 h57 X56 ⟨rfl, eh57⟩
    rw [eh57] at X56
    show OG p e below s n0 room_1.cells room_1.slots (Q0 Z i0 i1 i2 i3 i4 i5  h0) (T56.setTop (mkF m 207 #[.val (.long i0), .second, .val (.long i1), .second, .val (.long i2), .second, .val (.long i3), .second, .val (.long i4), .second, .val (.int i5), .val (.int d), .val (.int a0_), .val (.int a1_), .val (.int a2_), .val (.int x0), .val (.int x1), .val (.int x2), .val (.int b0_), .val (.int b1_), .val (.int y0), .val (.int y1), .val (.int la), .val (.int lb), .val (.int sw), .val (.int s0), .val (.int s1), .val (.int s2), .val (.int e0), .val (.int e1), .val (.int e2), .unset, .unset, .unset, .unset, .unset, .unset, .unset, .unset, .unset, .unset] [(.int (F4 b0_ b1_))]))
    refine OG.istoreV X56 at_207 (l' := fun z => #[.val (.long i0), .second, .val (.long i1), .second, .val (.long i2), .second, .val (.long i3), .second, .val (.long i4), .second, .val (.int i5), .val (.int d), .val (.int a0_), .val (.int a1_), .val (.int a2_), .val (.int x0), .val (.int x1), .val (.int x2), .val (.int b0_), .val (.int b1_), .val (.int y0), .val (.int y1), .val (.int la), .val (.int lb), .val (.int sw), .val (.int s0), .val (.int s1), .val (.int s2), .val (.int e0), .val (.int e1), .val (.int e2), .val (.int z), .unset, .unset, .unset, .unset, .unset, .unset, .unset, .unset, .unset]) (fun _ => rfl) ?_
    intro t0 ht0
    refine OG.iload X56 at_209 rfl ?_
    refine OG.iload X56 at_211 rfl ?_
    refine OG.callS X56 (hw _ (List.mem_of_getElem? (i := 16) rfl)) (hw _ (List.mem_of_getElem? (i := 17) rfl)) (by decide) (rm5 l Z a0 hw [] b0_ b1_ h0 n0) (hw _ (List.mem_of_getElem? (i := 18) rfl)) (hw _ (List.mem_of_getElem? (i := 14) rfl)) (by decide) (W := 0) (by decide) rfl (argsL := [(.int b0_), (.int b1_)]) pd_1 rfl at_213 rfl (Nat.le_of_eq rfl) (by decide) (by decide) ?_
    rintro _ T58 h59 X58 ⟨rfl, eh59⟩
    rw [eh59] at X58
    show OG p e below s n0 room_1.cells room_1.slots (Q0 Z i0 i1 i2 i3 i4 i5  h0) (T58.setTop (mkF m 216 #[.val (.long i0), .second, .val (.long i1), .second, .val (.long i2), .second, .val (.long i3), .second, .val (.long i4), .second, .val (.int i5), .val (.int d), .val (.int a0_), .val (.int a1_), .val (.int a2_), .val (.int x0), .val (.int x1), .val (.int x2), .val (.int b0_), .val (.int b1_), .val (.int y0), .val (.int y1), .val (.int la), .val (.int lb), .val (.int sw), .val (.int s0), .val (.int s1), .val (.int s2), .val (.int e0), .val (.int e1), .val (.int e2), .val (.int t0), .unset, .unset, .unset, .unset, .unset, .unset, .unset, .unset, .unset] [(.int (F5 b0_ b1_))]))
    refine OG.istoreV X58 at_216 (l' := fun z => #[.val (.long i0), .second, .val (.long i1), .second, .val (.long i2), .second, .val (.long i3), .second, .val (.long i4), .second, .val (.int i5), .val (.int d), .val (.int a0_), .val (.int a1_), .val (.int a2_), .val (.int x0), .val (.int x1), .val (.int x2), .val (.int b0_), .val (.int b1_), .val (.int y0), .val (.int y1), .val (.int la), .val (.int lb), .val (.int sw), .val (.int s0), .val (.int s1), .val (.int s2), .val (.int e0), .val (.int e1), .val (.int e2), .val (.int t0), .val (.int z), .unset, .unset, .unset, .unset, .unset, .unset, .unset, .unset]) (fun _ => rfl) ?_
    intro t1 ht1
    refine OG.iload X58 at_218 rfl ?_
    refine OG.iload X58 at_220 rfl ?_
    refine OG.callS X58 (hw _ (List.mem_of_getElem? (i := 16) rfl)) (hw _ (List.mem_of_getElem? (i := 17) rfl)) (by decide) (rm5 l Z a0 hw [] t0 y0 h0 n0) (hw _ (List.mem_of_getElem? (i := 18) rfl)) (hw _ (List.mem_of_getElem? (i := 14) rfl)) (by decide) (W := 0) (by decide) rfl (argsL := [(.int t0), (.int y0)]) pd_1 rfl at_222 rfl (Nat.le_of_eq rfl) (by decide) (by decide) ?_
    rintro _ T60 h61 X60 ⟨rfl, eh61⟩
    rw [eh61] at X60
    show OG p e below s n0 room_1.cells room_1.slots (Q0 Z i0 i1 i2 i3 i4 i5  h0) (T60.setTop (mkF m 225 #[.val (.long i0), .second, .val (.long i1), .second, .val (.long i2), .second, .val (.long i3), .second, .val (.long i4), .second, .val (.int i5), .val (.int d), .val (.int a0_), .val (.int a1_), .val (.int a2_), .val (.int x0), .val (.int x1), .val (.int x2), .val (.int b0_), .val (.int b1_), .val (.int y0), .val (.int y1), .val (.int la), .val (.int lb), .val (.int sw), .val (.int s0), .val (.int s1), .val (.int s2), .val (.int e0), .val (.int e1), .val (.int e2), .val (.int t0), .val (.int t1), .unset, .unset, .unset, .unset, .unset, .unset, .unset, .unset] [(.int (F5 t0 y0))]))
    refine OG.istoreV X60 at_225 (l' := fun z => #[.val (.long i0), .second, .val (.long i1), .second, .val (.long i2), .second, .val (.long i3), .second, .val (.long i4), .second, .val (.int i5), .val (.int d), .val (.int a0_), .val (.int a1_), .val (.int a2_), .val (.int x0), .val (.int x1), .val (.int x2), .val (.int b0_), .val (.int b1_), .val (.int y0), .val (.int y1), .val (.int la), .val (.int lb), .val (.int sw), .val (.int s0), .val (.int s1), .val (.int s2), .val (.int e0), .val (.int e1), .val (.int e2), .val (.int t0), .val (.int t1), .val (.int z), .unset, .unset, .unset, .unset, .unset, .unset, .unset]) (fun _ => rfl) ?_
    intro u0 hu0
    refine OG.iload X60 at_227 rfl ?_
    refine OG.iload X60 at_229 rfl ?_
    refine OG.callS X60 (hw _ (List.mem_of_getElem? (i := 16) rfl)) (hw _ (List.mem_of_getElem? (i := 17) rfl)) (by decide) (rm5 l Z a0 hw [] t1 y1 h0 n0) (hw _ (List.mem_of_getElem? (i := 18) rfl)) (hw _ (List.mem_of_getElem? (i := 14) rfl)) (by decide) (W := 0) (by decide) rfl (argsL := [(.int t1), (.int y1)]) pd_1 rfl at_231 rfl (Nat.le_of_eq rfl) (by decide) (by decide) ?_
    rintro _ T62 h63 X62 ⟨rfl, eh63⟩
    rw [eh63] at X62
    show OG p e below s n0 room_1.cells room_1.slots (Q0 Z i0 i1 i2 i3 i4 i5  h0) (T62.setTop (mkF m 234 #[.val (.long i0), .second, .val (.long i1), .second, .val (.long i2), .second, .val (.long i3), .second, .val (.long i4), .second, .val (.int i5), .val (.int d), .val (.int a0_), .val (.int a1_), .val (.int a2_), .val (.int x0), .val (.int x1), .val (.int x2), .val (.int b0_), .val (.int b1_), .val (.int y0), .val (.int y1), .val (.int la), .val (.int lb), .val (.int sw), .val (.int s0), .val (.int s1), .val (.int s2), .val (.int e0), .val (.int e1), .val (.int e2), .val (.int t0), .val (.int t1), .val (.int u0), .unset, .unset, .unset, .unset, .unset, .unset, .unset] [(.int (F5 t1 y1))]))
    refine OG.istoreV X62 at_234 (l' := fun z => #[.val (.long i0), .second, .val (.long i1), .second, .val (.long i2), .second, .val (.long i3), .second, .val (.long i4), .second, .val (.int i5), .val (.int d), .val (.int a0_), .val (.int a1_), .val (.int a2_), .val (.int x0), .val (.int x1), .val (.int x2), .val (.int b0_), .val (.int b1_), .val (.int y0), .val (.int y1), .val (.int la), .val (.int lb), .val (.int sw), .val (.int s0), .val (.int s1), .val (.int s2), .val (.int e0), .val (.int e1), .val (.int e2), .val (.int t0), .val (.int t1), .val (.int u0), .val (.int z), .unset, .unset, .unset, .unset, .unset, .unset]) (fun _ => rfl) ?_
    intro u1 hu1
    refine OG.iload X62 at_236 rfl ?_
    refine OG.iload X62 at_238 rfl ?_
    refine OG.iload X62 at_240 rfl ?_
    refine OG.iload X62 at_242 rfl ?_
    refine OG.callS X62 (hw _ (List.mem_of_getElem? (i := 19) rfl)) (hw _ (List.mem_of_getElem? (i := 20) rfl)) (by decide) (rm6 l Z a0 hw [] la s0 s1 s2 NA h0 n0 Z0 hla2 hA3) (hw _ (List.mem_of_getElem? (i := 21) rfl)) (hw _ (List.mem_of_getElem? (i := 3) rfl)) (by decide) (W := 0) (by decide) rfl (argsL := [(.int la), (.int s0), (.int s1), (.int s2)]) pd_2 rfl at_244 rfl (Nat.le_of_eq rfl) (by decide) (by decide) ?_
    rintro _ T64 h65 X64 ⟨b66, f_b66, rfl, g_b66, s_b66, K64, A_b66, p0_b66, p1_b66, p2_b66⟩
    replace Z0 := Nat.le_trans Z0 K64.1
    show OG p e below s n0 room_1.cells room_1.slots (Q0 Z i0 i1 i2 i3 i4 i5  h0) (T64.setTop (mkF m 247 #[.val (.long i0), .second, .val (.long i1), .second, .val (.long i2), .second, .val (.long i3), .second, .val (.long i4), .second, .val (.int i5), .val (.int d), .val (.int a0_), .val (.int a1_), .val (.int a2_), .val (.int x0), .val (.int x1), .val (.int x2), .val (.int b0_), .val (.int b1_), .val (.int y0), .val (.int y1), .val (.int la), .val (.int lb), .val (.int sw), .val (.int s0), .val (.int s1), .val (.int s2), .val (.int e0), .val (.int e1), .val (.int e2), .val (.int t0), .val (.int t1), .val (.int u0), .val (.int u1), .unset, .unset, .unset, .unset, .unset, .unset] [(.ref b66)]))
    refine OG.astore X64 at_247 (l' := #[.val (.long i0), .second, .val (.long i1), .second, .val (.long i2), .second, .val (.long i3), .second, .val (.long i4), .second, .val (.int i5), .val (.int d), .val (.int a0_), .val (.int a1_), .val (.int a2_), .val (.int x0), .val (.int x1), .val (.int x2), .val (.int b0_), .val (.int b1_), .val (.int y0), .val (.int y1), .val (.int la), .val (.int lb), .val (.int sw), .val (.int s0), .val (.int s1), .val (.int s2), .val (.int e0), .val (.int e1), .val (.int e2), .val (.int t0), .val (.int t1), .val (.int u0), .val (.int u1), .val (.ref b66), .unset, .unset, .unset, .unset, .unset]) rfl rfl ?_
    refine OG.iload X64 at_249 rfl ?_
    refine OG.iload X64 at_251 rfl ?_
    refine OG.iload X64 at_253 rfl ?_
    refine OG.iload X64 at_255 rfl ?_
    refine OG.callS X64 (hw _ (List.mem_of_getElem? (i := 19) rfl)) (hw _ (List.mem_of_getElem? (i := 20) rfl)) (by decide) (rm6 l Z a0 hw [] la e0 e1 e2 NA h65 n0 Z0 hla2 hA3) (hw _ (List.mem_of_getElem? (i := 21) rfl)) (hw _ (List.mem_of_getElem? (i := 3) rfl)) (by decide) (W := 0) (by decide) rfl (argsL := [(.int la), (.int e0), (.int e1), (.int e2)]) pd_2 rfl at_257 rfl (Nat.le_of_eq rfl) (by decide) (by decide) ?_
    rintro _ T67 h68 X67 ⟨b69, f_b69, rfl, g_b69, s_b69, K67, A_b69, p0_b69, p1_b69, p2_b69⟩
    replace Z0 := Nat.le_trans Z0 K67.1
    replace A_b66 := A_b66.keep K67 nin0
    show OG p e below s n0 room_1.cells room_1.slots (Q0 Z i0 i1 i2 i3 i4 i5  h0) (T67.setTop (mkF m 260 #[.val (.long i0), .second, .val (.long i1), .second, .val (.long i2), .second, .val (.long i3), .second, .val (.long i4), .second, .val (.int i5), .val (.int d), .val (.int a0_), .val (.int a1_), .val (.int a2_), .val (.int x0), .val (.int x1), .val (.int x2), .val (.int b0_), .val (.int b1_), .val (.int y0), .val (.int y1), .val (.int la), .val (.int lb), .val (.int sw), .val (.int s0), .val (.int s1), .val (.int s2), .val (.int e0), .val (.int e1), .val (.int e2), .val (.int t0), .val (.int t1), .val (.int u0), .val (.int u1), .val (.ref b66), .unset, .unset, .unset, .unset, .unset] [(.ref b69)]))
    refine OG.astore X67 at_260 (l' := #[.val (.long i0), .second, .val (.long i1), .second, .val (.long i2), .second, .val (.long i3), .second, .val (.long i4), .second, .val (.int i5), .val (.int d), .val (.int a0_), .val (.int a1_), .val (.int a2_), .val (.int x0), .val (.int x1), .val (.int x2), .val (.int b0_), .val (.int b1_), .val (.int y0), .val (.int y1), .val (.int la), .val (.int lb), .val (.int sw), .val (.int s0), .val (.int s1), .val (.int s2), .val (.int e0), .val (.int e1), .val (.int e2), .val (.int t0), .val (.int t1), .val (.int u0), .val (.int u1), .val (.ref b66), .val (.ref b69), .unset, .unset, .unset, .unset]) rfl rfl ?_
    refine OG.iload X67 at_262 rfl ?_
    refine OG.iload X67 at_264 rfl ?_
    refine OG.iload X67 at_266 rfl ?_
    refine OG.iconst X67 at_268 (z := (0 : Int32)) rfl ?_
    refine OG.callS X67 (hw _ (List.mem_of_getElem? (i := 19) rfl)) (hw _ (List.mem_of_getElem? (i := 20) rfl)) (by decide) (rm6 l Z a0 hw [] lb t0 t1 (0 : Int32) NB h68 n0 Z0 hlb2 (by omega)) (hw _ (List.mem_of_getElem? (i := 21) rfl)) (hw _ (List.mem_of_getElem? (i := 3) rfl)) (by decide) (W := 0) (by decide) rfl (argsL := [(.int lb), (.int t0), (.int t1), (.int (0 : Int32))]) pd_2 rfl at_269 rfl (Nat.le_of_eq rfl) (by decide) (by decide) ?_
    rintro _ T70 h71 X70 ⟨b72, f_b72, rfl, g_b72, s_b72, K70, A_b72, p0_b72, p1_b72, p2_b72⟩
    replace Z0 := Nat.le_trans Z0 K70.1
    replace A_b66 := A_b66.keep K70 nin0
    replace A_b69 := A_b69.keep K70 nin0
    show OG p e below s n0 room_1.cells room_1.slots (Q0 Z i0 i1 i2 i3 i4 i5  h0) (T70.setTop (mkF m 272 #[.val (.long i0), .second, .val (.long i1), .second, .val (.long i2), .second, .val (.long i3), .second, .val (.long i4), .second, .val (.int i5), .val (.int d), .val (.int a0_), .val (.int a1_), .val (.int a2_), .val (.int x0), .val (.int x1), .val (.int x2), .val (.int b0_), .val (.int b1_), .val (.int y0), .val (.int y1), .val (.int la), .val (.int lb), .val (.int sw), .val (.int s0), .val (.int s1), .val (.int s2), .val (.int e0), .val (.int e1), .val (.int e2), .val (.int t0), .val (.int t1), .val (.int u0), .val (.int u1), .val (.ref b66), .val (.ref b69), .unset, .unset, .unset, .unset] [(.ref b72)]))
    refine OG.astore X70 at_272 (l' := #[.val (.long i0), .second, .val (.long i1), .second, .val (.long i2), .second, .val (.long i3), .second, .val (.long i4), .second, .val (.int i5), .val (.int d), .val (.int a0_), .val (.int a1_), .val (.int a2_), .val (.int x0), .val (.int x1), .val (.int x2), .val (.int b0_), .val (.int b1_), .val (.int y0), .val (.int y1), .val (.int la), .val (.int lb), .val (.int sw), .val (.int s0), .val (.int s1), .val (.int s2), .val (.int e0), .val (.int e1), .val (.int e2), .val (.int t0), .val (.int t1), .val (.int u0), .val (.int u1), .val (.ref b66), .val (.ref b69), .val (.ref b72), .unset, .unset, .unset]) rfl rfl ?_
    refine OG.iload X70 at_274 rfl ?_
    refine OG.iload X70 at_276 rfl ?_
    refine OG.iload X70 at_278 rfl ?_
    refine OG.iconst X70 at_280 (z := (0 : Int32)) rfl ?_
    refine OG.callS X70 (hw _ (List.mem_of_getElem? (i := 19) rfl)) (hw _ (List.mem_of_getElem? (i := 20) rfl)) (by decide) (rm6 l Z a0 hw [] lb u0 u1 (0 : Int32) NB h71 n0 Z0 hlb2 (by omega)) (hw _ (List.mem_of_getElem? (i := 21) rfl)) (hw _ (List.mem_of_getElem? (i := 3) rfl)) (by decide) (W := 0) (by decide) rfl (argsL := [(.int lb), (.int u0), (.int u1), (.int (0 : Int32))]) pd_2 rfl at_281 rfl (Nat.le_of_eq rfl) (by decide) (by decide) ?_
    rintro _ T73 h74 X73 ⟨b75, f_b75, rfl, g_b75, s_b75, K73, A_b75, p0_b75, p1_b75, p2_b75⟩
    replace Z0 := Nat.le_trans Z0 K73.1
    replace A_b66 := A_b66.keep K73 nin0
    replace A_b69 := A_b69.keep K73 nin0
    replace A_b72 := A_b72.keep K73 nin0
    show OG p e below s n0 room_1.cells room_1.slots (Q0 Z i0 i1 i2 i3 i4 i5  h0) (T73.setTop (mkF m 284 #[.val (.long i0), .second, .val (.long i1), .second, .val (.long i2), .second, .val (.long i3), .second, .val (.long i4), .second, .val (.int i5), .val (.int d), .val (.int a0_), .val (.int a1_), .val (.int a2_), .val (.int x0), .val (.int x1), .val (.int x2), .val (.int b0_), .val (.int b1_), .val (.int y0), .val (.int y1), .val (.int la), .val (.int lb), .val (.int sw), .val (.int s0), .val (.int s1), .val (.int s2), .val (.int e0), .val (.int e1), .val (.int e2), .val (.int t0), .val (.int t1), .val (.int u0), .val (.int u1), .val (.ref b66), .val (.ref b69), .val (.ref b72), .unset, .unset, .unset] [(.ref b75)]))
    refine OG.astore X73 at_284 (l' := #[.val (.long i0), .second, .val (.long i1), .second, .val (.long i2), .second, .val (.long i3), .second, .val (.long i4), .second, .val (.int i5), .val (.int d), .val (.int a0_), .val (.int a1_), .val (.int a2_), .val (.int x0), .val (.int x1), .val (.int x2), .val (.int b0_), .val (.int b1_), .val (.int y0), .val (.int y1), .val (.int la), .val (.int lb), .val (.int sw), .val (.int s0), .val (.int s1), .val (.int s2), .val (.int e0), .val (.int e1), .val (.int e2), .val (.int t0), .val (.int t1), .val (.int u0), .val (.int u1), .val (.ref b66), .val (.ref b69), .val (.ref b72), .val (.ref b75), .unset, .unset]) rfl rfl ?_
    have hnear := own_near (d := d) hla2 hlb2 hA3 hB2 (own_sort hs0 hs1 hs2) (own_sort2 ht0 ht1) p0_b66 p1_b66 p2_b66 p0_b69 p1_b69 p2_b69 p0_b72 p1_b72 p2_b72 p0_b75 p1_b75 p2_b75
    have lab320 : ∀ (Tq : State) (gt : Int32), OS code maxLocals "com/example/skipstone/skipstone/search/SpansNearPinLaw" "law" ret Z n0 p l e room_1 s m #[(.long i0), (.long i1), (.long i2), (.long i3), (.long i4), (.int i5)] below meth c Tq h74 4 12 → gt = ANY NA NB s0 s1 s2 e0 e1 e2 t0 t1 u0 u1 d → OG p e below s n0 room_1.cells room_1.slots (Q0 Z i0 i1 i2 i3 i4 i5  h0) (Tq.setTop (mkF m 320 #[.val (.long i0), .second, .val (.long i1), .second, .val (.long i2), .second, .val (.long i3), .second, .val (.long i4), .second, .val (.int i5), .val (.int d), .val (.int a0_), .val (.int a1_), .val (.int a2_), .val (.int x0), .val (.int x1), .val (.int x2), .val (.int b0_), .val (.int b1_), .val (.int y0), .val (.int y1), .val (.int la), .val (.int lb), .val (.int sw), .val (.int s0), .val (.int s1), .val (.int s2), .val (.int e0), .val (.int e1), .val (.int e2), .val (.int t0), .val (.int t1), .val (.int u0), .val (.int u1), .val (.ref b66), .val (.ref b69), .val (.ref b72), .val (.ref b75), .unset, .unset] [(.int gt)])) := by
      intro Tq gt Xq hgt
      refine OG.istore Xq at_320 (l' := #[.val (.long i0), .second, .val (.long i1), .second, .val (.long i2), .second, .val (.long i3), .second, .val (.long i4), .second, .val (.int i5), .val (.int d), .val (.int a0_), .val (.int a1_), .val (.int a2_), .val (.int x0), .val (.int x1), .val (.int x2), .val (.int b0_), .val (.int b1_), .val (.int y0), .val (.int y1), .val (.int la), .val (.int lb), .val (.int sw), .val (.int s0), .val (.int s1), .val (.int s2), .val (.int e0), .val (.int e1), .val (.int e2), .val (.int t0), .val (.int t1), .val (.int u0), .val (.int u1), .val (.ref b66), .val (.ref b69), .val (.ref b72), .val (.ref b75), .val (.int gt), .unset]) rfl ?_
      obtain ⟨WW, hWW⟩ : ∃ WW : Int32, WW = (TT 0 0 la lb (F8 s0 e0 t0 u0 d) (TT 0 1 la lb (F8 s0 e0 t1 u1 d) (TT 1 0 la lb (F8 s1 e1 t0 u0 d) (TT 1 1 la lb (F8 s1 e1 t1 u1 d) (TT 2 0 la lb (F8 s2 e2 t0 u0 d) (TT 2 1 la lb (F8 s2 e2 t1 u1 d) (0 : Int32))))))) := ⟨_, rfl⟩
      have lab490 : ∀ (Ta : State) (wt : Int32), OS code maxLocals "com/example/skipstone/skipstone/search/SpansNearPinLaw" "law" ret Z n0 p l e room_1 s m #[(.long i0), (.long i1), (.long i2), (.long i3), (.long i4), (.int i5)] below meth c Ta h74 4 12 → wt = WW → OG p e below s n0 room_1.cells room_1.slots (Q0 Z i0 i1 i2 i3 i4 i5  h0) (Ta.setTop (mkF m 490 #[.val (.long i0), .second, .val (.long i1), .second, .val (.long i2), .second, .val (.long i3), .second, .val (.long i4), .second, .val (.int i5), .val (.int d), .val (.int a0_), .val (.int a1_), .val (.int a2_), .val (.int x0), .val (.int x1), .val (.int x2), .val (.int b0_), .val (.int b1_), .val (.int y0), .val (.int y1), .val (.int la), .val (.int lb), .val (.int sw), .val (.int s0), .val (.int s1), .val (.int s2), .val (.int e0), .val (.int e1), .val (.int e2), .val (.int t0), .val (.int t1), .val (.int u0), .val (.int u1), .val (.ref b66), .val (.ref b69), .val (.ref b72), .val (.ref b75), .val (.int gt), .unset] [(.int wt)])) := by
        intro Ta wt Xa hwt
        refine OG.istore Xa at_490 (l' := #[.val (.long i0), .second, .val (.long i1), .second, .val (.long i2), .second, .val (.long i3), .second, .val (.long i4), .second, .val (.int i5), .val (.int d), .val (.int a0_), .val (.int a1_), .val (.int a2_), .val (.int x0), .val (.int x1), .val (.int x2), .val (.int b0_), .val (.int b1_), .val (.int y0), .val (.int y1), .val (.int la), .val (.int lb), .val (.int sw), .val (.int s0), .val (.int s1), .val (.int s2), .val (.int e0), .val (.int e1), .val (.int e2), .val (.int t0), .val (.int t1), .val (.int u0), .val (.int u1), .val (.ref b66), .val (.ref b69), .val (.ref b72), .val (.ref b75), .val (.int gt), .val (.int wt)]) rfl ?_
        refine OG.iload Xa at_492 rfl ?_
        refine OG.iload Xa at_494 rfl ?_
        refine OG.icmp_ne_f Xa at_496 (by rw [hgt, hwt, hWW]; exact (own_W hla2 hlb2).symm) ?_
        refine OG.iconst Xa at_499 (z := (1 : Int32)) rfl ?_
        refine OG.goto Xa at_500 (pc' := 504) (by decide) ?_
        exact OG.retN Xa (t := .boolean) at_504 (by simp) (by decide) (by decide) rfl
      have lab457 : ∀ (Tb : State), OS code maxLocals "com/example/skipstone/skipstone/search/SpansNearPinLaw" "law" ret Z n0 p l e room_1 s m #[(.long i0), (.long i1), (.long i2), (.long i3), (.long i4), (.int i5)] below meth c Tb h74 4 12 → WW = (TT 2 1 la lb (F8 s2 e2 t1 u1 d) (0 : Int32)) → OG p e below s n0 room_1.cells room_1.slots (Q0 Z i0 i1 i2 i3 i4 i5  h0) (Tb.setTop (mkF m 457 #[.val (.long i0), .second, .val (.long i1), .second, .val (.long i2), .second, .val (.long i3), .second, .val (.long i4), .second, .val (.int i5), .val (.int d), .val (.int a0_), .val (.int a1_), .val (.int a2_), .val (.int x0), .val (.int x1), .val (.int x2), .val (.int b0_), .val (.int b1_), .val (.int y0), .val (.int y1), .val (.int la), .val (.int lb), .val (.int sw), .val (.int s0), .val (.int s1), .val (.int s2), .val (.int e0), .val (.int e1), .val (.int e2), .val (.int t0), .val (.int t1), .val (.int u0), .val (.int u1), .val (.ref b66), .val (.ref b69), .val (.ref b72), .val (.ref b75), .val (.int gt), .unset] [])) := by
        intro Tb Xb hq
        refine OG.iload Xb at_457 rfl ?_
        refine OG.iconst Xb at_459 (z := (2 : Int32)) rfl ?_
        refine OG.icmp_le Xb at_460 (pc' := 489) (by decide) ?_ ?_
        · intro c460
          refine OG.iconst Xb at_489 (z := (0 : Int32)) rfl ?_
          exact lab490 Tb _ Xb (by rw [hq, TT, if_neg c460])
        · intro c460
          refine OG.iload Xb at_463 rfl ?_
          refine OG.iconst Xb at_465 (z := (1 : Int32)) rfl ?_
          refine OG.icmp_le Xb at_466 (pc' := 489) (by decide) ?_ ?_
          · intro c466
            refine OG.iconst Xb at_489 (z := (0 : Int32)) rfl ?_
            exact lab490 Tb _ Xb (by rw [hq, TT, if_pos c460, if_neg c466])
          · intro c466
            refine OG.iload Xb at_469 rfl ?_
            refine OG.iload Xb at_471 rfl ?_
            refine OG.iload Xb at_473 rfl ?_
            refine OG.iload Xb at_475 rfl ?_
            refine OG.iload Xb at_477 rfl ?_
            refine OG.callS Xb (hw _ (List.mem_of_getElem? (i := 27) rfl)) (hw _ (List.mem_of_getElem? (i := 28) rfl)) (by decide) (rm8 l Z a0 hw [] s2 e2 t1 u1 d h74 n0) (hw _ (List.mem_of_getElem? (i := 29) rfl)) (hw _ (List.mem_of_getElem? (i := 3) rfl)) (by decide) (W := 0) (by decide) rfl (argsL := [(.int s2), (.int e2), (.int t1), (.int u1), (.int d)]) pd_3 rfl at_479 rfl (Nat.le_of_eq rfl) (by decide) (by decide) ?_
            rintro _ T76 h77 X76 ⟨rfl, eh77⟩
            rw [eh77] at X76
            show OG p e below s n0 room_1.cells room_1.slots (Q0 Z i0 i1 i2 i3 i4 i5  h0) (T76.setTop (mkF m 482 #[.val (.long i0), .second, .val (.long i1), .second, .val (.long i2), .second, .val (.long i3), .second, .val (.long i4), .second, .val (.int i5), .val (.int d), .val (.int a0_), .val (.int a1_), .val (.int a2_), .val (.int x0), .val (.int x1), .val (.int x2), .val (.int b0_), .val (.int b1_), .val (.int y0), .val (.int y1), .val (.int la), .val (.int lb), .val (.int sw), .val (.int s0), .val (.int s1), .val (.int s2), .val (.int e0), .val (.int e1), .val (.int e2), .val (.int t0), .val (.int t1), .val (.int u0), .val (.int u1), .val (.ref b66), .val (.ref b69), .val (.ref b72), .val (.ref b75), .val (.int gt), .unset] [(.int (F8 s2 e2 t1 u1 d))]))
            refine OG.if_eq X76 at_482 (pc' := 489) (by decide) ?_ ?_
            · intro c482
              refine OG.iconst X76 at_489 (z := (0 : Int32)) rfl ?_
              exact lab490 T76 _ X76 (by rw [hq, TT, if_pos c460, if_pos c466, if_pos c482])
            · intro c482
              refine OG.iconst X76 at_485 (z := (1 : Int32)) rfl ?_
              refine OG.goto X76 at_486 (pc' := 490) (by decide) ?_
              exact lab490 T76 _ X76 (by rw [hq, TT, if_pos c460, if_pos c466, if_neg c482])
      have lab430 : ∀ (Tb : State), OS code maxLocals "com/example/skipstone/skipstone/search/SpansNearPinLaw" "law" ret Z n0 p l e room_1 s m #[(.long i0), (.long i1), (.long i2), (.long i3), (.long i4), (.int i5)] below meth c Tb h74 4 12 → WW = (TT 2 0 la lb (F8 s2 e2 t0 u0 d) (TT 2 1 la lb (F8 s2 e2 t1 u1 d) (0 : Int32))) → OG p e below s n0 room_1.cells room_1.slots (Q0 Z i0 i1 i2 i3 i4 i5  h0) (Tb.setTop (mkF m 430 #[.val (.long i0), .second, .val (.long i1), .second, .val (.long i2), .second, .val (.long i3), .second, .val (.long i4), .second, .val (.int i5), .val (.int d), .val (.int a0_), .val (.int a1_), .val (.int a2_), .val (.int x0), .val (.int x1), .val (.int x2), .val (.int b0_), .val (.int b1_), .val (.int y0), .val (.int y1), .val (.int la), .val (.int lb), .val (.int sw), .val (.int s0), .val (.int s1), .val (.int s2), .val (.int e0), .val (.int e1), .val (.int e2), .val (.int t0), .val (.int t1), .val (.int u0), .val (.int u1), .val (.ref b66), .val (.ref b69), .val (.ref b72), .val (.ref b75), .val (.int gt), .unset] [])) := by
        intro Tb Xb hq
        refine OG.iload Xb at_430 rfl ?_
        refine OG.iconst Xb at_432 (z := (2 : Int32)) rfl ?_
        refine OG.icmp_le Xb at_433 (pc' := 457) (by decide) ?_ ?_
        · intro c433
          exact lab457 Tb Xb (by rw [hq, TT, if_neg c433])
        · intro c433
          refine OG.iload Xb at_436 rfl ?_
          refine OG.if_le Xb at_438 (pc' := 457) (by decide) ?_ ?_
          · intro c438
            exact lab457 Tb Xb (by rw [hq, TT, if_pos c433, if_neg c438])
          · intro c438
            refine OG.iload Xb at_441 rfl ?_
            refine OG.iload Xb at_443 rfl ?_
            refine OG.iload Xb at_445 rfl ?_
            refine OG.iload Xb at_447 rfl ?_
            refine OG.iload Xb at_449 rfl ?_
            refine OG.callS Xb (hw _ (List.mem_of_getElem? (i := 27) rfl)) (hw _ (List.mem_of_getElem? (i := 28) rfl)) (by decide) (rm8 l Z a0 hw [] s2 e2 t0 u0 d h74 n0) (hw _ (List.mem_of_getElem? (i := 29) rfl)) (hw _ (List.mem_of_getElem? (i := 3) rfl)) (by decide) (W := 0) (by decide) rfl (argsL := [(.int s2), (.int e2), (.int t0), (.int u0), (.int d)]) pd_3 rfl at_451 rfl (Nat.le_of_eq rfl) (by decide) (by decide) ?_
            rintro _ T78 h79 X78 ⟨rfl, eh79⟩
            rw [eh79] at X78
            show OG p e below s n0 room_1.cells room_1.slots (Q0 Z i0 i1 i2 i3 i4 i5  h0) (T78.setTop (mkF m 454 #[.val (.long i0), .second, .val (.long i1), .second, .val (.long i2), .second, .val (.long i3), .second, .val (.long i4), .second, .val (.int i5), .val (.int d), .val (.int a0_), .val (.int a1_), .val (.int a2_), .val (.int x0), .val (.int x1), .val (.int x2), .val (.int b0_), .val (.int b1_), .val (.int y0), .val (.int y1), .val (.int la), .val (.int lb), .val (.int sw), .val (.int s0), .val (.int s1), .val (.int s2), .val (.int e0), .val (.int e1), .val (.int e2), .val (.int t0), .val (.int t1), .val (.int u0), .val (.int u1), .val (.ref b66), .val (.ref b69), .val (.ref b72), .val (.ref b75), .val (.int gt), .unset] [(.int (F8 s2 e2 t0 u0 d))]))
            refine OG.if_ne X78 at_454 (pc' := 485) (by decide) ?_ ?_
            · intro c454
              refine OG.iconst X78 at_485 (z := (1 : Int32)) rfl ?_
              refine OG.goto X78 at_486 (pc' := 490) (by decide) ?_
              exact lab490 T78 _ X78 (by rw [hq, TT, if_pos c433, if_pos c438, if_neg c454])
            · intro c454
              exact lab457 T78 X78 (by rw [hq, TT, if_pos c433, if_pos c438, if_pos c454])
      have lab402 : ∀ (Tb : State), OS code maxLocals "com/example/skipstone/skipstone/search/SpansNearPinLaw" "law" ret Z n0 p l e room_1 s m #[(.long i0), (.long i1), (.long i2), (.long i3), (.long i4), (.int i5)] below meth c Tb h74 4 12 → WW = (TT 1 1 la lb (F8 s1 e1 t1 u1 d) (TT 2 0 la lb (F8 s2 e2 t0 u0 d) (TT 2 1 la lb (F8 s2 e2 t1 u1 d) (0 : Int32)))) → OG p e below s n0 room_1.cells room_1.slots (Q0 Z i0 i1 i2 i3 i4 i5  h0) (Tb.setTop (mkF m 402 #[.val (.long i0), .second, .val (.long i1), .second, .val (.long i2), .second, .val (.long i3), .second, .val (.long i4), .second, .val (.int i5), .val (.int d), .val (.int a0_), .val (.int a1_), .val (.int a2_), .val (.int x0), .val (.int x1), .val (.int x2), .val (.int b0_), .val (.int b1_), .val (.int y0), .val (.int y1), .val (.int la), .val (.int lb), .val (.int sw), .val (.int s0), .val (.int s1), .val (.int s2), .val (.int e0), .val (.int e1), .val (.int e2), .val (.int t0), .val (.int t1), .val (.int u0), .val (.int u1), .val (.ref b66), .val (.ref b69), .val (.ref b72), .val (.ref b75), .val (.int gt), .unset] [])) := by
        intro Tb Xb hq
        refine OG.iload Xb at_402 rfl ?_
        refine OG.iconst Xb at_404 (z := (1 : Int32)) rfl ?_
        refine OG.icmp_le Xb at_405 (pc' := 430) (by decide) ?_ ?_
        · intro c405
          exact lab430 Tb Xb (by rw [hq, TT, if_neg c405])
        · intro c405
          refine OG.iload Xb at_408 rfl ?_
          refine OG.iconst Xb at_410 (z := (1 : Int32)) rfl ?_
          refine OG.icmp_le Xb at_411 (pc' := 430) (by decide) ?_ ?_
          · intro c411
            exact lab430 Tb Xb (by rw [hq, TT, if_pos c405, if_neg c411])
          · intro c411
            refine OG.iload Xb at_414 rfl ?_
            refine OG.iload Xb at_416 rfl ?_
            refine OG.iload Xb at_418 rfl ?_
            refine OG.iload Xb at_420 rfl ?_
            refine OG.iload Xb at_422 rfl ?_
            refine OG.callS Xb (hw _ (List.mem_of_getElem? (i := 27) rfl)) (hw _ (List.mem_of_getElem? (i := 28) rfl)) (by decide) (rm8 l Z a0 hw [] s1 e1 t1 u1 d h74 n0) (hw _ (List.mem_of_getElem? (i := 29) rfl)) (hw _ (List.mem_of_getElem? (i := 3) rfl)) (by decide) (W := 0) (by decide) rfl (argsL := [(.int s1), (.int e1), (.int t1), (.int u1), (.int d)]) pd_3 rfl at_424 rfl (Nat.le_of_eq rfl) (by decide) (by decide) ?_
            rintro _ T80 h81 X80 ⟨rfl, eh81⟩
            rw [eh81] at X80
            show OG p e below s n0 room_1.cells room_1.slots (Q0 Z i0 i1 i2 i3 i4 i5  h0) (T80.setTop (mkF m 427 #[.val (.long i0), .second, .val (.long i1), .second, .val (.long i2), .second, .val (.long i3), .second, .val (.long i4), .second, .val (.int i5), .val (.int d), .val (.int a0_), .val (.int a1_), .val (.int a2_), .val (.int x0), .val (.int x1), .val (.int x2), .val (.int b0_), .val (.int b1_), .val (.int y0), .val (.int y1), .val (.int la), .val (.int lb), .val (.int sw), .val (.int s0), .val (.int s1), .val (.int s2), .val (.int e0), .val (.int e1), .val (.int e2), .val (.int t0), .val (.int t1), .val (.int u0), .val (.int u1), .val (.ref b66), .val (.ref b69), .val (.ref b72), .val (.ref b75), .val (.int gt), .unset] [(.int (F8 s1 e1 t1 u1 d))]))
            refine OG.if_ne X80 at_427 (pc' := 485) (by decide) ?_ ?_
            · intro c427
              refine OG.iconst X80 at_485 (z := (1 : Int32)) rfl ?_
              refine OG.goto X80 at_486 (pc' := 490) (by decide) ?_
              exact lab490 T80 _ X80 (by rw [hq, TT, if_pos c405, if_pos c411, if_neg c427])
            · intro c427
              exact lab430 T80 X80 (by rw [hq, TT, if_pos c405, if_pos c411, if_pos c427])
      have lab375 : ∀ (Tb : State), OS code maxLocals "com/example/skipstone/skipstone/search/SpansNearPinLaw" "law" ret Z n0 p l e room_1 s m #[(.long i0), (.long i1), (.long i2), (.long i3), (.long i4), (.int i5)] below meth c Tb h74 4 12 → WW = (TT 1 0 la lb (F8 s1 e1 t0 u0 d) (TT 1 1 la lb (F8 s1 e1 t1 u1 d) (TT 2 0 la lb (F8 s2 e2 t0 u0 d) (TT 2 1 la lb (F8 s2 e2 t1 u1 d) (0 : Int32))))) → OG p e below s n0 room_1.cells room_1.slots (Q0 Z i0 i1 i2 i3 i4 i5  h0) (Tb.setTop (mkF m 375 #[.val (.long i0), .second, .val (.long i1), .second, .val (.long i2), .second, .val (.long i3), .second, .val (.long i4), .second, .val (.int i5), .val (.int d), .val (.int a0_), .val (.int a1_), .val (.int a2_), .val (.int x0), .val (.int x1), .val (.int x2), .val (.int b0_), .val (.int b1_), .val (.int y0), .val (.int y1), .val (.int la), .val (.int lb), .val (.int sw), .val (.int s0), .val (.int s1), .val (.int s2), .val (.int e0), .val (.int e1), .val (.int e2), .val (.int t0), .val (.int t1), .val (.int u0), .val (.int u1), .val (.ref b66), .val (.ref b69), .val (.ref b72), .val (.ref b75), .val (.int gt), .unset] [])) := by
        intro Tb Xb hq
        refine OG.iload Xb at_375 rfl ?_
        refine OG.iconst Xb at_377 (z := (1 : Int32)) rfl ?_
        refine OG.icmp_le Xb at_378 (pc' := 402) (by decide) ?_ ?_
        · intro c378
          exact lab402 Tb Xb (by rw [hq, TT, if_neg c378])
        · intro c378
          refine OG.iload Xb at_381 rfl ?_
          refine OG.if_le Xb at_383 (pc' := 402) (by decide) ?_ ?_
          · intro c383
            exact lab402 Tb Xb (by rw [hq, TT, if_pos c378, if_neg c383])
          · intro c383
            refine OG.iload Xb at_386 rfl ?_
            refine OG.iload Xb at_388 rfl ?_
            refine OG.iload Xb at_390 rfl ?_
            refine OG.iload Xb at_392 rfl ?_
            refine OG.iload Xb at_394 rfl ?_
            refine OG.callS Xb (hw _ (List.mem_of_getElem? (i := 27) rfl)) (hw _ (List.mem_of_getElem? (i := 28) rfl)) (by decide) (rm8 l Z a0 hw [] s1 e1 t0 u0 d h74 n0) (hw _ (List.mem_of_getElem? (i := 29) rfl)) (hw _ (List.mem_of_getElem? (i := 3) rfl)) (by decide) (W := 0) (by decide) rfl (argsL := [(.int s1), (.int e1), (.int t0), (.int u0), (.int d)]) pd_3 rfl at_396 rfl (Nat.le_of_eq rfl) (by decide) (by decide) ?_
            rintro _ T82 h83 X82 ⟨rfl, eh83⟩
            rw [eh83] at X82
            show OG p e below s n0 room_1.cells room_1.slots (Q0 Z i0 i1 i2 i3 i4 i5  h0) (T82.setTop (mkF m 399 #[.val (.long i0), .second, .val (.long i1), .second, .val (.long i2), .second, .val (.long i3), .second, .val (.long i4), .second, .val (.int i5), .val (.int d), .val (.int a0_), .val (.int a1_), .val (.int a2_), .val (.int x0), .val (.int x1), .val (.int x2), .val (.int b0_), .val (.int b1_), .val (.int y0), .val (.int y1), .val (.int la), .val (.int lb), .val (.int sw), .val (.int s0), .val (.int s1), .val (.int s2), .val (.int e0), .val (.int e1), .val (.int e2), .val (.int t0), .val (.int t1), .val (.int u0), .val (.int u1), .val (.ref b66), .val (.ref b69), .val (.ref b72), .val (.ref b75), .val (.int gt), .unset] [(.int (F8 s1 e1 t0 u0 d))]))
            refine OG.if_ne X82 at_399 (pc' := 485) (by decide) ?_ ?_
            · intro c399
              refine OG.iconst X82 at_485 (z := (1 : Int32)) rfl ?_
              refine OG.goto X82 at_486 (pc' := 490) (by decide) ?_
              exact lab490 T82 _ X82 (by rw [hq, TT, if_pos c378, if_pos c383, if_neg c399])
            · intro c399
              exact lab402 T82 X82 (by rw [hq, TT, if_pos c378, if_pos c383, if_pos c399])
      have lab348 : ∀ (Tb : State), OS code maxLocals "com/example/skipstone/skipstone/search/SpansNearPinLaw" "law" ret Z n0 p l e room_1 s m #[(.long i0), (.long i1), (.long i2), (.long i3), (.long i4), (.int i5)] below meth c Tb h74 4 12 → WW = (TT 0 1 la lb (F8 s0 e0 t1 u1 d) (TT 1 0 la lb (F8 s1 e1 t0 u0 d) (TT 1 1 la lb (F8 s1 e1 t1 u1 d) (TT 2 0 la lb (F8 s2 e2 t0 u0 d) (TT 2 1 la lb (F8 s2 e2 t1 u1 d) (0 : Int32)))))) → OG p e below s n0 room_1.cells room_1.slots (Q0 Z i0 i1 i2 i3 i4 i5  h0) (Tb.setTop (mkF m 348 #[.val (.long i0), .second, .val (.long i1), .second, .val (.long i2), .second, .val (.long i3), .second, .val (.long i4), .second, .val (.int i5), .val (.int d), .val (.int a0_), .val (.int a1_), .val (.int a2_), .val (.int x0), .val (.int x1), .val (.int x2), .val (.int b0_), .val (.int b1_), .val (.int y0), .val (.int y1), .val (.int la), .val (.int lb), .val (.int sw), .val (.int s0), .val (.int s1), .val (.int s2), .val (.int e0), .val (.int e1), .val (.int e2), .val (.int t0), .val (.int t1), .val (.int u0), .val (.int u1), .val (.ref b66), .val (.ref b69), .val (.ref b72), .val (.ref b75), .val (.int gt), .unset] [])) := by
        intro Tb Xb hq
        refine OG.iload Xb at_348 rfl ?_
        refine OG.if_le Xb at_350 (pc' := 375) (by decide) ?_ ?_
        · intro c350
          exact lab375 Tb Xb (by rw [hq, TT, if_neg c350])
        · intro c350
          refine OG.iload Xb at_353 rfl ?_
          refine OG.iconst Xb at_355 (z := (1 : Int32)) rfl ?_
          refine OG.icmp_le Xb at_356 (pc' := 375) (by decide) ?_ ?_
          · intro c356
            exact lab375 Tb Xb (by rw [hq, TT, if_pos c350, if_neg c356])
          · intro c356
            refine OG.iload Xb at_359 rfl ?_
            refine OG.iload Xb at_361 rfl ?_
            refine OG.iload Xb at_363 rfl ?_
            refine OG.iload Xb at_365 rfl ?_
            refine OG.iload Xb at_367 rfl ?_
            refine OG.callS Xb (hw _ (List.mem_of_getElem? (i := 27) rfl)) (hw _ (List.mem_of_getElem? (i := 28) rfl)) (by decide) (rm8 l Z a0 hw [] s0 e0 t1 u1 d h74 n0) (hw _ (List.mem_of_getElem? (i := 29) rfl)) (hw _ (List.mem_of_getElem? (i := 3) rfl)) (by decide) (W := 0) (by decide) rfl (argsL := [(.int s0), (.int e0), (.int t1), (.int u1), (.int d)]) pd_3 rfl at_369 rfl (Nat.le_of_eq rfl) (by decide) (by decide) ?_
            rintro _ T84 h85 X84 ⟨rfl, eh85⟩
            rw [eh85] at X84
            show OG p e below s n0 room_1.cells room_1.slots (Q0 Z i0 i1 i2 i3 i4 i5  h0) (T84.setTop (mkF m 372 #[.val (.long i0), .second, .val (.long i1), .second, .val (.long i2), .second, .val (.long i3), .second, .val (.long i4), .second, .val (.int i5), .val (.int d), .val (.int a0_), .val (.int a1_), .val (.int a2_), .val (.int x0), .val (.int x1), .val (.int x2), .val (.int b0_), .val (.int b1_), .val (.int y0), .val (.int y1), .val (.int la), .val (.int lb), .val (.int sw), .val (.int s0), .val (.int s1), .val (.int s2), .val (.int e0), .val (.int e1), .val (.int e2), .val (.int t0), .val (.int t1), .val (.int u0), .val (.int u1), .val (.ref b66), .val (.ref b69), .val (.ref b72), .val (.ref b75), .val (.int gt), .unset] [(.int (F8 s0 e0 t1 u1 d))]))
            refine OG.if_ne X84 at_372 (pc' := 485) (by decide) ?_ ?_
            · intro c372
              refine OG.iconst X84 at_485 (z := (1 : Int32)) rfl ?_
              refine OG.goto X84 at_486 (pc' := 490) (by decide) ?_
              exact lab490 T84 _ X84 (by rw [hq, TT, if_pos c350, if_pos c356, if_neg c372])
            · intro c372
              exact lab375 T84 X84 (by rw [hq, TT, if_pos c350, if_pos c356, if_pos c372])
      have lab322 : ∀ (Tb : State), OS code maxLocals "com/example/skipstone/skipstone/search/SpansNearPinLaw" "law" ret Z n0 p l e room_1 s m #[(.long i0), (.long i1), (.long i2), (.long i3), (.long i4), (.int i5)] below meth c Tb h74 4 12 → WW = (TT 0 0 la lb (F8 s0 e0 t0 u0 d) (TT 0 1 la lb (F8 s0 e0 t1 u1 d) (TT 1 0 la lb (F8 s1 e1 t0 u0 d) (TT 1 1 la lb (F8 s1 e1 t1 u1 d) (TT 2 0 la lb (F8 s2 e2 t0 u0 d) (TT 2 1 la lb (F8 s2 e2 t1 u1 d) (0 : Int32))))))) → OG p e below s n0 room_1.cells room_1.slots (Q0 Z i0 i1 i2 i3 i4 i5  h0) (Tb.setTop (mkF m 322 #[.val (.long i0), .second, .val (.long i1), .second, .val (.long i2), .second, .val (.long i3), .second, .val (.long i4), .second, .val (.int i5), .val (.int d), .val (.int a0_), .val (.int a1_), .val (.int a2_), .val (.int x0), .val (.int x1), .val (.int x2), .val (.int b0_), .val (.int b1_), .val (.int y0), .val (.int y1), .val (.int la), .val (.int lb), .val (.int sw), .val (.int s0), .val (.int s1), .val (.int s2), .val (.int e0), .val (.int e1), .val (.int e2), .val (.int t0), .val (.int t1), .val (.int u0), .val (.int u1), .val (.ref b66), .val (.ref b69), .val (.ref b72), .val (.ref b75), .val (.int gt), .unset] [])) := by
        intro Tb Xb hq
        refine OG.iload Xb at_322 rfl ?_
        refine OG.if_le Xb at_324 (pc' := 348) (by decide) ?_ ?_
        · intro c324
          exact lab348 Tb Xb (by rw [hq, TT, if_neg c324])
        · intro c324
          refine OG.iload Xb at_327 rfl ?_
          refine OG.if_le Xb at_329 (pc' := 348) (by decide) ?_ ?_
          · intro c329
            exact lab348 Tb Xb (by rw [hq, TT, if_pos c324, if_neg c329])
          · intro c329
            refine OG.iload Xb at_332 rfl ?_
            refine OG.iload Xb at_334 rfl ?_
            refine OG.iload Xb at_336 rfl ?_
            refine OG.iload Xb at_338 rfl ?_
            refine OG.iload Xb at_340 rfl ?_
            refine OG.callS Xb (hw _ (List.mem_of_getElem? (i := 27) rfl)) (hw _ (List.mem_of_getElem? (i := 28) rfl)) (by decide) (rm8 l Z a0 hw [] s0 e0 t0 u0 d h74 n0) (hw _ (List.mem_of_getElem? (i := 29) rfl)) (hw _ (List.mem_of_getElem? (i := 3) rfl)) (by decide) (W := 0) (by decide) rfl (argsL := [(.int s0), (.int e0), (.int t0), (.int u0), (.int d)]) pd_3 rfl at_342 rfl (Nat.le_of_eq rfl) (by decide) (by decide) ?_
            rintro _ T86 h87 X86 ⟨rfl, eh87⟩
            rw [eh87] at X86
            show OG p e below s n0 room_1.cells room_1.slots (Q0 Z i0 i1 i2 i3 i4 i5  h0) (T86.setTop (mkF m 345 #[.val (.long i0), .second, .val (.long i1), .second, .val (.long i2), .second, .val (.long i3), .second, .val (.long i4), .second, .val (.int i5), .val (.int d), .val (.int a0_), .val (.int a1_), .val (.int a2_), .val (.int x0), .val (.int x1), .val (.int x2), .val (.int b0_), .val (.int b1_), .val (.int y0), .val (.int y1), .val (.int la), .val (.int lb), .val (.int sw), .val (.int s0), .val (.int s1), .val (.int s2), .val (.int e0), .val (.int e1), .val (.int e2), .val (.int t0), .val (.int t1), .val (.int u0), .val (.int u1), .val (.ref b66), .val (.ref b69), .val (.ref b72), .val (.ref b75), .val (.int gt), .unset] [(.int (F8 s0 e0 t0 u0 d))]))
            refine OG.if_ne X86 at_345 (pc' := 485) (by decide) ?_ ?_
            · intro c345
              refine OG.iconst X86 at_485 (z := (1 : Int32)) rfl ?_
              refine OG.goto X86 at_486 (pc' := 490) (by decide) ?_
              exact lab490 T86 _ X86 (by rw [hq, TT, if_pos c324, if_pos c329, if_neg c345])
            · intro c345
              exact lab348 T86 X86 (by rw [hq, TT, if_pos c324, if_pos c329, if_pos c345])
      exact lab322 Tq Xq hWW
    refine OG.iload X73 at_286 rfl ?_
    refine OG.if_eq X73 at_288 (pc' := 307) (by decide) ?_ ?_
    · intro c288
      refine OG.aload X73 at_307 rfl rfl ?_
      refine OG.aload X73 at_309 rfl rfl ?_
      refine OG.aload X73 at_311 rfl rfl ?_
      refine OG.aload X73 at_313 rfl rfl ?_
      refine OG.iload X73 at_315 rfl ?_
      refine OG.callS X73 (hw _ (List.mem_of_getElem? (i := 23) rfl)) (hw _ (List.mem_of_getElem? (i := 24) rfl)) (by decide) (rm7 l Z a0 hw [] b66 b69 b72 b75 d f_b66 f_b69 f_b72 f_b75 la lb NA NB h74 n0 A_b66 A_b69 A_b72 A_b75 hla2 hlb2 hA3 (by omega)) (hw _ (List.mem_of_getElem? (i := 26) rfl)) (hw _ (List.mem_of_getElem? (i := 25) rfl)) (by decide) (W := 0) (by decide) rfl (argsL := [(.ref b66), (.ref b69), (.ref b72), (.ref b75), (.int d)]) pd_4 rfl at_317 rfl (Nat.le_of_eq rfl) (by decide) (by decide) ?_
      rintro _ T88 h89 X88 ⟨rfl, eh89⟩
      rw [eh89] at X88
      show OG p e below s n0 room_1.cells room_1.slots (Q0 Z i0 i1 i2 i3 i4 i5  h0) (T88.setTop (mkF m 320 #[.val (.long i0), .second, .val (.long i1), .second, .val (.long i2), .second, .val (.long i3), .second, .val (.long i4), .second, .val (.int i5), .val (.int d), .val (.int a0_), .val (.int a1_), .val (.int a2_), .val (.int x0), .val (.int x1), .val (.int x2), .val (.int b0_), .val (.int b1_), .val (.int y0), .val (.int y1), .val (.int la), .val (.int lb), .val (.int sw), .val (.int s0), .val (.int s1), .val (.int s2), .val (.int e0), .val (.int e1), .val (.int e2), .val (.int t0), .val (.int t1), .val (.int u0), .val (.int u1), .val (.ref b66), .val (.ref b69), .val (.ref b72), .val (.ref b75), .unset, .unset] [(.int (nr f_b66 f_b69 f_b72 f_b75 d la lb 7 0 0))]))
      exact lab320 T88 _ X88 hnear.1
    · intro c288
      refine OG.aload X73 at_291 rfl rfl ?_
      refine OG.aload X73 at_293 rfl rfl ?_
      refine OG.aload X73 at_295 rfl rfl ?_
      refine OG.aload X73 at_297 rfl rfl ?_
      refine OG.iload X73 at_299 rfl ?_
      refine OG.callS X73 (hw _ (List.mem_of_getElem? (i := 23) rfl)) (hw _ (List.mem_of_getElem? (i := 24) rfl)) (by decide) (rm7 l Z a0 hw [] b72 b75 b66 b69 d f_b72 f_b75 f_b66 f_b69 lb la NB NA h74 n0 A_b72 A_b75 A_b66 A_b69 hlb2 hla2 (by omega) hA3) (hw _ (List.mem_of_getElem? (i := 26) rfl)) (hw _ (List.mem_of_getElem? (i := 25) rfl)) (by decide) (W := 0) (by decide) rfl (argsL := [(.ref b72), (.ref b75), (.ref b66), (.ref b69), (.int d)]) pd_4 rfl at_301 rfl (Nat.le_of_eq rfl) (by decide) (by decide) ?_
      rintro _ T90 h91 X90 ⟨rfl, eh91⟩
      rw [eh91] at X90
      show OG p e below s n0 room_1.cells room_1.slots (Q0 Z i0 i1 i2 i3 i4 i5  h0) (T90.setTop (mkF m 304 #[.val (.long i0), .second, .val (.long i1), .second, .val (.long i2), .second, .val (.long i3), .second, .val (.long i4), .second, .val (.int i5), .val (.int d), .val (.int a0_), .val (.int a1_), .val (.int a2_), .val (.int x0), .val (.int x1), .val (.int x2), .val (.int b0_), .val (.int b1_), .val (.int y0), .val (.int y1), .val (.int la), .val (.int lb), .val (.int sw), .val (.int s0), .val (.int s1), .val (.int s2), .val (.int e0), .val (.int e1), .val (.int e2), .val (.int t0), .val (.int t1), .val (.int u0), .val (.int u1), .val (.ref b66), .val (.ref b69), .val (.ref b72), .val (.ref b75), .unset, .unset] [(.int (nr f_b72 f_b75 f_b66 f_b69 d lb la 7 0 0))]))
      refine OG.goto X90 at_304 (pc' := 320) (by decide) ?_
      exact lab320 T90 _ X90 hnear.2
  refine OG.icmp_ne X31 at_111 (pc' := 118) (by decide) ?_ ?_
  · intro c111
    refine OG.iconst X31 at_118 (z := (0 : Int32)) rfl ?_
    exact hj33 _ (by rw [if_neg c111])
  · intro c111
    refine OG.iconst X31 at_114 (z := (1 : Int32)) rfl ?_
    refine OG.goto X31 at_115 (pc' := 119) (by decide) ?_
    exact hj33 _ (by rw [if_pos c111])
set_option maxRecDepth 65536 in
set_option maxHeartbeats 40000000 in
theorem comes_1 {Post : Tables → Env → Array Value → State → Outcome → State → Prop} (hpost : ∀ tb e args s v u, (limb_1_1.after args s (.returned v) u = true ∧ limb_1_2.after args s (.returned v) u = true ∧ True) → FrameEnd s (.returned v) u (Jvm.fieldLocs frame_1_writes args s ++ Jvm.arrayLocs frame_1_arrays args s ++ Jvm.staticLocs frame_1_statics s) 16 128 → Post tb e args s (.returned v) u) :
    ArmFor flags0 classFile x code maxLocals ret World_1 tables_1 room_1 Calls_1 rest_1 Pre_1 Post := by
  intro l hfl _ _ p e ha hc hk s m args below hf hA hF happ hP
  obtain ⟨hcalls, hrest, hpre⟩ := hP
  obtain ⟨-, -, -, hnamed, -, -, -, hat⟩ := (Spec.applies_iff hf).mp happ
  obtain ⟨hg, hn⟩ := and_e (Cond.before_iff.mp (show (Jvm.Cond.and given_1 narrow_1).before args s = true from hpre))
  obtain ⟨g1, g2⟩ := and_e hg
  obtain ⟨g3, g4⟩ := and_e g2
  obtain ⟨g5, g6⟩ := and_e g4
  obtain ⟨g7, g8⟩ := and_e g6
  obtain ⟨g9, g10⟩ := and_e g8
  obtain ⟨g11, g12⟩ := and_e g10
  obtain ⟨w0, w1, w2, w3, w4, w5, rfl⟩ : ∃ w0 w1 w2 w3 w4 w5 : Value, args = #[w0, w1, w2, w3, w4, w5] := by
    have hs : args.size = 6 := by simpa [Cond.value, given_1] using g1
    obtain ⟨L⟩ := args
    match L, hs with
    | [w0, w1, w2, w3, w4, w5], _ => exact ⟨w0, w1, w2, w3, w4, w5, rfl⟩
  have hw := fun d (hd : d ∈ tables_1) => atoms_spec (ws := Jvm.Cond.code x code maxLocals ret :: tables_1) hat d (List.mem_cons_of_mem _ hd)
  have hfit : Fit s := fun {y c} hc i hi => by
    obtain ⟨ha, rfl⟩ := Array.getElem?_eq_some_iff.mp hc
    have q := List.all_eq_true.mp ((Array.all_eq_true_iff_forall_mem.mp hF) _ (Array.getElem_mem ha)) i (List.mem_range.mpr hi)
    simpa [Array.getElem?_eq_getElem hi] using q
  obtain ⟨i0, ei0⟩ := isL_v g3
  obtain rfl : w0 = (.long i0) := Option.some.inj ei0
  obtain ⟨i1, ei1⟩ := isL_v g5
  obtain rfl : w1 = (.long i1) := Option.some.inj ei1
  obtain ⟨i2, ei2⟩ := isL_v g7
  obtain rfl : w2 = (.long i2) := Option.some.inj ei2
  obtain ⟨i3, ei3⟩ := isL_v g9
  obtain rfl : w3 = (.long i3) := Option.some.inj ei3
  obtain ⟨i4, ei4⟩ := isL_v g11
  obtain rfl : w4 = (.long i4) := Option.some.inj ei4
  obtain ⟨i5, ei5⟩ := is_v g12
  obtain rfl : w5 = (.int i5) := Option.some.inj ei5
  obtain ⟨n, o, h1, h2, h3, _, L, rfl, ⟨rfl, N⟩, hq⟩ := rm0 l s _ hw tables_1 i0 i1 i2 i3 i4 i5 s.heap s.heap.size (Nat.le_refl _)  p e ha hc hk s m _ below hf ((Spec.applies_iff_loose hf).mp happ).1 ⟨rfl, State.Warmed39.refl s, rfl⟩ trivial
  refine ⟨n, _, h1, h2, h3, hpost _ _ _ _ _ _ ⟨Cond.after_iff.mpr rfl, Cond.after_iff.mpr (eq_i res_at (Term.int_eval (1)) rfl), trivial⟩ ⟨hq.1, hq.2.1, (hq.2.2.sift fun y hy => Or.inr (N y hy)).mono (by decide) (by decide)⟩⟩
theorem main_1_1 : Claimed_1_1 := comes_1 fun _ _ _ _ _ _ h hF => ⟨h.1, hF⟩
theorem main_1_2 : Claimed_1_2 := comes_1 fun _ _ _ _ _ _ h hF => ⟨h.2.1, hF⟩
end Jvm.Pilot.@@N@@
namespace Jvm.Pilot.@@N@@
open Jvm Jvm.ClassFile Sem Op Lib Jvm.Free Jvm.Stand Jvm.Pilot.@@N@@.Jvm.D
/-! MADE BY PROGRAM (witnessworld.py) out of the Statement's table words and the real class files: 10 classes; the members and pool entries that the words name. The judged class is class 1, her method 6. -/
namespace start1
open Jvm.ClassFile
def u (s : String) : CpInfo := .utf8 (stringToUtf16 s)
/-- a pool by its gaps: so many unusable entries, then the entry; so many at the end -/
def gap : Nat → List CpInfo → List CpInfo
  | 0, r => r
  | n + 1, r => .unusable :: gap n r
def poolList (es : List (Nat × CpInfo)) (last : Nat) : List CpInfo := es.foldr (fun e r => gap e.1 (e.2 :: r)) (gap last [])
def pool (es : List (Nat × CpInfo)) (last : Nat) : Array CpInfo := ⟨poolList es last⟩
def fileOf (pool : Array CpInfo) (this : Nat) (attrs : Array Attribute := #[]) (ms : Array MethodInfo := #[]) (fl : Nat := 33) (sup : Nat := 0) (ifs : Array Nat := #[]) (fds : Array FieldInfo := #[]) : ClassFile where
  minorVersion := 0
  majorVersion := 65
  constantPool := pool
  accessFlags := fl
  thisClass := this
  superClass := sup
  interfaces := ifs
  fields := fds
  methods := ms
  attributes := attrs
def plain (name : String) (sup : Option ClassId) : Class where
  name := name
  kind := .ordinary
  loader := none
  accessFlags := 33
  super := sup
  interfaces := #[]
  cf := none
  fields := #[]
  methods := #[]
  instanceTypes := #[]
  staticTypes := #[]
  resolved := #[]
  callSites := []
  init := .initialized
  statics := none
  mirror := none

def pool0 : Array CpInfo := pool [(5, u "<init>"), (0, u "()V"), (1, .class_ 10), (1, u "java/lang/Object")] 113

def k0m0 : Method := { name := "<init>", desc := "()V", sig := { parameters := [], returnType := none }, accessFlags := 1, code := none }
/-- java/lang/Object -/
def k0 : Class := { plain "java/lang/Object" none with
  accessFlags := 33
  interfaces := #[]
  cf := some (fileOf pool0 8 #[] #[{ accessFlags := 1, nameIndex := 5, descriptorIndex := 6, attributes := #[] }] 33 0 #[] #[])
  fields := #[]
  methods := #[k0m0]
  instanceTypes := #[]
  staticTypes := #[]
  resolved := Array.replicate 124 none
  statics := none }

def pool1 : Array CpInfo := pool [(2, .class_ 4), (1, u "java/lang/Object"), (0, u "<init>"), (0, u "()V"), (0, .long 2147483647), (1, .integer 2147483647), (0, .methodref 11 12), (0, .class_ 13), (0, .nameAndType 14 15), (0, u "com/example/skipstone/skipstone/search/SpansNearPinLaw"), (0, u "lo"), (0, u "(J)I"), (0, .methodref 11 17), (0, .nameAndType 18 15), (0, u "hi"), (0, .methodref 11 20), (0, .nameAndType 21 15), (0, u "bit"), (0, .methodref 23 24), (0, .class_ 25), (0, .nameAndType 26 27), (0, u "java/lang/Math"), (0, u "min"), (0, u "(II)I"), (0, .methodref 23 29), (0, .nameAndType 30 27), (0, u "max"), (0, .methodref 11 32), (0, .nameAndType 33 34), (0, u "take"), (0, u "(IIII)[I"), (0, .methodref 36 37), (0, .class_ 38), (0, .nameAndType 39 40), (0, u "com/example/skipstone/skipstone/search/Spans"), (0, u "near"), (0, u "([I[I[I[II)Z"), (0, .methodref 11 42), (0, .nameAndType 43 44), (0, u "close"), (0, u "(IIIII)Z"), (3, u "law"), (0, u "(JJJJJI)Z")] 4

def k1m0 : Method := { name := "<init>", desc := "()V", sig := { parameters := [], returnType := none }, accessFlags := 2, code := none }
def k1c1 : Code := { maxStack := 4, maxLocals := 2, code := method_2_code, exceptionTable := #[], attributes := #[] }
def k1m1 : Method := { name := "lo", desc := "(J)I", sig := { parameters := [.long], returnType := some .int }, accessFlags := 10, code := some k1c1 }
def k1c2 : Code := { maxStack := 4, maxLocals := 2, code := method_3_code, exceptionTable := #[], attributes := #[] }
def k1m2 : Method := { name := "hi", desc := "(J)I", sig := { parameters := [.long], returnType := some .int }, accessFlags := 10, code := some k1c2 }
def k1c3 : Code := { maxStack := 4, maxLocals := 2, code := method_4_code, exceptionTable := #[], attributes := #[] }
def k1m3 : Method := { name := "bit", desc := "(J)I", sig := { parameters := [.long], returnType := some .int }, accessFlags := 10, code := some k1c3 }
def k1c4 : Code := { maxStack := 4, maxLocals := 4, code := method_5_code, exceptionTable := #[], attributes := #[] }
def k1m4 : Method := { name := "take", desc := "(IIII)[I", sig := { parameters := [.int, .int, .int, .int], returnType := some (.array .int) }, accessFlags := 10, code := some k1c4 }
def k1c5 : Code := { maxStack := 4, maxLocals := 5, code := method_6_code, exceptionTable := #[], attributes := #[] }
def k1m5 : Method := { name := "close", desc := "(IIIII)Z", sig := { parameters := [.int, .int, .int, .int, .int], returnType := some .boolean }, accessFlags := 10, code := some k1c5 }
def k1c6 : Code := { maxStack := 5, maxLocals := 41, code := code, exceptionTable := #[], attributes := #[] }
def k1m6 : Method := { name := "law", desc := "(JJJJJI)Z", sig := { parameters := [.long, .long, .long, .long, .long, .int], returnType := some .boolean }, accessFlags := 9, code := some k1c6 }
/-- com/example/skipstone/skipstone/search/SpansNearPinLaw -/
def k1 : Class := { plain "com/example/skipstone/skipstone/search/SpansNearPinLaw" (some 0) with
  accessFlags := 49
  interfaces := #[]
  cf := some (fileOf pool1 11 #[] #[{ accessFlags := 2, nameIndex := 5, descriptorIndex := 6, attributes := #[] }, { accessFlags := 10, nameIndex := 14, descriptorIndex := 15, attributes := #[] }, { accessFlags := 10, nameIndex := 18, descriptorIndex := 15, attributes := #[] }, { accessFlags := 10, nameIndex := 21, descriptorIndex := 15, attributes := #[] }, { accessFlags := 10, nameIndex := 33, descriptorIndex := 34, attributes := #[] }, { accessFlags := 10, nameIndex := 43, descriptorIndex := 44, attributes := #[] }, { accessFlags := 9, nameIndex := 48, descriptorIndex := 49, attributes := #[] }] 49 2 #[] #[])
  fields := #[]
  methods := #[k1m0, k1m1, k1m2, k1m3, k1m4, k1m5, k1m6]
  instanceTypes := #[]
  staticTypes := #[]
  resolved := Array.replicate 54 none
  statics := none }

def pool2 : Array CpInfo := pool [(1, .class_ 2), (0, u "java/lang/Math"), (1, .class_ 6), (1, u "java/lang/Object"), (0, u "<init>"), (0, u "()V"), (89, .class_ 100), (1, u "java/lang/Math$RandomNumberGeneratorHolder"), (71, u "negativeZeroFloatBits"), (0, u "J"), (2, u "negativeZeroDoubleBits"), (21, u "max"), (2, u "min"), (43, u "$assertionsDisabled"), (0, u "Z"), (88, u "(II)I"), (2, u "twoToTheDoubleScaleDown"), (0, u "D"), (4, u "twoToTheDoubleScaleUp"), (9, u "E"), (3, u "PI"), (2, u "TAU"), (2, u "DEGREES_TO_RADIANS"), (0, u "RADIANS_TO_DEGREES")] 94

def k2m0 : Method := { name := "<init>", desc := "()V", sig := { parameters := [], returnType := none }, accessFlags := 2, code := none }
def k2c1 : Code := { maxStack := 2, maxLocals := 2, code := jdk_29_method_65_code, exceptionTable := #[], attributes := #[] }
def k2m1 : Method := { name := "max", desc := "(II)I", sig := { parameters := [.int, .int], returnType := some .int }, accessFlags := 9, code := some k2c1 }
def k2c2 : Code := { maxStack := 2, maxLocals := 2, code := jdk_29_method_69_code, exceptionTable := #[], attributes := #[] }
def k2m2 : Method := { name := "min", desc := "(II)I", sig := { parameters := [.int, .int], returnType := some .int }, accessFlags := 9, code := some k2c2 }
/-- java/lang/Math -/
def k2 : Class := { plain "java/lang/Math" (some 0) with
  accessFlags := 49
  interfaces := #[]
  cf := some (fileOf pool2 1 #[.nestMembers #[98]] #[{ accessFlags := 2, nameIndex := 7, descriptorIndex := 8, attributes := #[] }, { accessFlags := 9, nameIndex := 198, descriptorIndex := 335, attributes := #[] }, { accessFlags := 9, nameIndex := 201, descriptorIndex := 335, attributes := #[] }] 49 4 #[] #[{ accessFlags := 25, nameIndex := 354, descriptorIndex := 339, attributes := #[] }, { accessFlags := 25, nameIndex := 358, descriptorIndex := 339, attributes := #[] }, { accessFlags := 25, nameIndex := 361, descriptorIndex := 339, attributes := #[] }, { accessFlags := 26, nameIndex := 364, descriptorIndex := 339, attributes := #[] }, { accessFlags := 26, nameIndex := 365, descriptorIndex := 339, attributes := #[] }, { accessFlags := 26, nameIndex := 172, descriptorIndex := 173, attributes := #[] }, { accessFlags := 26, nameIndex := 176, descriptorIndex := 173, attributes := #[] }, { accessFlags := 8, nameIndex := 344, descriptorIndex := 339, attributes := #[] }, { accessFlags := 8, nameIndex := 338, descriptorIndex := 339, attributes := #[] }, { accessFlags := 4120, nameIndex := 245, descriptorIndex := 246, attributes := #[] }])
  fields := #[{ name := "E", type := .double, accessFlags := 25, slot := 0, constantValue := 0 }, { name := "PI", type := .double, accessFlags := 25, slot := 1, constantValue := 0 }, { name := "TAU", type := .double, accessFlags := 25, slot := 2, constantValue := 0 }, { name := "DEGREES_TO_RADIANS", type := .double, accessFlags := 26, slot := 3, constantValue := 0 }, { name := "RADIANS_TO_DEGREES", type := .double, accessFlags := 26, slot := 4, constantValue := 0 }, { name := "negativeZeroFloatBits", type := .long, accessFlags := 26, slot := 5, constantValue := 0 }, { name := "negativeZeroDoubleBits", type := .long, accessFlags := 26, slot := 6, constantValue := 0 }, { name := "twoToTheDoubleScaleUp", type := .double, accessFlags := 8, slot := 7, constantValue := 0 }, { name := "twoToTheDoubleScaleDown", type := .double, accessFlags := 8, slot := 8, constantValue := 0 }, { name := "$assertionsDisabled", type := .boolean, accessFlags := 4120, slot := 9, constantValue := 0 }]
  methods := #[k2m0, k2m1, k2m2]
  instanceTypes := #[]
  staticTypes := #[.double, .double, .double, .double, .double, .long, .long, .double, .double, .boolean]
  resolved := Array.replicate 460 none
  statics := none }

def pool3 : Array CpInfo := pool [(2, .class_ 4), (1, u "java/lang/Object"), (0, u "<init>"), (0, u "()V"), (0, .class_ 8), (0, u "com/example/skipstone/skipstone/search/Spans$FixedLength"), (12, .class_ 22), (0, u "com/example/skipstone/skipstone/search/Spans"), (89, .class_ 113), (0, u "com/example/skipstone/skipstone/search/Spans$Heads"), (3, .class_ 118), (0, u "com/example/skipstone/skipstone/search/Spans$Merged"), (23, u "OPEN_AT_ONCE"), (0, u "I"), (16, u "near"), (0, u "([I[I[I[II)Z")] 16

def k3m0 : Method := { name := "<init>", desc := "()V", sig := { parameters := [], returnType := none }, accessFlags := 2, code := none }
def k3c1 : Code := { maxStack := 4, maxLocals := 7, code := prog_243_method_6_code, exceptionTable := #[], attributes := #[] }
def k3m1 : Method := { name := "near", desc := "([I[I[I[II)Z", sig := { parameters := [(.array .int), (.array .int), (.array .int), (.array .int), .int], returnType := some .boolean }, accessFlags := 8, code := some k3c1 }
/-- com/example/skipstone/skipstone/search/Spans -/
def k3 : Class := { plain "com/example/skipstone/skipstone/search/Spans" (some 0) with
  accessFlags := 48
  interfaces := #[]
  cf := some (fileOf pool3 21 #[.nestMembers #[7, 117, 112]] #[{ accessFlags := 2, nameIndex := 5, descriptorIndex := 6, attributes := #[] }, { accessFlags := 8, nameIndex := 160, descriptorIndex := 161, attributes := #[] }] 48 2 #[] #[{ accessFlags := 24, nameIndex := 142, descriptorIndex := 143, attributes := #[] }])
  fields := #[{ name := "OPEN_AT_ONCE", type := .int, accessFlags := 24, slot := 0, constantValue := 0 }]
  methods := #[k3m0, k3m1]
  instanceTypes := #[]
  staticTypes := #[.int]
  resolved := Array.replicate 178 none
  statics := none }

def pool4 : Array CpInfo := pool [(1, u "java/lang/Cloneable"), (0, .class_ 1), (0, u "java/lang/Object"), (0, .class_ 3)] 3

/-- java/lang/Cloneable -/
def k4 : Class := { plain "java/lang/Cloneable" (some 0) with
  accessFlags := 1537
  interfaces := #[]
  cf := some (fileOf pool4 2 #[] #[] 1537 4 #[] #[])
  fields := #[]
  methods := #[]
  instanceTypes := #[]
  staticTypes := #[]
  resolved := Array.replicate 8 none
  statics := none }

def pool5 : Array CpInfo := pool [(1, u "java/io/Serializable"), (0, .class_ 1), (0, u "java/lang/Object"), (0, .class_ 3)] 3

/-- java/io/Serializable -/
def k5 : Class := { plain "java/io/Serializable" (some 0) with
  accessFlags := 1537
  interfaces := #[]
  cf := some (fileOf pool5 2 #[] #[] 1537 4 #[] #[])
  fields := #[]
  methods := #[]
  instanceTypes := #[]
  staticTypes := #[]
  resolved := Array.replicate 8 none
  statics := none }

/-- the primitive byte -/
def k6 : Class := { plain "byte" none with kind := .primitive 'B', accessFlags := 0x411 }
/-- [B -/
def k7 : Class := { plain "[B" (some 0) with kind := .array 6 .byte, interfaces := #[4, 5], accessFlags := 1041 }

/-- the primitive int -/
def k8 : Class := { plain "int" none with kind := .primitive 'I', accessFlags := 0x411 }
/-- [I -/
def k9 : Class := { plain "[I" (some 0) with kind := .array 8 .int, interfaces := #[4, 5], accessFlags := 1041 }

def heap : Heap := #[]
def classes : Array Class := #[k0, k1, k2, k3, k4, k5, k6, k7, k8, k9]
def interned : List (Array UInt16 × Addr) := []
def slotsUsed : Nat := 0
def theMethod : MethodId := ⟨1, 6⟩
def args0 : Array Value := #[.long 5, .long 300, .long 7, .long 8, .long 9, .int 5]
def aboutOver (below : List Frame) : State where
  vm := { classes := classes, interned := interned.toArray }
  heap := heap
  slotsUsed := slotsUsed
  threads := #[{ frames := .invoking theMethod args0 :: below }]
def below0 : List Frame := [.native { method := ⟨0, 0⟩, args := #[] }]
def about1 : State := aboutOver below0
def p0 : Program := .bare "" "" ""
def e0 : Env := launch0.env 0 0 0
theorem w_frames : about1.frames = Frame.invoking theMethod args0 :: below0 := rfl
set_option maxRecDepth 65536 in
theorem w_args : argsFit about1.vm theMethod args0 = true := by decide +kernel
set_option maxRecDepth 65536 in
theorem w_heap : heapFits about1 = true := by decide +kernel
set_option maxRecDepth 65536 in
theorem w_runnable : about1.curStatus? = some .runnable := by decide +kernel
set_option maxRecDepth 65536 in
theorem w_alone : about1.alone = true := by decide +kernel
set_option maxRecDepth 65536 in
theorem w_named : about1.methodNamed? x = some theMethod := by decide +kernel
set_option maxRecDepth 65536 in
theorem w_hears : about1.hears theMethod below0 = true := by decide +kernel
set_option maxRecDepth 65536 in
theorem w_ripe : about1.ripe theMethod args0 below0 = true := by decide +kernel
theorem w_running : about1.status = .running := rfl
set_option maxRecDepth 65536 in
theorem w_room : about1.hasRoom e0.platform room_1 = true :=
  launch0.hasRoom_least _ room_1 (by decide +kernel) (by decide +kernel) (by decide +kernel) (by decide +kernel) (by decide +kernel) (by decide +kernel)
theorem allAtoms_all (ts : List Jvm.Cond) (a : Array Jvm.Value) (st : Jvm.State) : (allAtoms ts).before a st = ts.all (fun c => c.before a st) := by
  induction ts with
  | nil => rfl
  | cons c t ih =>
    show (Jvm.Cond.and c (allAtoms t)).before a st = _
    rw [Jvm.Cond.before_and, ih, List.all_cons]
def words1 : List Jvm.Cond := Jvm.Cond.code x code maxLocals ret :: tables_1
/-- a 'code' word, met by the world's own term for the bytes: nothing is compared byte by byte -/
theorem code_word {y : MethodName} {bytes : ByteArray} {mx : Nat} {rt : Option FieldType} {a : Array Value} {s : State} {m : MethodId} {meth : Method} {c : Code} (h1 : s.methodNamed? y = some m) (h2 : s.vm.method? m = some meth) (h3 : meth.code = some c) (h4 : c.code = bytes)
    (h5 : (c.maxLocals == mx && c.exceptionTable.isEmpty && decide (c.maxStack ≤ mostOperands) && decide (meth.sig.returnType = rt) && !meth.locks && decide (parseMethodDescriptor y.desc = some meth.sig)) = true) : (Jvm.Cond.code y bytes mx rt).before a s = true := by
  simp only [Bool.and_eq_true, beq_iff_eq, Bool.not_eq_true', decide_eq_true_eq] at h5
  obtain ⟨⟨⟨⟨⟨g1, g2⟩, g3⟩, g4⟩, g5⟩, g6⟩ := h5
  simp [Cond.before, Cond.holds, Cond.value, h1, h2, h3, h4, g1, g2, g3, g4, g5, g6]
def isCode : Jvm.Cond → Bool
  | .code _ _ _ _ => true
  | _ => false
theorem all_split {L : List Jvm.Cond} {P : Jvm.Cond → Bool} (h1 : L.all (fun c => isCode c || P c) = true) (h2 : ∀ c ∈ L.filter isCode, P c = true) : L.all P = true := by
  refine List.all_eq_true.mpr fun c hc => ?_
  have h := List.all_eq_true.mp h1 c hc
  rcases Bool.eq_false_or_eq_true (isCode c) with hi | hi
  · exact h2 c (List.mem_filter.mpr ⟨hc, hi⟩)
  · simpa [hi] using h
set_option maxRecDepth 65536 in
theorem w_c0 : (Jvm.Cond.code x code maxLocals ret).before args0 about1 = true := code_word (m := ⟨1, 6⟩) (meth := k1m6) (c := k1c6) (by decide +kernel) rfl rfl rfl (by decide +kernel)
set_option maxRecDepth 65536 in
theorem w_c1 : (Jvm.Cond.code ({ cls := "com/example/skipstone/skipstone/search/SpansNearPinLaw", name := "lo", desc := "(J)I" } : Jvm.MethodName) method_2_code (2 : Nat) (Option.some Jvm.ClassFile.FieldType.int)).before args0 about1 = true := code_word (m := ⟨1, 1⟩) (meth := k1m1) (c := k1c1) (by decide +kernel) rfl rfl rfl (by decide +kernel)
set_option maxRecDepth 65536 in
theorem w_c2 : (Jvm.Cond.code ({ cls := "com/example/skipstone/skipstone/search/SpansNearPinLaw", name := "hi", desc := "(J)I" } : Jvm.MethodName) method_3_code (2 : Nat) (Option.some Jvm.ClassFile.FieldType.int)).before args0 about1 = true := code_word (m := ⟨1, 2⟩) (meth := k1m2) (c := k1c2) (by decide +kernel) rfl rfl rfl (by decide +kernel)
set_option maxRecDepth 65536 in
theorem w_c3 : (Jvm.Cond.code ({ cls := "com/example/skipstone/skipstone/search/SpansNearPinLaw", name := "bit", desc := "(J)I" } : Jvm.MethodName) method_4_code (2 : Nat) (Option.some Jvm.ClassFile.FieldType.int)).before args0 about1 = true := code_word (m := ⟨1, 3⟩) (meth := k1m3) (c := k1c3) (by decide +kernel) rfl rfl rfl (by decide +kernel)
set_option maxRecDepth 65536 in
theorem w_c4 : (Jvm.Cond.code ({ cls := "java/lang/Math", name := "min", desc := "(II)I" } : Jvm.MethodName) jdk_29_method_69_code (2 : Nat) (Option.some Jvm.ClassFile.FieldType.int)).before args0 about1 = true := code_word (m := ⟨2, 2⟩) (meth := k2m2) (c := k2c2) (by decide +kernel) rfl rfl rfl (by decide +kernel)
set_option maxRecDepth 65536 in
theorem w_c5 : (Jvm.Cond.code ({ cls := "java/lang/Math", name := "max", desc := "(II)I" } : Jvm.MethodName) jdk_29_method_65_code (2 : Nat) (Option.some Jvm.ClassFile.FieldType.int)).before args0 about1 = true := code_word (m := ⟨2, 1⟩) (meth := k2m1) (c := k2c1) (by decide +kernel) rfl rfl rfl (by decide +kernel)
set_option maxRecDepth 65536 in
theorem w_c6 : (Jvm.Cond.code ({ cls := "com/example/skipstone/skipstone/search/SpansNearPinLaw", name := "take", desc := "(IIII)[I" } : Jvm.MethodName) method_5_code (4 : Nat) (Option.some (Jvm.ClassFile.FieldType.array Jvm.ClassFile.FieldType.int))).before args0 about1 = true := code_word (m := ⟨1, 4⟩) (meth := k1m4) (c := k1c4) (by decide +kernel) rfl rfl rfl (by decide +kernel)
set_option maxRecDepth 65536 in
theorem w_c7 : (Jvm.Cond.code ({ cls := "com/example/skipstone/skipstone/search/Spans", name := "near", desc := "([I[I[I[II)Z" } : Jvm.MethodName) prog_243_method_6_code (7 : Nat) (Option.some Jvm.ClassFile.FieldType.boolean)).before args0 about1 = true := code_word (m := ⟨3, 1⟩) (meth := k3m1) (c := k3c1) (by decide +kernel) rfl rfl rfl (by decide +kernel)
set_option maxRecDepth 65536 in
theorem w_c8 : (Jvm.Cond.code ({ cls := "com/example/skipstone/skipstone/search/SpansNearPinLaw", name := "close", desc := "(IIIII)Z" } : Jvm.MethodName) method_6_code (5 : Nat) (Option.some Jvm.ClassFile.FieldType.boolean)).before args0 about1 = true := code_word (m := ⟨1, 5⟩) (meth := k1m5) (c := k1c5) (by decide +kernel) rfl rfl rfl (by decide +kernel)
def codes1 : List Jvm.Cond := [Jvm.Cond.code x code maxLocals ret, Jvm.Cond.code ({ cls := "com/example/skipstone/skipstone/search/SpansNearPinLaw", name := "lo", desc := "(J)I" } : Jvm.MethodName) method_2_code (2 : Nat) (Option.some Jvm.ClassFile.FieldType.int), Jvm.Cond.code ({ cls := "com/example/skipstone/skipstone/search/SpansNearPinLaw", name := "hi", desc := "(J)I" } : Jvm.MethodName) method_3_code (2 : Nat) (Option.some Jvm.ClassFile.FieldType.int), Jvm.Cond.code ({ cls := "com/example/skipstone/skipstone/search/SpansNearPinLaw", name := "bit", desc := "(J)I" } : Jvm.MethodName) method_4_code (2 : Nat) (Option.some Jvm.ClassFile.FieldType.int), Jvm.Cond.code ({ cls := "java/lang/Math", name := "min", desc := "(II)I" } : Jvm.MethodName) jdk_29_method_69_code (2 : Nat) (Option.some Jvm.ClassFile.FieldType.int), Jvm.Cond.code ({ cls := "java/lang/Math", name := "max", desc := "(II)I" } : Jvm.MethodName) jdk_29_method_65_code (2 : Nat) (Option.some Jvm.ClassFile.FieldType.int), Jvm.Cond.code ({ cls := "com/example/skipstone/skipstone/search/SpansNearPinLaw", name := "take", desc := "(IIII)[I" } : Jvm.MethodName) method_5_code (4 : Nat) (Option.some (Jvm.ClassFile.FieldType.array Jvm.ClassFile.FieldType.int)), Jvm.Cond.code ({ cls := "com/example/skipstone/skipstone/search/Spans", name := "near", desc := "([I[I[I[II)Z" } : Jvm.MethodName) prog_243_method_6_code (7 : Nat) (Option.some Jvm.ClassFile.FieldType.boolean), Jvm.Cond.code ({ cls := "com/example/skipstone/skipstone/search/SpansNearPinLaw", name := "close", desc := "(IIIII)Z" } : Jvm.MethodName) method_6_code (5 : Nat) (Option.some Jvm.ClassFile.FieldType.boolean)]
set_option maxRecDepth 65536 in
theorem codes_eq : words1.filter isCode = codes1 := rfl
theorem w_codes : ∀ c ∈ words1.filter isCode, c.before args0 about1 = true := by
  rw [codes_eq]
  intro c hc
  simp only [codes1, List.mem_cons, List.not_mem_nil, or_false] at hc
  rcases hc with rfl | rfl | rfl | rfl | rfl | rfl | rfl | rfl | rfl
  · exact w_c0
  · exact w_c1
  · exact w_c2
  · exact w_c3
  · exact w_c4
  · exact w_c5
  · exact w_c6
  · exact w_c7
  · exact w_c8
set_option maxRecDepth 65536 in
theorem w_t1 : (words1.take 24).all (fun c => isCode c || c.before args0 about1) = true := by decide +kernel
set_option maxRecDepth 65536 in
theorem w_t2 : (words1.drop 24).all (fun c => isCode c || c.before args0 about1) = true := by decide +kernel
theorem w_tables : (allAtoms (Jvm.Cond.code x code maxLocals ret :: tables_1)).before args0 about1 = true := by
  rw [allAtoms_all]
  show words1.all (fun c => c.before args0 about1) = true
  refine all_split ?_ w_codes
  rw [← List.take_append_drop 24 words1, List.all_append, w_t1, w_t2]
  rfl
set_option maxRecDepth 65536 in
theorem w_case : (Jvm.Cond.and given_1 narrow_1).before args0 about1 = true := by decide +kernel
theorem w_applies : (headSpec (Jvm.Cond.code x code maxLocals ret :: tables_1) room_1).applies x e0.platform about1 = true :=
  (Spec.applies_iff w_frames).mpr ⟨w_running, w_runnable, w_alone, w_named, w_hears, w_ripe, w_room, w_tables⟩
theorem atStart : AtStart classFile x code maxLocals ret World_1 tables_1 room_1 Calls_1 rest_1 Pre_1 launch0 p0 e0 about1 theMethod args0 below0 :=
  ⟨lists_1, trivial, launch0.admits_env _ _ _, launch0.least_env, fairChoices_fair.cas, fairChoices_fair.clock, w_frames, w_args, w_heap, w_applies, trivial, trivial, w_case⟩
end start1
theorem witness_1 : WitnessClaimed_1 := ⟨start1.p0, start1.e0, start1.about1, start1.theMethod, start1.args0, start1.below0, start1.atStart⟩
end Jvm.Pilot.@@N@@
