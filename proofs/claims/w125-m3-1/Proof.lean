import JvmDerived
import JvmDerived.Pilot.@@N@@Statement
import JvmDerived.Pilot.@@N@@Code
set_option linter.unusedVariables false
set_option linter.unusedSimpArgs false
namespace Jvm.RoadKit
open Sem ClassFile Op Lib Jvm.Stand Jvm.Free Jvm.LawKit
section New
variable {p : Program} {l : Launch} {e : Env} {R : Room} {s : State} {m : MethodId} {args : Array Value} {below : List Frame} {meth : Method} {c : Code} {T : State} {locs : List Loc} {cells slots : Nat}
theorem retI (X : Stand p l e R s m args below meth c T locs cells slots) (hx : p.tables.exec = Jvm.exec) {pc : Nat} {Ls : Array Slot} {z : Int32} {rest : List Value} (hret : meth.sig.returnType = some .int) (hd : decode c.code pc = .ok (.ireturn, 1)) {fs : List Frame}
    (hl : ∀ (f : JFrame) (acts : List Action), f.method = m → f.locked = none → f.entered = [] → (doReturn e (T.setTop f) acts (some (.int z))).1 = T.setFrames fs) : Steps p.tables e below (T.setTop (mkF m pc Ls (.int z :: rest))) (T.setFrames fs) := by
  have hm' : T.vm.method? m = some meth := X.method'
  have hn : narrow .int (.int z) = .int z := rfl
  show Steps p.tables e below (T.setTop { method := m, pc := pc, locals := Ls, stack := _ :: rest, locked := none }) _
  jvm_step X.here [X.here.top, hx, hd, hm', hret, hn]
  first | (intro acts; rw [hl _ acts rfl rfl rfl]) | rw [hl _ _ rfl rfl rfl]
  exact Steps.refl _
end New
section OwnKit
/-- where the walk of a body stands: the body's own facts, the heap, and that nothing old was written -/
def OS (B : ByteArray) (mL : Nat) (own nm : String) (rt : Option FieldType) (Z : State) (n0 : Nat) (p : Program) (l : Launch) (e : Env) (R : Room) (s : State) (m : MethodId) (args : Array Value) (below : List Frame) (meth : Method) (c : Code) (T : State) (h : Heap) (cells slots : Nat) : Prop :=
  (p.tables.exec = Jvm.exec ∧ c.code = B ∧ c.maxLocals = mL ∧ s.vm.findClass own = some m.cls ∧ meth.name = nm ∧ meth.sig.returnType = rt ∧ meth.locks = false ∧ Z.Warmed39 s.vm) ∧ T.heap = h ∧ ∃ locs, Fr n0 locs ∧ Stand p l e R s m args below meth c T locs cells slots
/-- from here the body comes to its end, with what Q says -/
def OG (p : Program) (e : Env) (below : List Frame) (s : State) (n0 rc rs : Nat) (Q : Option Value → Heap → Prop) (A : State) : Prop :=
  ∃ s₂ o, Steps p.tables e below A s₂ ∧ s₂.status = .running ∧ Ended s₂ below o ∧ ∃ v L, o = .returned v ∧ (Q v s₂.heap ∧ Fr n0 L) ∧ FrameEnd s o s₂ L rc rs
/-- a body's contract -/
def OM (l : Launch) (y : MethodName) (B : ByteArray) (mL : Nat) (rt : Option FieldType) (rm : Room) (ws : List Cond) (Z : State) (as' : Array Value) (h0 : Heap) (n0 : Nat) (Q : Option Value → Heap → Prop) : Prop :=
  MetFree l y (head1 (Cond.code y B mL rt :: ws) rm) (fun a U => a = as' ∧ Z.Warmed39 U.vm ∧ U.heap = h0) (fun _ _ _ _ _ => True) (fun _ U o U' => ∃ v L, o = .returned v ∧ (Q v U'.heap ∧ Fr n0 L) ∧ FrameEnd U o U' L rm.cells rm.slots)
variable {p : Program} {l : Launch} {e : Env} {R : Room} {s : State} {m : MethodId} {args : Array Value} {below : List Frame} {meth : Method} {c : Code} {T : State} {cells slots : Nat} {Z : State} {h : Heap} {n0 : Nat} {B : ByteArray} {mL : Nat} {own nm : String} {rt : Option FieldType} {rc rs : Nat} {Q : Option Value → Heap → Prop} {pc : Nat} {Ls : Array Slot} {st : List Value} {a0 : Array Value}
theorem OG.pre {A A' : State} (h : ∀ t, Steps p.tables e below A' t → Steps p.tables e below A t) (k : OG p e below s n0 rc rs Q A') : OG p e below s n0 rc rs Q A := by
  obtain ⟨s₂, o, h1, r⟩ := k; exact ⟨s₂, o, h _ h1, r⟩
theorem OM.of {y : MethodName} {rm : Room} {ws : List Cond} {as' : Array Value} {h0 : Heap} (hp : plainFor y = true) (hef : ∀ m, entryFrame m as' mL = mkF m 0 Ls []) (body : ∀ p e s m below meth c T, OS B mL y.cls y.name rt Z n0 p l e rm s m as' below meth c T h0 0 0 → OG p e below s n0 rm.cells rm.slots Q (T.setTop (mkF m 0 Ls []))) : OM l y B mL rt rm ws Z as' h0 n0 Q := by
  refine MetFree.of_bodySF hp hisR ?_
  intro p e s m args below meth c s₁ Bd hml0 hP hK
  obtain ⟨rfl, hZ, hh⟩ := hP
  have X0 : Stand p l e rm s m args below meth c s₁ [] 0 0 := Stand.of_body Bd
  have e0 : s₁.heap = h0 := by rw [← hh, Bd.state]; rfl
  have q := body p e s m below meth c s₁ ⟨⟨Bd.exec, Bd.bytes, hml0, findClass_of_methodNamed Bd.named, (name_of_methodNamed Bd.named Bd.method).1, Bd.returns, BodyLoose.notSynchronized Bd, hZ⟩, e0, [], Fr.nil n0, X0⟩
  rw [hef]; exact q
theorem OM.weak {y : MethodName} {rm : Room} {ws : List Cond} {as' : Array Value} {h0 : Heap} {Q' : Option Value → Heap → Prop} (hM : OM l y B mL rt rm ws Z as' h0 n0 Q) (hq : ∀ v h, Q v h → Q' v h) : OM l y B mL rt rm ws Z as' h0 n0 Q' := by
  intro p e ha hc hk s m args below hf happ hP hK
  obtain ⟨n, o, h1, h2, h3, v, L, h4, h5, h6⟩ := hM p e ha hc hk s m args below hf happ hP hK
  exact ⟨n, o, h1, h2, h3, v, L, h4, ⟨hq _ _ h5.1, h5.2⟩, h6⟩
theorem OS.heap (X : OS B mL own nm rt Z n0 p l e R s m args below meth c T h cells slots) : T.heap = h := X.2.1
theorem OS.warm (X : OS B mL own nm rt Z n0 p l e R s m args below meth c T h cells slots) : Z.Warmed39 s.vm := X.1.2.2.2.2.2.2.2
theorem OS.more {k n : Nat} (X : OS B mL own nm rt Z n0 p l e R s m args below meth c T h cells slots) (h1 : cells ≤ k) (h2 : slots ≤ n) : OS B mL own nm rt Z n0 p l e R s m args below meth c T h k n := by
  obtain ⟨h0, e1, locs, N, Y⟩ := X
  exact ⟨h0, e1, locs, N, { Y with same := Y.same.mono h1 h2 }⟩

theorem OG.iload (X : OS B mL own nm rt Z n0 p l e R s m args below meth c T h cells slots) {k : Nat} {v : Int32} (hd : decode B pc = .ok (.iload k, 2)) (hl : Ls[k]? = some (.val (.int v))) (g : OG p e below s n0 rc rs Q (T.setTop (mkF m (pc + 2) Ls (.int v :: st)))) : OG p e below s n0 rc rs Q (T.setTop (mkF m pc Ls st)) := by
  obtain ⟨⟨hx, hby, -⟩, -, locs, -, Y⟩ := X
  exact OG.pre (fun _ k => XS.iload Y.here hx rfl (hb hby hd) hl k) g
theorem OG.iloadN (X : OS B mL own nm rt Z n0 p l e R s m args below meth c T h cells slots) {k : Fin 4} {v : Int32} (hd : decode B pc = .ok (.iload_n k, 1)) (hl : Ls[k.val]? = some (.val (.int v))) (g : OG p e below s n0 rc rs Q (T.setTop (mkF m (pc + 1) Ls (.int v :: st)))) : OG p e below s n0 rc rs Q (T.setTop (mkF m pc Ls st)) := by
  obtain ⟨⟨hx, hby, -⟩, -, locs, -, Y⟩ := X
  exact OG.pre (fun _ k => XS.iloadN Y.here hx rfl (hb hby hd) hl k) g
theorem OG.lload (X : OS B mL own nm rt Z n0 p l e R s m args below meth c T h cells slots) {k : Nat} {v : Int64} (hd : decode B pc = .ok (.lload k, 2)) (hl : Ls[k]? = some (.val (.long v))) (g : OG p e below s n0 rc rs Q (T.setTop (mkF m (pc + 2) Ls (.long v :: st)))) : OG p e below s n0 rc rs Q (T.setTop (mkF m pc Ls st)) := by
  obtain ⟨⟨hx, hby, -⟩, -, locs, -, Y⟩ := X
  exact OG.pre (fun _ k => XS.lload Y.here hx rfl (hb hby hd) hl k) g
theorem OG.lloadN (X : OS B mL own nm rt Z n0 p l e R s m args below meth c T h cells slots) {k : Fin 4} {v : Int64} (hd : decode B pc = .ok (.lload_n k, 1)) (hl : Ls[k.val]? = some (.val (.long v))) (g : OG p e below s n0 rc rs Q (T.setTop (mkF m (pc + 1) Ls (.long v :: st)))) : OG p e below s n0 rc rs Q (T.setTop (mkF m pc Ls st)) := by
  obtain ⟨⟨hx, hby, -⟩, -, locs, -, Y⟩ := X
  exact OG.pre (fun _ k => XS.lloadN Y.here hx rfl (hb hby hd) hl k) g
theorem OG.aload (X : OS B mL own nm rt Z n0 p l e R s m args below meth c T h cells slots) {k : Nat} {v : Value} (hd : decode B pc = .ok (.aload k, 2)) (hl : Ls[k]? = some (.val v)) (hv : v.isRef = true) (g : OG p e below s n0 rc rs Q (T.setTop (mkF m (pc + 2) Ls (v :: st)))) : OG p e below s n0 rc rs Q (T.setTop (mkF m pc Ls st)) := by
  obtain ⟨⟨hx, hby, -⟩, -, locs, -, Y⟩ := X
  exact OG.pre (fun _ k => XS.aload Y.here hx rfl (hb hby hd) hl hv k) g
theorem OG.aloadN (X : OS B mL own nm rt Z n0 p l e R s m args below meth c T h cells slots) {k : Fin 4} {v : Value} (hd : decode B pc = .ok (.aload_n k, 1)) (hl : Ls[k.val]? = some (.val v)) (hv : v.isRef = true) (g : OG p e below s n0 rc rs Q (T.setTop (mkF m (pc + 1) Ls (v :: st)))) : OG p e below s n0 rc rs Q (T.setTop (mkF m pc Ls st)) := by
  obtain ⟨⟨hx, hby, -⟩, -, locs, -, Y⟩ := X
  exact OG.pre (fun _ k => XS.aloadN Y.here hx rfl (hb hby hd) hl hv k) g
theorem OG.istore (X : OS B mL own nm rt Z n0 p l e R s m args below meth c T h cells slots) {k : Nat} {v : Int32} {l' : Array Slot} (hd : decode B pc = .ok (.istore k, 2)) (hl : storeLocals Ls k (.int v) = some l') (g : OG p e below s n0 rc rs Q (T.setTop (mkF m (pc + 2) l' st))) : OG p e below s n0 rc rs Q (T.setTop (mkF m pc Ls (.int v :: st))) := by
  obtain ⟨⟨hx, hby, -⟩, -, locs, -, Y⟩ := X
  exact OG.pre (fun _ k => XS.istore Y.here hx rfl (hb hby hd) rfl hl k) g
theorem OG.istoreV (X : OS B mL own nm rt Z n0 p l e R s m args below meth c T h cells slots) {k : Nat} {v : Int32} {l' : Int32 → Array Slot} (hd : decode B pc = .ok (.istore k, 2)) (hl : ∀ z, storeLocals Ls k (.int z) = some (l' z)) (g : ∀ z, z = v → OG p e below s n0 rc rs Q (T.setTop (mkF m (pc + 2) (l' z) st))) : OG p e below s n0 rc rs Q (T.setTop (mkF m pc Ls (.int v :: st))) := by
  obtain ⟨⟨hx, hby, -⟩, -, locs, -, Y⟩ := X
  exact OG.pre (fun _ k => XS.istore Y.here hx rfl (hb hby hd) rfl (hl v) k) (g v rfl)
theorem OG.istoreN (X : OS B mL own nm rt Z n0 p l e R s m args below meth c T h cells slots) {k : Fin 4} {v : Int32} {l' : Array Slot} (hd : decode B pc = .ok (.istore_n k, 1)) (hl : storeLocals Ls k.val (.int v) = some l') (g : OG p e below s n0 rc rs Q (T.setTop (mkF m (pc + 1) l' st))) : OG p e below s n0 rc rs Q (T.setTop (mkF m pc Ls (.int v :: st))) := by
  obtain ⟨⟨hx, hby, -⟩, -, locs, -, Y⟩ := X
  exact OG.pre (fun _ k => XS.istoreN Y.here hx rfl (hb hby hd) rfl hl k) g
theorem OG.istoreNV (X : OS B mL own nm rt Z n0 p l e R s m args below meth c T h cells slots) {k : Fin 4} {v : Int32} {l' : Int32 → Array Slot} (hd : decode B pc = .ok (.istore_n k, 1)) (hl : ∀ z, storeLocals Ls k.val (.int z) = some (l' z)) (g : ∀ z, z = v → OG p e below s n0 rc rs Q (T.setTop (mkF m (pc + 1) (l' z) st))) : OG p e below s n0 rc rs Q (T.setTop (mkF m pc Ls (.int v :: st))) := by
  obtain ⟨⟨hx, hby, -⟩, -, locs, -, Y⟩ := X
  exact OG.pre (fun _ k => XS.istoreN Y.here hx rfl (hb hby hd) rfl (hl v) k) (g v rfl)
theorem OG.lstore (X : OS B mL own nm rt Z n0 p l e R s m args below meth c T h cells slots) {k : Nat} {v : Int64} {l' : Array Slot} (hd : decode B pc = .ok (.lstore k, 2)) (hl : storeLocals Ls k (.long v) = some l') (g : OG p e below s n0 rc rs Q (T.setTop (mkF m (pc + 2) l' st))) : OG p e below s n0 rc rs Q (T.setTop (mkF m pc Ls (.long v :: st))) := by
  obtain ⟨⟨hx, hby, -⟩, -, locs, -, Y⟩ := X
  exact OG.pre (fun _ k => XS.lstore Y.here hx rfl (hb hby hd) rfl hl k) g
theorem OG.lstoreV (X : OS B mL own nm rt Z n0 p l e R s m args below meth c T h cells slots) {k : Nat} {v : Int64} {l' : Int64 → Array Slot} (hd : decode B pc = .ok (.lstore k, 2)) (hl : ∀ z, storeLocals Ls k (.long z) = some (l' z)) (g : ∀ z, z = v → OG p e below s n0 rc rs Q (T.setTop (mkF m (pc + 2) (l' z) st))) : OG p e below s n0 rc rs Q (T.setTop (mkF m pc Ls (.long v :: st))) := by
  obtain ⟨⟨hx, hby, -⟩, -, locs, -, Y⟩ := X
  exact OG.pre (fun _ k => XS.lstore Y.here hx rfl (hb hby hd) rfl (hl v) k) (g v rfl)
theorem OG.lstoreN (X : OS B mL own nm rt Z n0 p l e R s m args below meth c T h cells slots) {k : Fin 4} {v : Int64} {l' : Array Slot} (hd : decode B pc = .ok (.lstore_n k, 1)) (hl : storeLocals Ls k.val (.long v) = some l') (g : OG p e below s n0 rc rs Q (T.setTop (mkF m (pc + 1) l' st))) : OG p e below s n0 rc rs Q (T.setTop (mkF m pc Ls (.long v :: st))) := by
  obtain ⟨⟨hx, hby, -⟩, -, locs, -, Y⟩ := X
  exact OG.pre (fun _ k => XS.lstoreN Y.here hx rfl (hb hby hd) rfl hl k) g
theorem OG.lstoreNV (X : OS B mL own nm rt Z n0 p l e R s m args below meth c T h cells slots) {k : Fin 4} {v : Int64} {l' : Int64 → Array Slot} (hd : decode B pc = .ok (.lstore_n k, 1)) (hl : ∀ z, storeLocals Ls k.val (.long z) = some (l' z)) (g : ∀ z, z = v → OG p e below s n0 rc rs Q (T.setTop (mkF m (pc + 1) (l' z) st))) : OG p e below s n0 rc rs Q (T.setTop (mkF m pc Ls (.long v :: st))) := by
  obtain ⟨⟨hx, hby, -⟩, -, locs, -, Y⟩ := X
  exact OG.pre (fun _ k => XS.lstoreN Y.here hx rfl (hb hby hd) rfl (hl v) k) (g v rfl)
theorem OG.astore (X : OS B mL own nm rt Z n0 p l e R s m args below meth c T h cells slots) {k : Nat} {v : Value} {l' : Array Slot} (hd : decode B pc = .ok (.astore k, 2)) (hv : v.isRef = true) (hl : storeLocals Ls k v = some l') (g : OG p e below s n0 rc rs Q (T.setTop (mkF m (pc + 2) l' st))) : OG p e below s n0 rc rs Q (T.setTop (mkF m pc Ls (v :: st))) := by
  obtain ⟨⟨hx, hby, -⟩, -, locs, -, Y⟩ := X
  exact OG.pre (fun _ k => XS.astore Y.here hx rfl (hb hby hd) rfl hv hl k) g
theorem OG.astoreN (X : OS B mL own nm rt Z n0 p l e R s m args below meth c T h cells slots) {k : Fin 4} {v : Value} {l' : Array Slot} (hd : decode B pc = .ok (.astore_n k, 1)) (hv : v.isRef = true) (hl : storeLocals Ls k.val v = some l') (g : OG p e below s n0 rc rs Q (T.setTop (mkF m (pc + 1) l' st))) : OG p e below s n0 rc rs Q (T.setTop (mkF m pc Ls (v :: st))) := by
  obtain ⟨⟨hx, hby, -⟩, -, locs, -, Y⟩ := X
  exact OG.pre (fun _ k => XS.astoreN Y.here hx rfl (hb hby hd) rfl hv hl k) g
theorem OG.iconst (X : OS B mL own nm rt Z n0 p l e R s m args below meth c T h cells slots) {i : Int} {z : Int32} (hd : decode B pc = .ok (.iconst i, 1)) (hz : Int32.ofInt i = z) (g : OG p e below s n0 rc rs Q (T.setTop (mkF m (pc + 1) Ls (.int z :: st)))) : OG p e below s n0 rc rs Q (T.setTop (mkF m pc Ls st)) := by
  obtain ⟨⟨hx, hby, -⟩, -, locs, -, Y⟩ := X
  subst hz
  exact OG.pre (fun _ k => XS.iconst Y.here hx rfl (hb hby hd) k) g
theorem OG.bipush (X : OS B mL own nm rt Z n0 p l e R s m args below meth c T h cells slots) {i : Int} {z : Int32} (hd : decode B pc = .ok (.bipush i, 2)) (hz : (Int8.ofInt i).toInt32 = z) (g : OG p e below s n0 rc rs Q (T.setTop (mkF m (pc + 2) Ls (.int z :: st)))) : OG p e below s n0 rc rs Q (T.setTop (mkF m pc Ls st)) := by
  obtain ⟨⟨hx, hby, -⟩, -, locs, -, Y⟩ := X
  subst hz
  exact OG.pre (fun _ k => XS.bipush Y.here hx rfl (hb hby hd) k) g
theorem OG.sipush (X : OS B mL own nm rt Z n0 p l e R s m args below meth c T h cells slots) {i : Int} {z : Int32} (hd : decode B pc = .ok (.sipush i, 3)) (hz : (Int16.ofInt i).toInt32 = z) (g : OG p e below s n0 rc rs Q (T.setTop (mkF m (pc + 3) Ls (.int z :: st)))) : OG p e below s n0 rc rs Q (T.setTop (mkF m pc Ls st)) := by
  obtain ⟨⟨hx, hby, -⟩, -, locs, -, Y⟩ := X
  subst hz
  exact OG.pre (fun _ k => XS.sipush Y.here hx rfl (hb hby hd) k) g
theorem OG.lconst (X : OS B mL own nm rt Z n0 p l e R s m args below meth c T h cells slots) {k : Fin 2} {z : Int64} (hd : decode B pc = .ok (.lconst k, 1)) (hz : Int64.ofNat k = z) (g : OG p e below s n0 rc rs Q (T.setTop (mkF m (pc + 1) Ls (.long z :: st)))) : OG p e below s n0 rc rs Q (T.setTop (mkF m pc Ls st)) := by
  obtain ⟨⟨hx, hby, -⟩, -, locs, -, Y⟩ := X
  subst hz
  exact OG.pre (fun _ q => XS.lconst Y.here hx rfl (hb hby hd) q) g
theorem OG.aconstNull (X : OS B mL own nm rt Z n0 p l e R s m args below meth c T h cells slots)  (hd : decode B pc = .ok (.aconst_null, 1))  (g : OG p e below s n0 rc rs Q (T.setTop (mkF m (pc + 1) Ls (.null :: st)))) : OG p e below s n0 rc rs Q (T.setTop (mkF m pc Ls st)) := by
  obtain ⟨⟨hx, hby, -⟩, -, locs, -, Y⟩ := X
  exact OG.pre (fun _ k => XS.aconstNull Y.here hx rfl (hb hby hd)  k) g
theorem OG.iadd (X : OS B mL own nm rt Z n0 p l e R s m args below meth c T h cells slots) {x y : Int32} (hd : decode B pc = .ok (.iadd, 1))  (g : OG p e below s n0 rc rs Q (T.setTop (mkF m (pc + 1) Ls (.int (x + y) :: st)))) : OG p e below s n0 rc rs Q (T.setTop (mkF m pc Ls (.int y :: .int x :: st))) := by
  obtain ⟨⟨hx, hby, -⟩, -, locs, -, Y⟩ := X
  exact OG.pre (fun _ k => XS.iadd Y.here hx rfl (hb hby hd) rfl k) g
theorem OG.isub (X : OS B mL own nm rt Z n0 p l e R s m args below meth c T h cells slots) {x y : Int32} (hd : decode B pc = .ok (.isub, 1))  (g : OG p e below s n0 rc rs Q (T.setTop (mkF m (pc + 1) Ls (.int (x - y) :: st)))) : OG p e below s n0 rc rs Q (T.setTop (mkF m pc Ls (.int y :: .int x :: st))) := by
  obtain ⟨⟨hx, hby, -⟩, -, locs, -, Y⟩ := X
  exact OG.pre (fun _ k => XS.isub Y.here hx rfl (hb hby hd) rfl k) g
theorem OG.imul (X : OS B mL own nm rt Z n0 p l e R s m args below meth c T h cells slots) {x y : Int32} (hd : decode B pc = .ok (.imul, 1))  (g : OG p e below s n0 rc rs Q (T.setTop (mkF m (pc + 1) Ls (.int (x * y) :: st)))) : OG p e below s n0 rc rs Q (T.setTop (mkF m pc Ls (.int y :: .int x :: st))) := by
  obtain ⟨⟨hx, hby, -⟩, -, locs, -, Y⟩ := X
  exact OG.pre (fun _ k => XS.imul Y.here hx rfl (hb hby hd) rfl k) g
theorem OG.iand (X : OS B mL own nm rt Z n0 p l e R s m args below meth c T h cells slots) {x y : Int32} (hd : decode B pc = .ok (.iand, 1))  (g : OG p e below s n0 rc rs Q (T.setTop (mkF m (pc + 1) Ls (.int (x &&& y) :: st)))) : OG p e below s n0 rc rs Q (T.setTop (mkF m pc Ls (.int y :: .int x :: st))) := by
  obtain ⟨⟨hx, hby, -⟩, -, locs, -, Y⟩ := X
  exact OG.pre (fun _ k => XS.iand Y.here hx rfl (hb hby hd) rfl k) g
theorem OG.ior (X : OS B mL own nm rt Z n0 p l e R s m args below meth c T h cells slots) {x y : Int32} (hd : decode B pc = .ok (.ior, 1))  (g : OG p e below s n0 rc rs Q (T.setTop (mkF m (pc + 1) Ls (.int (x ||| y) :: st)))) : OG p e below s n0 rc rs Q (T.setTop (mkF m pc Ls (.int y :: .int x :: st))) := by
  obtain ⟨⟨hx, hby, -⟩, -, locs, -, Y⟩ := X
  exact OG.pre (fun _ k => XS.ior Y.here hx rfl (hb hby hd) rfl k) g
theorem OG.ixor (X : OS B mL own nm rt Z n0 p l e R s m args below meth c T h cells slots) {x y : Int32} (hd : decode B pc = .ok (.ixor, 1))  (g : OG p e below s n0 rc rs Q (T.setTop (mkF m (pc + 1) Ls (.int (x ^^^ y) :: st)))) : OG p e below s n0 rc rs Q (T.setTop (mkF m pc Ls (.int y :: .int x :: st))) := by
  obtain ⟨⟨hx, hby, -⟩, -, locs, -, Y⟩ := X
  exact OG.pre (fun _ k => XS.ixor Y.here hx rfl (hb hby hd) rfl k) g
theorem OG.ishl (X : OS B mL own nm rt Z n0 p l e R s m args below meth c T h cells slots) {x y : Int32} (hd : decode B pc = .ok (.ishl, 1))  (g : OG p e below s n0 rc rs Q (T.setTop (mkF m (pc + 1) Ls (.int (x <<< (y &&& 31)) :: st)))) : OG p e below s n0 rc rs Q (T.setTop (mkF m pc Ls (.int y :: .int x :: st))) := by
  obtain ⟨⟨hx, hby, -⟩, -, locs, -, Y⟩ := X
  exact OG.pre (fun _ k => XS.ishl Y.here hx rfl (hb hby hd) rfl k) g
theorem OG.ishr (X : OS B mL own nm rt Z n0 p l e R s m args below meth c T h cells slots) {x y : Int32} (hd : decode B pc = .ok (.ishr, 1))  (g : OG p e below s n0 rc rs Q (T.setTop (mkF m (pc + 1) Ls (.int (x >>> (y &&& 31)) :: st)))) : OG p e below s n0 rc rs Q (T.setTop (mkF m pc Ls (.int y :: .int x :: st))) := by
  obtain ⟨⟨hx, hby, -⟩, -, locs, -, Y⟩ := X
  exact OG.pre (fun _ k => XS.ishr Y.here hx rfl (hb hby hd) rfl k) g
theorem OG.iushr (X : OS B mL own nm rt Z n0 p l e R s m args below meth c T h cells slots) {x y : Int32} (hd : decode B pc = .ok (.iushr, 1))  (g : OG p e below s n0 rc rs Q (T.setTop (mkF m (pc + 1) Ls (.int ((x.toUInt32 >>> (y &&& 31).toUInt32).toInt32) :: st)))) : OG p e below s n0 rc rs Q (T.setTop (mkF m pc Ls (.int y :: .int x :: st))) := by
  obtain ⟨⟨hx, hby, -⟩, -, locs, -, Y⟩ := X
  exact OG.pre (fun _ k => XS.iushr Y.here hx rfl (hb hby hd) rfl k) g
theorem OG.ladd (X : OS B mL own nm rt Z n0 p l e R s m args below meth c T h cells slots) {x y : Int64} (hd : decode B pc = .ok (.ladd, 1))  (g : OG p e below s n0 rc rs Q (T.setTop (mkF m (pc + 1) Ls (.long (x + y) :: st)))) : OG p e below s n0 rc rs Q (T.setTop (mkF m pc Ls (.long y :: .long x :: st))) := by
  obtain ⟨⟨hx, hby, -⟩, -, locs, -, Y⟩ := X
  exact OG.pre (fun _ k => XS.ladd Y.here hx rfl (hb hby hd) rfl k) g
theorem OG.lsub (X : OS B mL own nm rt Z n0 p l e R s m args below meth c T h cells slots) {x y : Int64} (hd : decode B pc = .ok (.lsub, 1))  (g : OG p e below s n0 rc rs Q (T.setTop (mkF m (pc + 1) Ls (.long (x - y) :: st)))) : OG p e below s n0 rc rs Q (T.setTop (mkF m pc Ls (.long y :: .long x :: st))) := by
  obtain ⟨⟨hx, hby, -⟩, -, locs, -, Y⟩ := X
  exact OG.pre (fun _ k => XS.lsub Y.here hx rfl (hb hby hd) rfl k) g
theorem OG.lmul (X : OS B mL own nm rt Z n0 p l e R s m args below meth c T h cells slots) {x y : Int64} (hd : decode B pc = .ok (.lmul, 1))  (g : OG p e below s n0 rc rs Q (T.setTop (mkF m (pc + 1) Ls (.long (x * y) :: st)))) : OG p e below s n0 rc rs Q (T.setTop (mkF m pc Ls (.long y :: .long x :: st))) := by
  obtain ⟨⟨hx, hby, -⟩, -, locs, -, Y⟩ := X
  exact OG.pre (fun _ k => XS.lmul Y.here hx rfl (hb hby hd) rfl k) g
theorem OG.land (X : OS B mL own nm rt Z n0 p l e R s m args below meth c T h cells slots) {x y : Int64} (hd : decode B pc = .ok (.land, 1))  (g : OG p e below s n0 rc rs Q (T.setTop (mkF m (pc + 1) Ls (.long (x &&& y) :: st)))) : OG p e below s n0 rc rs Q (T.setTop (mkF m pc Ls (.long y :: .long x :: st))) := by
  obtain ⟨⟨hx, hby, -⟩, -, locs, -, Y⟩ := X
  exact OG.pre (fun _ k => XS.land Y.here hx rfl (hb hby hd) rfl k) g
theorem OG.lor (X : OS B mL own nm rt Z n0 p l e R s m args below meth c T h cells slots) {x y : Int64} (hd : decode B pc = .ok (.lor, 1))  (g : OG p e below s n0 rc rs Q (T.setTop (mkF m (pc + 1) Ls (.long (x ||| y) :: st)))) : OG p e below s n0 rc rs Q (T.setTop (mkF m pc Ls (.long y :: .long x :: st))) := by
  obtain ⟨⟨hx, hby, -⟩, -, locs, -, Y⟩ := X
  exact OG.pre (fun _ k => XS.lor Y.here hx rfl (hb hby hd) rfl k) g
theorem OG.lxor (X : OS B mL own nm rt Z n0 p l e R s m args below meth c T h cells slots) {x y : Int64} (hd : decode B pc = .ok (.lxor, 1))  (g : OG p e below s n0 rc rs Q (T.setTop (mkF m (pc + 1) Ls (.long (x ^^^ y) :: st)))) : OG p e below s n0 rc rs Q (T.setTop (mkF m pc Ls (.long y :: .long x :: st))) := by
  obtain ⟨⟨hx, hby, -⟩, -, locs, -, Y⟩ := X
  exact OG.pre (fun _ k => XS.lxor Y.here hx rfl (hb hby hd) rfl k) g
theorem OG.lshl (X : OS B mL own nm rt Z n0 p l e R s m args below meth c T h cells slots) {x : Int64} {y : Int32} (hd : decode B pc = .ok (.lshl, 1))  (g : OG p e below s n0 rc rs Q (T.setTop (mkF m (pc + 1) Ls (.long (x <<< (y &&& 0x3f).toInt64) :: st)))) : OG p e below s n0 rc rs Q (T.setTop (mkF m pc Ls (.int y :: .long x :: st))) := by
  obtain ⟨⟨hx, hby, -⟩, -, locs, -, Y⟩ := X
  exact OG.pre (fun _ k => XS.lshl Y.here hx rfl (hb hby hd) rfl k) g
theorem OG.lshr (X : OS B mL own nm rt Z n0 p l e R s m args below meth c T h cells slots) {x : Int64} {y : Int32} (hd : decode B pc = .ok (.lshr, 1))  (g : OG p e below s n0 rc rs Q (T.setTop (mkF m (pc + 1) Ls (.long (x >>> (y &&& 0x3f).toInt64) :: st)))) : OG p e below s n0 rc rs Q (T.setTop (mkF m pc Ls (.int y :: .long x :: st))) := by
  obtain ⟨⟨hx, hby, -⟩, -, locs, -, Y⟩ := X
  exact OG.pre (fun _ k => XS.lshr Y.here hx rfl (hb hby hd) rfl k) g
theorem OG.lushr (X : OS B mL own nm rt Z n0 p l e R s m args below meth c T h cells slots) {x : Int64} {y : Int32} (hd : decode B pc = .ok (.lushr, 1))  (g : OG p e below s n0 rc rs Q (T.setTop (mkF m (pc + 1) Ls (.long ((x.toUInt64 >>> (y &&& 0x3f).toInt64.toUInt64).toInt64) :: st)))) : OG p e below s n0 rc rs Q (T.setTop (mkF m pc Ls (.int y :: .long x :: st))) := by
  obtain ⟨⟨hx, hby, -⟩, -, locs, -, Y⟩ := X
  exact OG.pre (fun _ k => XS.lushr Y.here hx rfl (hb hby hd) rfl k) g
theorem OG.idiv (X : OS B mL own nm rt Z n0 p l e R s m args below meth c T h cells slots) {x y : Int32} (hd : decode B pc = .ok (.idiv, 1)) (hy : y ≠ 0) (g : OG p e below s n0 rc rs Q (T.setTop (mkF m (pc + 1) Ls (.int (x / y) :: st)))) : OG p e below s n0 rc rs Q (T.setTop (mkF m pc Ls (.int y :: .int x :: st))) := by
  obtain ⟨⟨hx, hby, -⟩, -, locs, -, Y⟩ := X
  exact OG.pre (fun _ k => XS.idiv Y.here hx rfl (hb hby hd) rfl hy k) g
theorem OG.ldiv (X : OS B mL own nm rt Z n0 p l e R s m args below meth c T h cells slots) {x y : Int64} (hd : decode B pc = .ok (.ldiv, 1)) (hy : y ≠ 0) (g : OG p e below s n0 rc rs Q (T.setTop (mkF m (pc + 1) Ls (.long (x / y) :: st)))) : OG p e below s n0 rc rs Q (T.setTop (mkF m pc Ls (.long y :: .long x :: st))) := by
  obtain ⟨⟨hx, hby, -⟩, -, locs, -, Y⟩ := X
  exact OG.pre (fun _ k => XS.ldiv Y.here hx rfl (hb hby hd) rfl hy k) g
theorem OG.irem (X : OS B mL own nm rt Z n0 p l e R s m args below meth c T h cells slots) {x y : Int32} (hd : decode B pc = .ok (.irem, 1)) (hy : y ≠ 0) (g : OG p e below s n0 rc rs Q (T.setTop (mkF m (pc + 1) Ls (.int (x % y) :: st)))) : OG p e below s n0 rc rs Q (T.setTop (mkF m pc Ls (.int y :: .int x :: st))) := by
  obtain ⟨⟨hx, hby, -⟩, -, locs, -, Y⟩ := X
  exact OG.pre (fun _ k => iremM Y hx rfl (hb hby hd) rfl hy k) g
theorem OG.lrem (X : OS B mL own nm rt Z n0 p l e R s m args below meth c T h cells slots) {x y : Int64} (hd : decode B pc = .ok (.lrem, 1)) (hy : y ≠ 0) (g : OG p e below s n0 rc rs Q (T.setTop (mkF m (pc + 1) Ls (.long (x - x / y * y) :: st)))) : OG p e below s n0 rc rs Q (T.setTop (mkF m pc Ls (.long y :: .long x :: st))) := by
  obtain ⟨⟨hx, hby, -⟩, -, locs, -, Y⟩ := X
  exact OG.pre (fun _ k => XS.lrem Y.here hx rfl (hb hby hd) rfl hy k) g
theorem OG.ineg (X : OS B mL own nm rt Z n0 p l e R s m args below meth c T h cells slots) {x : Int32} (hd : decode B pc = .ok (.ineg, 1))  (g : OG p e below s n0 rc rs Q (T.setTop (mkF m (pc + 1) Ls (.int (-x) :: st)))) : OG p e below s n0 rc rs Q (T.setTop (mkF m pc Ls (.int x :: st))) := by
  obtain ⟨⟨hx, hby, -⟩, -, locs, -, Y⟩ := X
  exact OG.pre (fun _ k => XS.ineg Y.here hx rfl (hb hby hd) rfl k) g
theorem OG.lneg (X : OS B mL own nm rt Z n0 p l e R s m args below meth c T h cells slots) {x : Int64} (hd : decode B pc = .ok (.lneg, 1))  (g : OG p e below s n0 rc rs Q (T.setTop (mkF m (pc + 1) Ls (.long (-x) :: st)))) : OG p e below s n0 rc rs Q (T.setTop (mkF m pc Ls (.long x :: st))) := by
  obtain ⟨⟨hx, hby, -⟩, -, locs, -, Y⟩ := X
  exact OG.pre (fun _ k => XS.lneg Y.here hx rfl (hb hby hd) rfl k) g
theorem OG.i2l (X : OS B mL own nm rt Z n0 p l e R s m args below meth c T h cells slots) {x : Int32} (hd : decode B pc = .ok (.i2l, 1))  (g : OG p e below s n0 rc rs Q (T.setTop (mkF m (pc + 1) Ls (.long (x.toInt64) :: st)))) : OG p e below s n0 rc rs Q (T.setTop (mkF m pc Ls (.int x :: st))) := by
  obtain ⟨⟨hx, hby, -⟩, -, locs, -, Y⟩ := X
  exact OG.pre (fun _ k => XS.i2l Y.here hx rfl (hb hby hd) rfl k) g
theorem OG.l2i (X : OS B mL own nm rt Z n0 p l e R s m args below meth c T h cells slots) {x : Int64} (hd : decode B pc = .ok (.l2i, 1))  (g : OG p e below s n0 rc rs Q (T.setTop (mkF m (pc + 1) Ls (.int (x.toInt32) :: st)))) : OG p e below s n0 rc rs Q (T.setTop (mkF m pc Ls (.long x :: st))) := by
  obtain ⟨⟨hx, hby, -⟩, -, locs, -, Y⟩ := X
  exact OG.pre (fun _ k => XS.l2i Y.here hx rfl (hb hby hd) rfl k) g
theorem OG.i2b (X : OS B mL own nm rt Z n0 p l e R s m args below meth c T h cells slots) {x : Int32} (hd : decode B pc = .ok (.i2b, 1))  (g : OG p e below s n0 rc rs Q (T.setTop (mkF m (pc + 1) Ls (.int (x.toInt8.toInt32) :: st)))) : OG p e below s n0 rc rs Q (T.setTop (mkF m pc Ls (.int x :: st))) := by
  obtain ⟨⟨hx, hby, -⟩, -, locs, -, Y⟩ := X
  exact OG.pre (fun _ k => XS.i2b Y.here hx rfl (hb hby hd) rfl k) g
theorem OG.i2s (X : OS B mL own nm rt Z n0 p l e R s m args below meth c T h cells slots) {x : Int32} (hd : decode B pc = .ok (.i2s, 1))  (g : OG p e below s n0 rc rs Q (T.setTop (mkF m (pc + 1) Ls (.int (x.toInt16.toInt32) :: st)))) : OG p e below s n0 rc rs Q (T.setTop (mkF m pc Ls (.int x :: st))) := by
  obtain ⟨⟨hx, hby, -⟩, -, locs, -, Y⟩ := X
  exact OG.pre (fun _ k => XS.i2s Y.here hx rfl (hb hby hd) rfl k) g
theorem OG.i2c (X : OS B mL own nm rt Z n0 p l e R s m args below meth c T h cells slots) {x : Int32} (hd : decode B pc = .ok (.i2c, 1))  (g : OG p e below s n0 rc rs Q (T.setTop (mkF m (pc + 1) Ls (.int (x.toUInt32.toUInt16.toUInt32.toInt32) :: st)))) : OG p e below s n0 rc rs Q (T.setTop (mkF m pc Ls (.int x :: st))) := by
  obtain ⟨⟨hx, hby, -⟩, -, locs, -, Y⟩ := X
  exact OG.pre (fun _ k => XS.i2c Y.here hx rfl (hb hby hd) rfl k) g
theorem OG.lcmp (X : OS B mL own nm rt Z n0 p l e R s m args below meth c T h cells slots) {x y : Int64} (hd : decode B pc = .ok (.lcmp, 1))  (g : OG p e below s n0 rc rs Q (T.setTop (mkF m (pc + 1) Ls (.int (lcmpW x y) :: st)))) : OG p e below s n0 rc rs Q (T.setTop (mkF m pc Ls (.long y :: .long x :: st))) := by
  obtain ⟨⟨hx, hby, -⟩, -, locs, -, Y⟩ := X
  exact OG.pre (fun _ k => XS.lcmp Y.here hx rfl (hb hby hd) rfl k) g
theorem OG.dup (X : OS B mL own nm rt Z n0 p l e R s m args below meth c T h cells slots) {x : Value} (hd : decode B pc = .ok (.dup, 1)) (hc : x.category = 1) (g : OG p e below s n0 rc rs Q (T.setTop (mkF m (pc + 1) Ls (x :: x :: st)))) : OG p e below s n0 rc rs Q (T.setTop (mkF m pc Ls (x :: st))) := by
  obtain ⟨⟨hx, hby, -⟩, -, locs, -, Y⟩ := X
  exact OG.pre (fun _ k => XS.dup Y.here hx rfl (hb hby hd) rfl hc k) g
theorem OG.pop (X : OS B mL own nm rt Z n0 p l e R s m args below meth c T h cells slots) {x : Value} (hd : decode B pc = .ok (.pop, 1)) (hc : x.category = 1) (g : OG p e below s n0 rc rs Q (T.setTop (mkF m (pc + 1) Ls st))) : OG p e below s n0 rc rs Q (T.setTop (mkF m pc Ls (x :: st))) := by
  obtain ⟨⟨hx, hby, -⟩, -, locs, -, Y⟩ := X
  exact OG.pre (fun _ k => XS.pop Y.here hx rfl (hb hby hd) rfl hc k) g
theorem OG.dupX1 (X : OS B mL own nm rt Z n0 p l e R s m args below meth c T h cells slots) {x y : Value} (hd : decode B pc = .ok (.dup_x1, 1)) (hc : x.category = 1) (hc' : y.category = 1) (g : OG p e below s n0 rc rs Q (T.setTop (mkF m (pc + 1) Ls (x :: y :: x :: st)))) : OG p e below s n0 rc rs Q (T.setTop (mkF m pc Ls (x :: y :: st))) := by
  obtain ⟨⟨hx, hby, -⟩, -, locs, -, Y⟩ := X
  exact OG.pre (fun _ k => XS.dupX1 Y.here hx rfl (hb hby hd) rfl hc hc' k) g
theorem OG.dup2 (X : OS B mL own nm rt Z n0 p l e R s m args below meth c T h cells slots) {x y : Value} (hd : decode B pc = .ok (.dup2, 1)) (hc : x.category = 1) (hc' : y.category = 1) (g : OG p e below s n0 rc rs Q (T.setTop (mkF m (pc + 1) Ls (x :: y :: x :: y :: st)))) : OG p e below s n0 rc rs Q (T.setTop (mkF m pc Ls (x :: y :: st))) := by
  obtain ⟨⟨hx, hby, -⟩, -, locs, -, Y⟩ := X
  exact OG.pre (fun _ k => Jvm.Free.XT.dup2 Y.here hx rfl (hb hby hd) rfl hc hc' k) g
theorem OG.iinc (X : OS B mL own nm rt Z n0 p l e R s m args below meth c T h cells slots) {k : Nat} {i : Int} {x z : Int32} {l' : Array Slot} (hd : decode B pc = .ok (.iinc k i, 3)) (hl : Ls[k]? = some (.val (.int x))) (hz : Int32.ofInt i = z) (hl' : storeLocals Ls k (.int (x + z)) = some l') (g : OG p e below s n0 rc rs Q (T.setTop (mkF m (pc + 3) l' st))) : OG p e below s n0 rc rs Q (T.setTop (mkF m pc Ls st)) := by
  obtain ⟨⟨hx, hby, -⟩, -, locs, -, Y⟩ := X
  subst hz
  exact OG.pre (fun _ q => XS.iinc Y.here hx rfl (hb hby hd) hl hl' q) g
theorem OG.goto (X : OS B mL own nm rt Z n0 p l e R s m args below meth c T h cells slots) {o : Int} {pc' : Nat} (hd : decode B pc = .ok (.goto o, 3)) (hp : 0 ≤ (pc : Int) + o ∧ ((pc : Int) + o).toNat = pc') (g : OG p e below s n0 rc rs Q (T.setTop (mkF m pc' Ls st))) : OG p e below s n0 rc rs Q (T.setTop (mkF m pc Ls st)) := by
  obtain ⟨⟨hx, hby, -⟩, -, locs, -, Y⟩ := X
  exact OG.pre (fun _ q => XS.goto Y.here hx rfl (pc0 := pc) rfl (hb hby hd) hp.1 hp.2 q) g
theorem OG.icmp_lt_t (X : OS B mL own nm rt Z n0 p l e R s m args below meth c T h cells slots) {x y : Int32} {o : Int} {pc' : Nat} (hd : decode B pc = .ok (.if_icmp .lt o, 3)) (hp : 0 ≤ (pc : Int) + o ∧ ((pc : Int) + o).toNat = pc') (hq : x < y) (g : OG p e below s n0 rc rs Q (T.setTop (mkF m pc' Ls st))) : OG p e below s n0 rc rs Q (T.setTop (mkF m pc Ls (.int y :: .int x :: st))) := by
  obtain ⟨⟨hx, hby, -⟩, -, locs, -, Y⟩ := X
  exact OG.pre (fun _ q => XS.icmpYes Y.here hx rfl (pc0 := pc) rfl (hb hby hd) rfl (tlt hq).1 hp.1 hp.2 q) g
theorem OG.icmp_lt_f (X : OS B mL own nm rt Z n0 p l e R s m args below meth c T h cells slots) {x y : Int32} {o : Int} (hd : decode B pc = .ok (.if_icmp .lt o, 3)) (hq : ¬ x < y) (g : OG p e below s n0 rc rs Q (T.setTop (mkF m (pc + 3) Ls st))) : OG p e below s n0 rc rs Q (T.setTop (mkF m pc Ls (.int y :: .int x :: st))) := by
  obtain ⟨⟨hx, hby, -⟩, -, locs, -, Y⟩ := X
  exact OG.pre (fun _ q => XS.icmpNo Y.here hx rfl (hb hby hd) rfl (flt hq).1 q) g
theorem OG.icmp_lt (X : OS B mL own nm rt Z n0 p l e R s m args below meth c T h cells slots) {x y : Int32} {o : Int} {pc' : Nat} (hd : decode B pc = .ok (.if_icmp .lt o, 3)) (hp : 0 ≤ (pc : Int) + o ∧ ((pc : Int) + o).toNat = pc') (g1 : x < y → OG p e below s n0 rc rs Q (T.setTop (mkF m pc' Ls st))) (g2 : ¬ x < y → OG p e below s n0 rc rs Q (T.setTop (mkF m (pc + 3) Ls st))) : OG p e below s n0 rc rs Q (T.setTop (mkF m pc Ls (.int y :: .int x :: st))) :=
  if hq : x < y then OG.icmp_lt_t X hd hp hq (g1 hq) else OG.icmp_lt_f X hd hq (g2 hq)
theorem OG.if_lt_t (X : OS B mL own nm rt Z n0 p l e R s m args below meth c T h cells slots) {x : Int32} {o : Int} {pc' : Nat} (hd : decode B pc = .ok (.ifCond .lt o, 3)) (hp : 0 ≤ (pc : Int) + o ∧ ((pc : Int) + o).toNat = pc') (hq : x < 0) (g : OG p e below s n0 rc rs Q (T.setTop (mkF m pc' Ls st))) : OG p e below s n0 rc rs Q (T.setTop (mkF m pc Ls (.int x :: st))) := by
  obtain ⟨⟨hx, hby, -⟩, -, locs, -, Y⟩ := X
  exact OG.pre (fun _ q => XS.ifYes Y.here hx rfl (pc0 := pc) rfl (hb hby hd) rfl ((if0 _ _).trans (tlt hq).1) hp.1 hp.2 q) g
theorem OG.if_lt_f (X : OS B mL own nm rt Z n0 p l e R s m args below meth c T h cells slots) {x : Int32} {o : Int} (hd : decode B pc = .ok (.ifCond .lt o, 3)) (hq : ¬ x < 0) (g : OG p e below s n0 rc rs Q (T.setTop (mkF m (pc + 3) Ls st))) : OG p e below s n0 rc rs Q (T.setTop (mkF m pc Ls (.int x :: st))) := by
  obtain ⟨⟨hx, hby, -⟩, -, locs, -, Y⟩ := X
  exact OG.pre (fun _ q => XS.ifNo Y.here hx rfl (hb hby hd) rfl ((if0 _ _).trans (flt hq).1) q) g
theorem OG.if_lt (X : OS B mL own nm rt Z n0 p l e R s m args below meth c T h cells slots) {x : Int32} {o : Int} {pc' : Nat} (hd : decode B pc = .ok (.ifCond .lt o, 3)) (hp : 0 ≤ (pc : Int) + o ∧ ((pc : Int) + o).toNat = pc') (g1 : x < 0 → OG p e below s n0 rc rs Q (T.setTop (mkF m pc' Ls st))) (g2 : ¬ x < 0 → OG p e below s n0 rc rs Q (T.setTop (mkF m (pc + 3) Ls st))) : OG p e below s n0 rc rs Q (T.setTop (mkF m pc Ls (.int x :: st))) :=
  if hq : x < 0 then OG.if_lt_t X hd hp hq (g1 hq) else OG.if_lt_f X hd hq (g2 hq)
theorem OG.ifl_lt_t (X : OS B mL own nm rt Z n0 p l e R s m args below meth c T h cells slots) {x y : Int64} {o : Int} {pc' : Nat} (hd : decode B pc = .ok (.ifCond .lt o, 3)) (hp : 0 ≤ (pc : Int) + o ∧ ((pc : Int) + o).toNat = pc') (hq : x < y) (g : OG p e below s n0 rc rs Q (T.setTop (mkF m pc' Ls st))) : OG p e below s n0 rc rs Q (T.setTop (mkF m pc Ls (.int (lcmpW x y) :: st))) := by
  obtain ⟨⟨hx, hby, -⟩, -, locs, -, Y⟩ := X
  exact OG.pre (fun _ q => XS.ifYes Y.here hx rfl (pc0 := pc) rfl (hb hby hd) rfl ((if0 _ _).trans (tlt ((lw_lt x y).mpr hq)).1) hp.1 hp.2 q) g
theorem OG.ifl_lt_f (X : OS B mL own nm rt Z n0 p l e R s m args below meth c T h cells slots) {x y : Int64} {o : Int} (hd : decode B pc = .ok (.ifCond .lt o, 3)) (hq : ¬ x < y) (g : OG p e below s n0 rc rs Q (T.setTop (mkF m (pc + 3) Ls st))) : OG p e below s n0 rc rs Q (T.setTop (mkF m pc Ls (.int (lcmpW x y) :: st))) := by
  obtain ⟨⟨hx, hby, -⟩, -, locs, -, Y⟩ := X
  exact OG.pre (fun _ q => XS.ifNo Y.here hx rfl (hb hby hd) rfl ((if0 _ _).trans (flt (fun q => hq ((lw_lt x y).mp q))).1) q) g
theorem OG.ifl_lt (X : OS B mL own nm rt Z n0 p l e R s m args below meth c T h cells slots) {x y : Int64} {o : Int} {pc' : Nat} (hd : decode B pc = .ok (.ifCond .lt o, 3)) (hp : 0 ≤ (pc : Int) + o ∧ ((pc : Int) + o).toNat = pc') (g1 : x < y → OG p e below s n0 rc rs Q (T.setTop (mkF m pc' Ls st))) (g2 : ¬ x < y → OG p e below s n0 rc rs Q (T.setTop (mkF m (pc + 3) Ls st))) : OG p e below s n0 rc rs Q (T.setTop (mkF m pc Ls (.int (lcmpW x y) :: st))) :=
  if hq : x < y then OG.ifl_lt_t X hd hp hq (g1 hq) else OG.ifl_lt_f X hd hq (g2 hq)
theorem OG.icmp_ge_t (X : OS B mL own nm rt Z n0 p l e R s m args below meth c T h cells slots) {x y : Int32} {o : Int} {pc' : Nat} (hd : decode B pc = .ok (.if_icmp .ge o, 3)) (hp : 0 ≤ (pc : Int) + o ∧ ((pc : Int) + o).toNat = pc') (hq : ¬ x < y) (g : OG p e below s n0 rc rs Q (T.setTop (mkF m pc' Ls st))) : OG p e below s n0 rc rs Q (T.setTop (mkF m pc Ls (.int y :: .int x :: st))) := by
  obtain ⟨⟨hx, hby, -⟩, -, locs, -, Y⟩ := X
  exact OG.pre (fun _ q => XS.icmpYes Y.here hx rfl (pc0 := pc) rfl (hb hby hd) rfl (flt hq).2.1 hp.1 hp.2 q) g
theorem OG.icmp_ge_f (X : OS B mL own nm rt Z n0 p l e R s m args below meth c T h cells slots) {x y : Int32} {o : Int} (hd : decode B pc = .ok (.if_icmp .ge o, 3)) (hq : x < y) (g : OG p e below s n0 rc rs Q (T.setTop (mkF m (pc + 3) Ls st))) : OG p e below s n0 rc rs Q (T.setTop (mkF m pc Ls (.int y :: .int x :: st))) := by
  obtain ⟨⟨hx, hby, -⟩, -, locs, -, Y⟩ := X
  exact OG.pre (fun _ q => XS.icmpNo Y.here hx rfl (hb hby hd) rfl (tlt hq).2.1 q) g
theorem OG.icmp_ge (X : OS B mL own nm rt Z n0 p l e R s m args below meth c T h cells slots) {x y : Int32} {o : Int} {pc' : Nat} (hd : decode B pc = .ok (.if_icmp .ge o, 3)) (hp : 0 ≤ (pc : Int) + o ∧ ((pc : Int) + o).toNat = pc') (g1 : ¬ x < y → OG p e below s n0 rc rs Q (T.setTop (mkF m pc' Ls st))) (g2 : x < y → OG p e below s n0 rc rs Q (T.setTop (mkF m (pc + 3) Ls st))) : OG p e below s n0 rc rs Q (T.setTop (mkF m pc Ls (.int y :: .int x :: st))) :=
  if hq : x < y then OG.icmp_ge_f X hd hq (g2 hq) else OG.icmp_ge_t X hd hp hq (g1 hq)
theorem OG.if_ge_t (X : OS B mL own nm rt Z n0 p l e R s m args below meth c T h cells slots) {x : Int32} {o : Int} {pc' : Nat} (hd : decode B pc = .ok (.ifCond .ge o, 3)) (hp : 0 ≤ (pc : Int) + o ∧ ((pc : Int) + o).toNat = pc') (hq : ¬ x < 0) (g : OG p e below s n0 rc rs Q (T.setTop (mkF m pc' Ls st))) : OG p e below s n0 rc rs Q (T.setTop (mkF m pc Ls (.int x :: st))) := by
  obtain ⟨⟨hx, hby, -⟩, -, locs, -, Y⟩ := X
  exact OG.pre (fun _ q => XS.ifYes Y.here hx rfl (pc0 := pc) rfl (hb hby hd) rfl ((if0 _ _).trans (flt hq).2.1) hp.1 hp.2 q) g
theorem OG.if_ge_f (X : OS B mL own nm rt Z n0 p l e R s m args below meth c T h cells slots) {x : Int32} {o : Int} (hd : decode B pc = .ok (.ifCond .ge o, 3)) (hq : x < 0) (g : OG p e below s n0 rc rs Q (T.setTop (mkF m (pc + 3) Ls st))) : OG p e below s n0 rc rs Q (T.setTop (mkF m pc Ls (.int x :: st))) := by
  obtain ⟨⟨hx, hby, -⟩, -, locs, -, Y⟩ := X
  exact OG.pre (fun _ q => XS.ifNo Y.here hx rfl (hb hby hd) rfl ((if0 _ _).trans (tlt hq).2.1) q) g
theorem OG.if_ge (X : OS B mL own nm rt Z n0 p l e R s m args below meth c T h cells slots) {x : Int32} {o : Int} {pc' : Nat} (hd : decode B pc = .ok (.ifCond .ge o, 3)) (hp : 0 ≤ (pc : Int) + o ∧ ((pc : Int) + o).toNat = pc') (g1 : ¬ x < 0 → OG p e below s n0 rc rs Q (T.setTop (mkF m pc' Ls st))) (g2 : x < 0 → OG p e below s n0 rc rs Q (T.setTop (mkF m (pc + 3) Ls st))) : OG p e below s n0 rc rs Q (T.setTop (mkF m pc Ls (.int x :: st))) :=
  if hq : x < 0 then OG.if_ge_f X hd hq (g2 hq) else OG.if_ge_t X hd hp hq (g1 hq)
theorem OG.ifl_ge_t (X : OS B mL own nm rt Z n0 p l e R s m args below meth c T h cells slots) {x y : Int64} {o : Int} {pc' : Nat} (hd : decode B pc = .ok (.ifCond .ge o, 3)) (hp : 0 ≤ (pc : Int) + o ∧ ((pc : Int) + o).toNat = pc') (hq : ¬ x < y) (g : OG p e below s n0 rc rs Q (T.setTop (mkF m pc' Ls st))) : OG p e below s n0 rc rs Q (T.setTop (mkF m pc Ls (.int (lcmpW x y) :: st))) := by
  obtain ⟨⟨hx, hby, -⟩, -, locs, -, Y⟩ := X
  exact OG.pre (fun _ q => XS.ifYes Y.here hx rfl (pc0 := pc) rfl (hb hby hd) rfl ((if0 _ _).trans (flt (fun q => hq ((lw_lt x y).mp q))).2.1) hp.1 hp.2 q) g
theorem OG.ifl_ge_f (X : OS B mL own nm rt Z n0 p l e R s m args below meth c T h cells slots) {x y : Int64} {o : Int} (hd : decode B pc = .ok (.ifCond .ge o, 3)) (hq : x < y) (g : OG p e below s n0 rc rs Q (T.setTop (mkF m (pc + 3) Ls st))) : OG p e below s n0 rc rs Q (T.setTop (mkF m pc Ls (.int (lcmpW x y) :: st))) := by
  obtain ⟨⟨hx, hby, -⟩, -, locs, -, Y⟩ := X
  exact OG.pre (fun _ q => XS.ifNo Y.here hx rfl (hb hby hd) rfl ((if0 _ _).trans (tlt ((lw_lt x y).mpr hq)).2.1) q) g
theorem OG.ifl_ge (X : OS B mL own nm rt Z n0 p l e R s m args below meth c T h cells slots) {x y : Int64} {o : Int} {pc' : Nat} (hd : decode B pc = .ok (.ifCond .ge o, 3)) (hp : 0 ≤ (pc : Int) + o ∧ ((pc : Int) + o).toNat = pc') (g1 : ¬ x < y → OG p e below s n0 rc rs Q (T.setTop (mkF m pc' Ls st))) (g2 : x < y → OG p e below s n0 rc rs Q (T.setTop (mkF m (pc + 3) Ls st))) : OG p e below s n0 rc rs Q (T.setTop (mkF m pc Ls (.int (lcmpW x y) :: st))) :=
  if hq : x < y then OG.ifl_ge_f X hd hq (g2 hq) else OG.ifl_ge_t X hd hp hq (g1 hq)
theorem OG.icmp_gt_t (X : OS B mL own nm rt Z n0 p l e R s m args below meth c T h cells slots) {x y : Int32} {o : Int} {pc' : Nat} (hd : decode B pc = .ok (.if_icmp .gt o, 3)) (hp : 0 ≤ (pc : Int) + o ∧ ((pc : Int) + o).toNat = pc') (hq : y < x) (g : OG p e below s n0 rc rs Q (T.setTop (mkF m pc' Ls st))) : OG p e below s n0 rc rs Q (T.setTop (mkF m pc Ls (.int y :: .int x :: st))) := by
  obtain ⟨⟨hx, hby, -⟩, -, locs, -, Y⟩ := X
  exact OG.pre (fun _ q => XS.icmpYes Y.here hx rfl (pc0 := pc) rfl (hb hby hd) rfl (tlt hq).2.2.1 hp.1 hp.2 q) g
theorem OG.icmp_gt_f (X : OS B mL own nm rt Z n0 p l e R s m args below meth c T h cells slots) {x y : Int32} {o : Int} (hd : decode B pc = .ok (.if_icmp .gt o, 3)) (hq : ¬ y < x) (g : OG p e below s n0 rc rs Q (T.setTop (mkF m (pc + 3) Ls st))) : OG p e below s n0 rc rs Q (T.setTop (mkF m pc Ls (.int y :: .int x :: st))) := by
  obtain ⟨⟨hx, hby, -⟩, -, locs, -, Y⟩ := X
  exact OG.pre (fun _ q => XS.icmpNo Y.here hx rfl (hb hby hd) rfl (flt hq).2.2.1 q) g
theorem OG.icmp_gt (X : OS B mL own nm rt Z n0 p l e R s m args below meth c T h cells slots) {x y : Int32} {o : Int} {pc' : Nat} (hd : decode B pc = .ok (.if_icmp .gt o, 3)) (hp : 0 ≤ (pc : Int) + o ∧ ((pc : Int) + o).toNat = pc') (g1 : y < x → OG p e below s n0 rc rs Q (T.setTop (mkF m pc' Ls st))) (g2 : ¬ y < x → OG p e below s n0 rc rs Q (T.setTop (mkF m (pc + 3) Ls st))) : OG p e below s n0 rc rs Q (T.setTop (mkF m pc Ls (.int y :: .int x :: st))) :=
  if hq : y < x then OG.icmp_gt_t X hd hp hq (g1 hq) else OG.icmp_gt_f X hd hq (g2 hq)
theorem OG.if_gt_t (X : OS B mL own nm rt Z n0 p l e R s m args below meth c T h cells slots) {x : Int32} {o : Int} {pc' : Nat} (hd : decode B pc = .ok (.ifCond .gt o, 3)) (hp : 0 ≤ (pc : Int) + o ∧ ((pc : Int) + o).toNat = pc') (hq : 0 < x) (g : OG p e below s n0 rc rs Q (T.setTop (mkF m pc' Ls st))) : OG p e below s n0 rc rs Q (T.setTop (mkF m pc Ls (.int x :: st))) := by
  obtain ⟨⟨hx, hby, -⟩, -, locs, -, Y⟩ := X
  exact OG.pre (fun _ q => XS.ifYes Y.here hx rfl (pc0 := pc) rfl (hb hby hd) rfl ((if0 _ _).trans (tlt hq).2.2.1) hp.1 hp.2 q) g
theorem OG.if_gt_f (X : OS B mL own nm rt Z n0 p l e R s m args below meth c T h cells slots) {x : Int32} {o : Int} (hd : decode B pc = .ok (.ifCond .gt o, 3)) (hq : ¬ 0 < x) (g : OG p e below s n0 rc rs Q (T.setTop (mkF m (pc + 3) Ls st))) : OG p e below s n0 rc rs Q (T.setTop (mkF m pc Ls (.int x :: st))) := by
  obtain ⟨⟨hx, hby, -⟩, -, locs, -, Y⟩ := X
  exact OG.pre (fun _ q => XS.ifNo Y.here hx rfl (hb hby hd) rfl ((if0 _ _).trans (flt hq).2.2.1) q) g
theorem OG.if_gt (X : OS B mL own nm rt Z n0 p l e R s m args below meth c T h cells slots) {x : Int32} {o : Int} {pc' : Nat} (hd : decode B pc = .ok (.ifCond .gt o, 3)) (hp : 0 ≤ (pc : Int) + o ∧ ((pc : Int) + o).toNat = pc') (g1 : 0 < x → OG p e below s n0 rc rs Q (T.setTop (mkF m pc' Ls st))) (g2 : ¬ 0 < x → OG p e below s n0 rc rs Q (T.setTop (mkF m (pc + 3) Ls st))) : OG p e below s n0 rc rs Q (T.setTop (mkF m pc Ls (.int x :: st))) :=
  if hq : 0 < x then OG.if_gt_t X hd hp hq (g1 hq) else OG.if_gt_f X hd hq (g2 hq)
theorem OG.ifl_gt_t (X : OS B mL own nm rt Z n0 p l e R s m args below meth c T h cells slots) {x y : Int64} {o : Int} {pc' : Nat} (hd : decode B pc = .ok (.ifCond .gt o, 3)) (hp : 0 ≤ (pc : Int) + o ∧ ((pc : Int) + o).toNat = pc') (hq : y < x) (g : OG p e below s n0 rc rs Q (T.setTop (mkF m pc' Ls st))) : OG p e below s n0 rc rs Q (T.setTop (mkF m pc Ls (.int (lcmpW x y) :: st))) := by
  obtain ⟨⟨hx, hby, -⟩, -, locs, -, Y⟩ := X
  exact OG.pre (fun _ q => XS.ifYes Y.here hx rfl (pc0 := pc) rfl (hb hby hd) rfl ((if0 _ _).trans (tlt ((lw_gt x y).mpr hq)).2.2.1) hp.1 hp.2 q) g
theorem OG.ifl_gt_f (X : OS B mL own nm rt Z n0 p l e R s m args below meth c T h cells slots) {x y : Int64} {o : Int} (hd : decode B pc = .ok (.ifCond .gt o, 3)) (hq : ¬ y < x) (g : OG p e below s n0 rc rs Q (T.setTop (mkF m (pc + 3) Ls st))) : OG p e below s n0 rc rs Q (T.setTop (mkF m pc Ls (.int (lcmpW x y) :: st))) := by
  obtain ⟨⟨hx, hby, -⟩, -, locs, -, Y⟩ := X
  exact OG.pre (fun _ q => XS.ifNo Y.here hx rfl (hb hby hd) rfl ((if0 _ _).trans (flt (fun q => hq ((lw_gt x y).mp q))).2.2.1) q) g
theorem OG.ifl_gt (X : OS B mL own nm rt Z n0 p l e R s m args below meth c T h cells slots) {x y : Int64} {o : Int} {pc' : Nat} (hd : decode B pc = .ok (.ifCond .gt o, 3)) (hp : 0 ≤ (pc : Int) + o ∧ ((pc : Int) + o).toNat = pc') (g1 : y < x → OG p e below s n0 rc rs Q (T.setTop (mkF m pc' Ls st))) (g2 : ¬ y < x → OG p e below s n0 rc rs Q (T.setTop (mkF m (pc + 3) Ls st))) : OG p e below s n0 rc rs Q (T.setTop (mkF m pc Ls (.int (lcmpW x y) :: st))) :=
  if hq : y < x then OG.ifl_gt_t X hd hp hq (g1 hq) else OG.ifl_gt_f X hd hq (g2 hq)
theorem OG.icmp_le_t (X : OS B mL own nm rt Z n0 p l e R s m args below meth c T h cells slots) {x y : Int32} {o : Int} {pc' : Nat} (hd : decode B pc = .ok (.if_icmp .le o, 3)) (hp : 0 ≤ (pc : Int) + o ∧ ((pc : Int) + o).toNat = pc') (hq : ¬ y < x) (g : OG p e below s n0 rc rs Q (T.setTop (mkF m pc' Ls st))) : OG p e below s n0 rc rs Q (T.setTop (mkF m pc Ls (.int y :: .int x :: st))) := by
  obtain ⟨⟨hx, hby, -⟩, -, locs, -, Y⟩ := X
  exact OG.pre (fun _ q => XS.icmpYes Y.here hx rfl (pc0 := pc) rfl (hb hby hd) rfl (flt hq).2.2.2 hp.1 hp.2 q) g
theorem OG.icmp_le_f (X : OS B mL own nm rt Z n0 p l e R s m args below meth c T h cells slots) {x y : Int32} {o : Int} (hd : decode B pc = .ok (.if_icmp .le o, 3)) (hq : y < x) (g : OG p e below s n0 rc rs Q (T.setTop (mkF m (pc + 3) Ls st))) : OG p e below s n0 rc rs Q (T.setTop (mkF m pc Ls (.int y :: .int x :: st))) := by
  obtain ⟨⟨hx, hby, -⟩, -, locs, -, Y⟩ := X
  exact OG.pre (fun _ q => XS.icmpNo Y.here hx rfl (hb hby hd) rfl (tlt hq).2.2.2 q) g
theorem OG.icmp_le (X : OS B mL own nm rt Z n0 p l e R s m args below meth c T h cells slots) {x y : Int32} {o : Int} {pc' : Nat} (hd : decode B pc = .ok (.if_icmp .le o, 3)) (hp : 0 ≤ (pc : Int) + o ∧ ((pc : Int) + o).toNat = pc') (g1 : ¬ y < x → OG p e below s n0 rc rs Q (T.setTop (mkF m pc' Ls st))) (g2 : y < x → OG p e below s n0 rc rs Q (T.setTop (mkF m (pc + 3) Ls st))) : OG p e below s n0 rc rs Q (T.setTop (mkF m pc Ls (.int y :: .int x :: st))) :=
  if hq : y < x then OG.icmp_le_f X hd hq (g2 hq) else OG.icmp_le_t X hd hp hq (g1 hq)
theorem OG.if_le_t (X : OS B mL own nm rt Z n0 p l e R s m args below meth c T h cells slots) {x : Int32} {o : Int} {pc' : Nat} (hd : decode B pc = .ok (.ifCond .le o, 3)) (hp : 0 ≤ (pc : Int) + o ∧ ((pc : Int) + o).toNat = pc') (hq : ¬ 0 < x) (g : OG p e below s n0 rc rs Q (T.setTop (mkF m pc' Ls st))) : OG p e below s n0 rc rs Q (T.setTop (mkF m pc Ls (.int x :: st))) := by
  obtain ⟨⟨hx, hby, -⟩, -, locs, -, Y⟩ := X
  exact OG.pre (fun _ q => XS.ifYes Y.here hx rfl (pc0 := pc) rfl (hb hby hd) rfl ((if0 _ _).trans (flt hq).2.2.2) hp.1 hp.2 q) g
theorem OG.if_le_f (X : OS B mL own nm rt Z n0 p l e R s m args below meth c T h cells slots) {x : Int32} {o : Int} (hd : decode B pc = .ok (.ifCond .le o, 3)) (hq : 0 < x) (g : OG p e below s n0 rc rs Q (T.setTop (mkF m (pc + 3) Ls st))) : OG p e below s n0 rc rs Q (T.setTop (mkF m pc Ls (.int x :: st))) := by
  obtain ⟨⟨hx, hby, -⟩, -, locs, -, Y⟩ := X
  exact OG.pre (fun _ q => XS.ifNo Y.here hx rfl (hb hby hd) rfl ((if0 _ _).trans (tlt hq).2.2.2) q) g
theorem OG.if_le (X : OS B mL own nm rt Z n0 p l e R s m args below meth c T h cells slots) {x : Int32} {o : Int} {pc' : Nat} (hd : decode B pc = .ok (.ifCond .le o, 3)) (hp : 0 ≤ (pc : Int) + o ∧ ((pc : Int) + o).toNat = pc') (g1 : ¬ 0 < x → OG p e below s n0 rc rs Q (T.setTop (mkF m pc' Ls st))) (g2 : 0 < x → OG p e below s n0 rc rs Q (T.setTop (mkF m (pc + 3) Ls st))) : OG p e below s n0 rc rs Q (T.setTop (mkF m pc Ls (.int x :: st))) :=
  if hq : 0 < x then OG.if_le_f X hd hq (g2 hq) else OG.if_le_t X hd hp hq (g1 hq)
theorem OG.ifl_le_t (X : OS B mL own nm rt Z n0 p l e R s m args below meth c T h cells slots) {x y : Int64} {o : Int} {pc' : Nat} (hd : decode B pc = .ok (.ifCond .le o, 3)) (hp : 0 ≤ (pc : Int) + o ∧ ((pc : Int) + o).toNat = pc') (hq : ¬ y < x) (g : OG p e below s n0 rc rs Q (T.setTop (mkF m pc' Ls st))) : OG p e below s n0 rc rs Q (T.setTop (mkF m pc Ls (.int (lcmpW x y) :: st))) := by
  obtain ⟨⟨hx, hby, -⟩, -, locs, -, Y⟩ := X
  exact OG.pre (fun _ q => XS.ifYes Y.here hx rfl (pc0 := pc) rfl (hb hby hd) rfl ((if0 _ _).trans (flt (fun q => hq ((lw_gt x y).mp q))).2.2.2) hp.1 hp.2 q) g
theorem OG.ifl_le_f (X : OS B mL own nm rt Z n0 p l e R s m args below meth c T h cells slots) {x y : Int64} {o : Int} (hd : decode B pc = .ok (.ifCond .le o, 3)) (hq : y < x) (g : OG p e below s n0 rc rs Q (T.setTop (mkF m (pc + 3) Ls st))) : OG p e below s n0 rc rs Q (T.setTop (mkF m pc Ls (.int (lcmpW x y) :: st))) := by
  obtain ⟨⟨hx, hby, -⟩, -, locs, -, Y⟩ := X
  exact OG.pre (fun _ q => XS.ifNo Y.here hx rfl (hb hby hd) rfl ((if0 _ _).trans (tlt ((lw_gt x y).mpr hq)).2.2.2) q) g
theorem OG.ifl_le (X : OS B mL own nm rt Z n0 p l e R s m args below meth c T h cells slots) {x y : Int64} {o : Int} {pc' : Nat} (hd : decode B pc = .ok (.ifCond .le o, 3)) (hp : 0 ≤ (pc : Int) + o ∧ ((pc : Int) + o).toNat = pc') (g1 : ¬ y < x → OG p e below s n0 rc rs Q (T.setTop (mkF m pc' Ls st))) (g2 : y < x → OG p e below s n0 rc rs Q (T.setTop (mkF m (pc + 3) Ls st))) : OG p e below s n0 rc rs Q (T.setTop (mkF m pc Ls (.int (lcmpW x y) :: st))) :=
  if hq : y < x then OG.ifl_le_f X hd hq (g2 hq) else OG.ifl_le_t X hd hp hq (g1 hq)
theorem OG.icmp_eq_t (X : OS B mL own nm rt Z n0 p l e R s m args below meth c T h cells slots) {x y : Int32} {o : Int} {pc' : Nat} (hd : decode B pc = .ok (.if_icmp .eq o, 3)) (hp : 0 ≤ (pc : Int) + o ∧ ((pc : Int) + o).toNat = pc') (hq : x = y) (g : OG p e below s n0 rc rs Q (T.setTop (mkF m pc' Ls st))) : OG p e below s n0 rc rs Q (T.setTop (mkF m pc Ls (.int y :: .int x :: st))) := by
  obtain ⟨⟨hx, hby, -⟩, -, locs, -, Y⟩ := X
  exact OG.pre (fun _ q => XS.icmpYes Y.here hx rfl (pc0 := pc) rfl (hb hby hd) rfl (teq hq).1 hp.1 hp.2 q) g
theorem OG.icmp_eq_f (X : OS B mL own nm rt Z n0 p l e R s m args below meth c T h cells slots) {x y : Int32} {o : Int} (hd : decode B pc = .ok (.if_icmp .eq o, 3)) (hq : ¬ x = y) (g : OG p e below s n0 rc rs Q (T.setTop (mkF m (pc + 3) Ls st))) : OG p e below s n0 rc rs Q (T.setTop (mkF m pc Ls (.int y :: .int x :: st))) := by
  obtain ⟨⟨hx, hby, -⟩, -, locs, -, Y⟩ := X
  exact OG.pre (fun _ q => XS.icmpNo Y.here hx rfl (hb hby hd) rfl (feq hq).1 q) g
theorem OG.icmp_eq (X : OS B mL own nm rt Z n0 p l e R s m args below meth c T h cells slots) {x y : Int32} {o : Int} {pc' : Nat} (hd : decode B pc = .ok (.if_icmp .eq o, 3)) (hp : 0 ≤ (pc : Int) + o ∧ ((pc : Int) + o).toNat = pc') (g1 : x = y → OG p e below s n0 rc rs Q (T.setTop (mkF m pc' Ls st))) (g2 : ¬ x = y → OG p e below s n0 rc rs Q (T.setTop (mkF m (pc + 3) Ls st))) : OG p e below s n0 rc rs Q (T.setTop (mkF m pc Ls (.int y :: .int x :: st))) :=
  if hq : x = y then OG.icmp_eq_t X hd hp hq (g1 hq) else OG.icmp_eq_f X hd hq (g2 hq)
theorem OG.if_eq_t (X : OS B mL own nm rt Z n0 p l e R s m args below meth c T h cells slots) {x : Int32} {o : Int} {pc' : Nat} (hd : decode B pc = .ok (.ifCond .eq o, 3)) (hp : 0 ≤ (pc : Int) + o ∧ ((pc : Int) + o).toNat = pc') (hq : x = 0) (g : OG p e below s n0 rc rs Q (T.setTop (mkF m pc' Ls st))) : OG p e below s n0 rc rs Q (T.setTop (mkF m pc Ls (.int x :: st))) := by
  obtain ⟨⟨hx, hby, -⟩, -, locs, -, Y⟩ := X
  exact OG.pre (fun _ q => XS.ifYes Y.here hx rfl (pc0 := pc) rfl (hb hby hd) rfl ((if0 _ _).trans (teq hq).1) hp.1 hp.2 q) g
theorem OG.if_eq_f (X : OS B mL own nm rt Z n0 p l e R s m args below meth c T h cells slots) {x : Int32} {o : Int} (hd : decode B pc = .ok (.ifCond .eq o, 3)) (hq : ¬ x = 0) (g : OG p e below s n0 rc rs Q (T.setTop (mkF m (pc + 3) Ls st))) : OG p e below s n0 rc rs Q (T.setTop (mkF m pc Ls (.int x :: st))) := by
  obtain ⟨⟨hx, hby, -⟩, -, locs, -, Y⟩ := X
  exact OG.pre (fun _ q => XS.ifNo Y.here hx rfl (hb hby hd) rfl ((if0 _ _).trans (feq hq).1) q) g
theorem OG.if_eq (X : OS B mL own nm rt Z n0 p l e R s m args below meth c T h cells slots) {x : Int32} {o : Int} {pc' : Nat} (hd : decode B pc = .ok (.ifCond .eq o, 3)) (hp : 0 ≤ (pc : Int) + o ∧ ((pc : Int) + o).toNat = pc') (g1 : x = 0 → OG p e below s n0 rc rs Q (T.setTop (mkF m pc' Ls st))) (g2 : ¬ x = 0 → OG p e below s n0 rc rs Q (T.setTop (mkF m (pc + 3) Ls st))) : OG p e below s n0 rc rs Q (T.setTop (mkF m pc Ls (.int x :: st))) :=
  if hq : x = 0 then OG.if_eq_t X hd hp hq (g1 hq) else OG.if_eq_f X hd hq (g2 hq)
theorem OG.ifl_eq_t (X : OS B mL own nm rt Z n0 p l e R s m args below meth c T h cells slots) {x y : Int64} {o : Int} {pc' : Nat} (hd : decode B pc = .ok (.ifCond .eq o, 3)) (hp : 0 ≤ (pc : Int) + o ∧ ((pc : Int) + o).toNat = pc') (hq : x = y) (g : OG p e below s n0 rc rs Q (T.setTop (mkF m pc' Ls st))) : OG p e below s n0 rc rs Q (T.setTop (mkF m pc Ls (.int (lcmpW x y) :: st))) := by
  obtain ⟨⟨hx, hby, -⟩, -, locs, -, Y⟩ := X
  exact OG.pre (fun _ q => XS.ifYes Y.here hx rfl (pc0 := pc) rfl (hb hby hd) rfl ((if0 _ _).trans (teq ((lw_eq x y).mpr hq)).1) hp.1 hp.2 q) g
theorem OG.ifl_eq_f (X : OS B mL own nm rt Z n0 p l e R s m args below meth c T h cells slots) {x y : Int64} {o : Int} (hd : decode B pc = .ok (.ifCond .eq o, 3)) (hq : ¬ x = y) (g : OG p e below s n0 rc rs Q (T.setTop (mkF m (pc + 3) Ls st))) : OG p e below s n0 rc rs Q (T.setTop (mkF m pc Ls (.int (lcmpW x y) :: st))) := by
  obtain ⟨⟨hx, hby, -⟩, -, locs, -, Y⟩ := X
  exact OG.pre (fun _ q => XS.ifNo Y.here hx rfl (hb hby hd) rfl ((if0 _ _).trans (feq (fun q => hq ((lw_eq x y).mp q))).1) q) g
theorem OG.ifl_eq (X : OS B mL own nm rt Z n0 p l e R s m args below meth c T h cells slots) {x y : Int64} {o : Int} {pc' : Nat} (hd : decode B pc = .ok (.ifCond .eq o, 3)) (hp : 0 ≤ (pc : Int) + o ∧ ((pc : Int) + o).toNat = pc') (g1 : x = y → OG p e below s n0 rc rs Q (T.setTop (mkF m pc' Ls st))) (g2 : ¬ x = y → OG p e below s n0 rc rs Q (T.setTop (mkF m (pc + 3) Ls st))) : OG p e below s n0 rc rs Q (T.setTop (mkF m pc Ls (.int (lcmpW x y) :: st))) :=
  if hq : x = y then OG.ifl_eq_t X hd hp hq (g1 hq) else OG.ifl_eq_f X hd hq (g2 hq)
theorem OG.icmp_ne_t (X : OS B mL own nm rt Z n0 p l e R s m args below meth c T h cells slots) {x y : Int32} {o : Int} {pc' : Nat} (hd : decode B pc = .ok (.if_icmp .ne o, 3)) (hp : 0 ≤ (pc : Int) + o ∧ ((pc : Int) + o).toNat = pc') (hq : ¬ x = y) (g : OG p e below s n0 rc rs Q (T.setTop (mkF m pc' Ls st))) : OG p e below s n0 rc rs Q (T.setTop (mkF m pc Ls (.int y :: .int x :: st))) := by
  obtain ⟨⟨hx, hby, -⟩, -, locs, -, Y⟩ := X
  exact OG.pre (fun _ q => XS.icmpYes Y.here hx rfl (pc0 := pc) rfl (hb hby hd) rfl (feq hq).2 hp.1 hp.2 q) g
theorem OG.icmp_ne_f (X : OS B mL own nm rt Z n0 p l e R s m args below meth c T h cells slots) {x y : Int32} {o : Int} (hd : decode B pc = .ok (.if_icmp .ne o, 3)) (hq : x = y) (g : OG p e below s n0 rc rs Q (T.setTop (mkF m (pc + 3) Ls st))) : OG p e below s n0 rc rs Q (T.setTop (mkF m pc Ls (.int y :: .int x :: st))) := by
  obtain ⟨⟨hx, hby, -⟩, -, locs, -, Y⟩ := X
  exact OG.pre (fun _ q => XS.icmpNo Y.here hx rfl (hb hby hd) rfl (teq hq).2 q) g
theorem OG.icmp_ne (X : OS B mL own nm rt Z n0 p l e R s m args below meth c T h cells slots) {x y : Int32} {o : Int} {pc' : Nat} (hd : decode B pc = .ok (.if_icmp .ne o, 3)) (hp : 0 ≤ (pc : Int) + o ∧ ((pc : Int) + o).toNat = pc') (g1 : ¬ x = y → OG p e below s n0 rc rs Q (T.setTop (mkF m pc' Ls st))) (g2 : x = y → OG p e below s n0 rc rs Q (T.setTop (mkF m (pc + 3) Ls st))) : OG p e below s n0 rc rs Q (T.setTop (mkF m pc Ls (.int y :: .int x :: st))) :=
  if hq : x = y then OG.icmp_ne_f X hd hq (g2 hq) else OG.icmp_ne_t X hd hp hq (g1 hq)
theorem OG.if_ne_t (X : OS B mL own nm rt Z n0 p l e R s m args below meth c T h cells slots) {x : Int32} {o : Int} {pc' : Nat} (hd : decode B pc = .ok (.ifCond .ne o, 3)) (hp : 0 ≤ (pc : Int) + o ∧ ((pc : Int) + o).toNat = pc') (hq : ¬ x = 0) (g : OG p e below s n0 rc rs Q (T.setTop (mkF m pc' Ls st))) : OG p e below s n0 rc rs Q (T.setTop (mkF m pc Ls (.int x :: st))) := by
  obtain ⟨⟨hx, hby, -⟩, -, locs, -, Y⟩ := X
  exact OG.pre (fun _ q => XS.ifYes Y.here hx rfl (pc0 := pc) rfl (hb hby hd) rfl ((if0 _ _).trans (feq hq).2) hp.1 hp.2 q) g
theorem OG.if_ne_f (X : OS B mL own nm rt Z n0 p l e R s m args below meth c T h cells slots) {x : Int32} {o : Int} (hd : decode B pc = .ok (.ifCond .ne o, 3)) (hq : x = 0) (g : OG p e below s n0 rc rs Q (T.setTop (mkF m (pc + 3) Ls st))) : OG p e below s n0 rc rs Q (T.setTop (mkF m pc Ls (.int x :: st))) := by
  obtain ⟨⟨hx, hby, -⟩, -, locs, -, Y⟩ := X
  exact OG.pre (fun _ q => XS.ifNo Y.here hx rfl (hb hby hd) rfl ((if0 _ _).trans (teq hq).2) q) g
theorem OG.if_ne (X : OS B mL own nm rt Z n0 p l e R s m args below meth c T h cells slots) {x : Int32} {o : Int} {pc' : Nat} (hd : decode B pc = .ok (.ifCond .ne o, 3)) (hp : 0 ≤ (pc : Int) + o ∧ ((pc : Int) + o).toNat = pc') (g1 : ¬ x = 0 → OG p e below s n0 rc rs Q (T.setTop (mkF m pc' Ls st))) (g2 : x = 0 → OG p e below s n0 rc rs Q (T.setTop (mkF m (pc + 3) Ls st))) : OG p e below s n0 rc rs Q (T.setTop (mkF m pc Ls (.int x :: st))) :=
  if hq : x = 0 then OG.if_ne_f X hd hq (g2 hq) else OG.if_ne_t X hd hp hq (g1 hq)
theorem OG.ifl_ne_t (X : OS B mL own nm rt Z n0 p l e R s m args below meth c T h cells slots) {x y : Int64} {o : Int} {pc' : Nat} (hd : decode B pc = .ok (.ifCond .ne o, 3)) (hp : 0 ≤ (pc : Int) + o ∧ ((pc : Int) + o).toNat = pc') (hq : ¬ x = y) (g : OG p e below s n0 rc rs Q (T.setTop (mkF m pc' Ls st))) : OG p e below s n0 rc rs Q (T.setTop (mkF m pc Ls (.int (lcmpW x y) :: st))) := by
  obtain ⟨⟨hx, hby, -⟩, -, locs, -, Y⟩ := X
  exact OG.pre (fun _ q => XS.ifYes Y.here hx rfl (pc0 := pc) rfl (hb hby hd) rfl ((if0 _ _).trans (feq (fun q => hq ((lw_eq x y).mp q))).2) hp.1 hp.2 q) g
theorem OG.ifl_ne_f (X : OS B mL own nm rt Z n0 p l e R s m args below meth c T h cells slots) {x y : Int64} {o : Int} (hd : decode B pc = .ok (.ifCond .ne o, 3)) (hq : x = y) (g : OG p e below s n0 rc rs Q (T.setTop (mkF m (pc + 3) Ls st))) : OG p e below s n0 rc rs Q (T.setTop (mkF m pc Ls (.int (lcmpW x y) :: st))) := by
  obtain ⟨⟨hx, hby, -⟩, -, locs, -, Y⟩ := X
  exact OG.pre (fun _ q => XS.ifNo Y.here hx rfl (hb hby hd) rfl ((if0 _ _).trans (teq ((lw_eq x y).mpr hq)).2) q) g
theorem OG.ifl_ne (X : OS B mL own nm rt Z n0 p l e R s m args below meth c T h cells slots) {x y : Int64} {o : Int} {pc' : Nat} (hd : decode B pc = .ok (.ifCond .ne o, 3)) (hp : 0 ≤ (pc : Int) + o ∧ ((pc : Int) + o).toNat = pc') (g1 : ¬ x = y → OG p e below s n0 rc rs Q (T.setTop (mkF m pc' Ls st))) (g2 : x = y → OG p e below s n0 rc rs Q (T.setTop (mkF m (pc + 3) Ls st))) : OG p e below s n0 rc rs Q (T.setTop (mkF m pc Ls (.int (lcmpW x y) :: st))) :=
  if hq : x = y then OG.ifl_ne_f X hd hq (g2 hq) else OG.ifl_ne_t X hd hp hq (g1 hq)
theorem OG.ifnullYes (X : OS B mL own nm rt Z n0 p l e R s m args below meth c T h cells slots)  {o : Int} {pc' : Nat} (hd : decode B pc = .ok (.ifnull o, 3)) (hp : 0 ≤ (pc : Int) + o ∧ ((pc : Int) + o).toNat = pc') (g : OG p e below s n0 rc rs Q (T.setTop (mkF m pc' Ls st))) : OG p e below s n0 rc rs Q (T.setTop (mkF m pc Ls (.null :: st))) := by
  obtain ⟨⟨hx, hby, -⟩, -, locs, -, Y⟩ := X
  exact OG.pre (fun _ q => XS.ifnullYes Y.here hx rfl (pc0 := pc) rfl (hb hby hd) rfl hp.1 hp.2 q) g
theorem OG.ifnonnullYes (X : OS B mL own nm rt Z n0 p l e R s m args below meth c T h cells slots) {a : Addr} {o : Int} {pc' : Nat} (hd : decode B pc = .ok (.ifnonnull o, 3)) (hp : 0 ≤ (pc : Int) + o ∧ ((pc : Int) + o).toNat = pc') (g : OG p e below s n0 rc rs Q (T.setTop (mkF m pc' Ls st))) : OG p e below s n0 rc rs Q (T.setTop (mkF m pc Ls (.ref a :: st))) := by
  obtain ⟨⟨hx, hby, -⟩, -, locs, -, Y⟩ := X
  exact OG.pre (fun _ q => XS.ifnonnullYes Y.here hx rfl (pc0 := pc) rfl (hb hby hd) rfl hp.1 hp.2 q) g
theorem OG.ifnullNo (X : OS B mL own nm rt Z n0 p l e R s m args below meth c T h cells slots) {a : Addr} {o : Int} (hd : decode B pc = .ok (.ifnull o, 3)) (g : OG p e below s n0 rc rs Q (T.setTop (mkF m (pc + 3) Ls st))) : OG p e below s n0 rc rs Q (T.setTop (mkF m pc Ls (.ref a :: st))) := by
  obtain ⟨⟨hx, hby, -⟩, -, locs, -, Y⟩ := X
  exact OG.pre (fun _ q => XS.ifnullNo Y.here hx rfl (hb hby hd) rfl q) g
theorem OG.ifnonnullNo (X : OS B mL own nm rt Z n0 p l e R s m args below meth c T h cells slots)  {o : Int} (hd : decode B pc = .ok (.ifnonnull o, 3)) (g : OG p e below s n0 rc rs Q (T.setTop (mkF m (pc + 3) Ls st))) : OG p e below s n0 rc rs Q (T.setTop (mkF m pc Ls (.null :: st))) := by
  obtain ⟨⟨hx, hby, -⟩, -, locs, -, Y⟩ := X
  exact OG.pre (fun _ q => XS.ifnonnullNo Y.here hx rfl (hb hby hd) rfl q) g
theorem OG.acmp_eq_t (X : OS B mL own nm rt Z n0 p l e R s m args below meth c T h cells slots) {x y : Addr} {o : Int} {pc' : Nat} (hd : decode B pc = .ok (.if_acmp .eq o, 3)) (hp : 0 ≤ (pc : Int) + o ∧ ((pc : Int) + o).toNat = pc') (hq : x = y) (g : OG p e below s n0 rc rs Q (T.setTop (mkF m pc' Ls st))) : OG p e below s n0 rc rs Q (T.setTop (mkF m pc Ls (.ref y :: .ref x :: st))) := by
  obtain ⟨⟨hx, hby, -⟩, -, locs, -, Y⟩ := X
  exact OG.pre (fun _ q => RoadKit.acmp Y hx rfl rfl rfl (pc0 := pc) (pc' := pc') (same := true) rfl (hb hby hd) rfl (decide_eq_true (congrArg Value.ref hq)) hp.1 (by simp [acV, hp.2]) q) g
theorem OG.acmp_eq_f (X : OS B mL own nm rt Z n0 p l e R s m args below meth c T h cells slots) {x y : Addr} {o : Int} {pc' : Nat} (hd : decode B pc = .ok (.if_acmp .eq o, 3)) (hp : 0 ≤ (pc : Int) + o ∧ ((pc : Int) + o).toNat = pc') (hq : ¬ x = y) (g : OG p e below s n0 rc rs Q (T.setTop (mkF m (pc + 3) Ls st))) : OG p e below s n0 rc rs Q (T.setTop (mkF m pc Ls (.ref y :: .ref x :: st))) := by
  obtain ⟨⟨hx, hby, -⟩, -, locs, -, Y⟩ := X
  exact OG.pre (fun _ q => RoadKit.acmp Y hx rfl rfl rfl (pc0 := pc) (pc' := (pc + 3)) (same := false) rfl (hb hby hd) rfl (decide_eq_false fun q => hq (Value.ref.inj q)) hp.1 (by simp [acV]) q) g
theorem OG.acmp_ne_f (X : OS B mL own nm rt Z n0 p l e R s m args below meth c T h cells slots) {x y : Addr} {o : Int} {pc' : Nat} (hd : decode B pc = .ok (.if_acmp .ne o, 3)) (hp : 0 ≤ (pc : Int) + o ∧ ((pc : Int) + o).toNat = pc') (hq : x = y) (g : OG p e below s n0 rc rs Q (T.setTop (mkF m (pc + 3) Ls st))) : OG p e below s n0 rc rs Q (T.setTop (mkF m pc Ls (.ref y :: .ref x :: st))) := by
  obtain ⟨⟨hx, hby, -⟩, -, locs, -, Y⟩ := X
  exact OG.pre (fun _ q => RoadKit.acmp Y hx rfl rfl rfl (pc0 := pc) (pc' := (pc + 3)) (same := true) rfl (hb hby hd) rfl (decide_eq_true (congrArg Value.ref hq)) hp.1 (by simp [acV]) q) g
theorem OG.acmp_ne_t (X : OS B mL own nm rt Z n0 p l e R s m args below meth c T h cells slots) {x y : Addr} {o : Int} {pc' : Nat} (hd : decode B pc = .ok (.if_acmp .ne o, 3)) (hp : 0 ≤ (pc : Int) + o ∧ ((pc : Int) + o).toNat = pc') (hq : ¬ x = y) (g : OG p e below s n0 rc rs Q (T.setTop (mkF m pc' Ls st))) : OG p e below s n0 rc rs Q (T.setTop (mkF m pc Ls (.ref y :: .ref x :: st))) := by
  obtain ⟨⟨hx, hby, -⟩, -, locs, -, Y⟩ := X
  exact OG.pre (fun _ q => RoadKit.acmp Y hx rfl rfl rfl (pc0 := pc) (pc' := pc') (same := false) rfl (hb hby hd) rfl (decide_eq_false fun q => hq (Value.ref.inj q)) hp.1 (by simp [acV, hp.2]) q) g
theorem OG.acmp_eq (X : OS B mL own nm rt Z n0 p l e R s m args below meth c T h cells slots) {x y : Addr} {o : Int} {pc' : Nat} (hd : decode B pc = .ok (.if_acmp .eq o, 3)) (hp : 0 ≤ (pc : Int) + o ∧ ((pc : Int) + o).toNat = pc') (g1 : x = y → OG p e below s n0 rc rs Q (T.setTop (mkF m pc' Ls st))) (g2 : ¬ x = y → OG p e below s n0 rc rs Q (T.setTop (mkF m (pc + 3) Ls st))) : OG p e below s n0 rc rs Q (T.setTop (mkF m pc Ls (.ref y :: .ref x :: st))) :=
  if hq : x = y then OG.acmp_eq_t X hd hp hq (g1 hq) else OG.acmp_eq_f X hd hp hq (g2 hq)
theorem OG.acmp_ne (X : OS B mL own nm rt Z n0 p l e R s m args below meth c T h cells slots) {x y : Addr} {o : Int} {pc' : Nat} (hd : decode B pc = .ok (.if_acmp .ne o, 3)) (hp : 0 ≤ (pc : Int) + o ∧ ((pc : Int) + o).toNat = pc') (g1 : x = y → OG p e below s n0 rc rs Q (T.setTop (mkF m (pc + 3) Ls st))) (g2 : ¬ x = y → OG p e below s n0 rc rs Q (T.setTop (mkF m pc' Ls st))) : OG p e below s n0 rc rs Q (T.setTop (mkF m pc Ls (.ref y :: .ref x :: st))) :=
  if hq : x = y then OG.acmp_ne_f X hd hp hq (g1 hq) else OG.acmp_ne_t X hd hp hq (g2 hq)
theorem OG.retI {z : Int32} (X : OS B mL own nm (some .int) Z n0 p l e R s m args below meth c T h cells slots) (hd : decode B pc = .ok (.ireturn, 1))  (hc : cells ≤ rc) (hs : slots ≤ rs) (hQ : Q (some (.int z)) h) : OG p e below s n0 rc rs Q (T.setTop (mkF m pc Ls (.int z :: st))) := by
  obtain ⟨⟨hx, hby, -, -, -, hrt, hlk, -⟩, eT, locs, N, Y⟩ := X
  obtain ⟨fs, hr, hrun, hended, hW, hsame⟩ := Y.leave (v := (some (.int z))) (fun q => by first | rfl | (rw [hrt] at q; cases q)) hlk
  refine ⟨_, _, ?_, hrun, hended, _, _, rfl, ⟨?_, N⟩, ⟨_, rfl⟩, hW, hsame.mono hc hs⟩
  · exact Jvm.RoadKit.retI Y hx hrt (hb hby hd) hr
  · show Q _ T.heap
    rw [eT]; exact hQ
theorem OG.retN {z : Int32} {t : FieldType} (X : OS B mL own nm (some t) Z n0 p l e R s m args below meth c T h cells slots) (hd : decode B pc = .ok (.ireturn, 1)) (ht : t = .boolean ∨ t = .byte ∨ t = .char ∨ t = .short) (hc : cells ≤ rc) (hs : slots ≤ rs) (hQ : Q (some (.int (nar t z))) h) : OG p e below s n0 rc rs Q (T.setTop (mkF m pc Ls (.int z :: st))) := by
  obtain ⟨⟨hx, hby, -, -, -, hrt, hlk, -⟩, eT, locs, N, Y⟩ := X
  obtain ⟨fs, hr, hrun, hended, hW, hsame⟩ := Y.leave (v := (some (.int (nar t z)))) (fun q => by first | rfl | (rw [hrt] at q; cases q)) hlk
  refine ⟨_, _, ?_, hrun, hended, _, _, rfl, ⟨?_, N⟩, ⟨_, rfl⟩, hW, hsame.mono hc hs⟩
  · exact Jvm.RoadKit.retN Y hx (t := t) hrt ht (hb hby hd) hr
  · show Q _ T.heap
    rw [eT]; exact hQ
theorem OG.retJ {z : Int64} (X : OS B mL own nm (some .long) Z n0 p l e R s m args below meth c T h cells slots) (hd : decode B pc = .ok (.lreturn, 1))  (hc : cells ≤ rc) (hs : slots ≤ rs) (hQ : Q (some (.long z)) h) : OG p e below s n0 rc rs Q (T.setTop (mkF m pc Ls (.long z :: st))) := by
  obtain ⟨⟨hx, hby, -, -, -, hrt, hlk, -⟩, eT, locs, N, Y⟩ := X
  obtain ⟨fs, hr, hrun, hended, hW, hsame⟩ := Y.leave (v := (some (.long z))) (fun q => by first | rfl | (rw [hrt] at q; cases q)) hlk
  refine ⟨_, _, ?_, hrun, hended, _, _, rfl, ⟨?_, N⟩, ⟨_, rfl⟩, hW, hsame.mono hc hs⟩
  · exact Jvm.RoadKit.retOut (t := .long) Y hx hrt rfl (Or.inr (Or.inl ⟨rfl, rfl, _, rfl⟩)) (hb hby hd) hr
  · show Q _ T.heap
    rw [eT]; exact hQ
theorem OG.retA {w : Value} {t : FieldType} (X : OS B mL own nm (some t) Z n0 p l e R s m args below meth c T h cells slots) (hd : decode B pc = .ok (.areturn, 1)) (ht : t.isReference = true) (hw : w.isRef = true) (hc : cells ≤ rc) (hs : slots ≤ rs) (hQ : Q (some w) h) : OG p e below s n0 rc rs Q (T.setTop (mkF m pc Ls (w :: st))) := by
  obtain ⟨⟨hx, hby, -, -, -, hrt, hlk, -⟩, eT, locs, N, Y⟩ := X
  obtain ⟨fs, hr, hrun, hended, hW, hsame⟩ := Y.leave (v := (some w)) (fun q => by first | rfl | (rw [hrt] at q; cases q)) hlk
  refine ⟨_, _, ?_, hrun, hended, _, _, rfl, ⟨?_, N⟩, ⟨_, rfl⟩, hW, hsame.mono hc hs⟩
  · exact Jvm.RoadKit.retOut (t := t) Y hx hrt (by rcases ref_cases hw with rfl | ⟨z, rfl⟩ <;> cases t <;> rfl) (Or.inr (Or.inr (Or.inr (Or.inr ⟨rfl, ht, hw⟩)))) (hb hby hd) hr
  · show Q _ T.heap
    rw [eT]; exact hQ
theorem OG.retV  (X : OS B mL own nm none Z n0 p l e R s m args below meth c T h cells slots) (hd : decode B pc = .ok (.return_, 1))  (hc : cells ≤ rc) (hs : slots ≤ rs) (hQ : Q none h) : OG p e below s n0 rc rs Q (T.setTop (mkF m pc Ls [])) := by
  obtain ⟨⟨hx, hby, -, -, -, hrt, hlk, -⟩, eT, locs, N, Y⟩ := X
  obtain ⟨fs, hr, hrun, hended, hW, hsame⟩ := Y.leave (v := none) (fun q => by first | rfl | (rw [hrt] at q; cases q)) hlk
  refine ⟨_, _, ?_, hrun, hended, _, _, rfl, ⟨?_, N⟩, ⟨_, rfl⟩, hW, hsame.mono hc hs⟩
  · exact Y.returnOut hx hrt (hb hby hd) hr
  · show Q _ T.heap
    rw [eT]; exact hQ
theorem OG.ldcInt (X : OS B mL own nm rt Z n0 p l e R s m args below meth c T h cells slots) {index : Nat} {v : Int32} (w : (Cond.constant own index v).before a0 Z = true) (hd : decode B pc = .ok (.ldc index, 2)) (g : OG p e below s n0 rc rs Q (T.setTop (mkF m (pc + 2) Ls (.int v :: st)))) : OG p e below s n0 rc rs Q (T.setTop (mkF m pc Ls st)) := by
  obtain ⟨⟨hx, hby, -, hown, -, -, -, hZ⟩, -, locs, -, Y⟩ := X
  exact OG.pre (fun _ k => Y.ldcInt hx hown (mvT hZ w) (g := mkF m pc Ls st) rfl (hb hby hd) _ k) g
theorem OG.ldcwInt (X : OS B mL own nm rt Z n0 p l e R s m args below meth c T h cells slots) {index : Nat} {v : Int32} (w : (Cond.constant own index v).before a0 Z = true) (hd : decode B pc = .ok (.ldc_w index, 3)) (g : OG p e below s n0 rc rs Q (T.setTop (mkF m (pc + 3) Ls (.int v :: st)))) : OG p e below s n0 rc rs Q (T.setTop (mkF m pc Ls st)) := by
  obtain ⟨⟨hx, hby, -, hown, -, -, -, hZ⟩, -, locs, -, Y⟩ := X
  exact OG.pre (fun _ k => Y.ldcwInt hx hown (mvT hZ w) (g := mkF m pc Ls st) rfl (hb hby hd) _ k) g
theorem OG.ldc2Long (X : OS B mL own nm rt Z n0 p l e R s m args below meth c T h cells slots) {index : Nat} {v : Int64} (w : (Cond.constantLong own index v).before a0 Z = true) (hd : decode B pc = .ok (.ldc2_w index, 3)) (g : OG p e below s n0 rc rs Q (T.setTop (mkF m (pc + 3) Ls (.long v :: st)))) : OG p e below s n0 rc rs Q (T.setTop (mkF m pc Ls st)) := by
  obtain ⟨⟨hx, hby, -, hown, -, -, -, hZ⟩, -, locs, -, Y⟩ := X
  exact OG.pre (fun _ k => Y.ldc2Long hx hown (mvT hZ w) (g := mkF m pc Ls st) rfl (hb hby hd) _ k) g
theorem OG.getF (X : OS B mL own nm rt Z n0 p l e R s m args below meth c T h cells slots) {R0 O n d host : String} {index : Nat} (w : (Cond.fieldLink own index R0 n d).before a0 Z = true ∨ (Cond.fieldLinkNest own index R0 n d host).before a0 Z = true) (via : Via Z R0 O n d) {a : Addr} {v : Value} (F : Fld Z h a O n d v) (hd : decode B pc = .ok (.getfield index, 3)) (g : ∀ T', OS B mL own nm rt Z n0 p l e R s m args below meth c T' h cells slots → OG p e below s n0 rc rs Q (T'.setTop (mkF m (pc + 3) Ls (v :: st)))) : OG p e below s n0 rc rs Q (T.setTop (mkF m pc Ls (.ref a :: st))) := by
  obtain ⟨h0, eT, locs, N, Y⟩ := X
  have h0' := h0
  obtain ⟨hx, hby, -, hown, -, -, -, hZ⟩ := h0'
  obtain ⟨T', Y', e', stp⟩ := RoadKit.getF Y hx hZ hown w via eT F (g := mkF m pc Ls (.ref a :: st)) rfl rfl (hb hby hd)
  exact OG.pre stp (g T' ⟨h0, e', locs, N, Y'⟩)
theorem OG.getS (X : OS B mL own nm rt Z n0 p l e R s m args below meth c T h cells slots) {R0 O n d host : String} {index : Nat} (w : (Cond.fieldLink own index R0 n d).before a0 Z = true ∨ (Cond.fieldLinkNest own index R0 n d host).before a0 Z = true) (via : Via Z R0 O n d) {v : Value} (F : Sta Z h O n d v) (hd : decode B pc = .ok (.getstatic index, 3)) (g : ∀ T', OS B mL own nm rt Z n0 p l e R s m args below meth c T' h cells slots → OG p e below s n0 rc rs Q (T'.setTop (mkF m (pc + 3) Ls (v :: st)))) : OG p e below s n0 rc rs Q (T.setTop (mkF m pc Ls st)) := by
  obtain ⟨h0, eT, locs, N, Y⟩ := X
  have h0' := h0
  obtain ⟨hx, hby, -, hown, -, -, -, hZ⟩ := h0'
  obtain ⟨T', Y', e', stp⟩ := RoadKit.getS2 Y hx hZ hown w via eT F (g := mkF m pc Ls st) rfl (hb hby hd)
  exact OG.pre stp (g T' ⟨h0, e', locs, N, Y'⟩)
theorem OG.putF (X : OS B mL own nm rt Z n0 p l e R s m args below meth c T h cells slots) {R0 O n d host C : String} {index kk : Nat} {ty : FieldType} (w : (Cond.fieldLink own index R0 n d).before a0 Z = true ∨ (Cond.fieldLinkNest own index R0 n d host).before a0 Z = true) (via : Via Z R0 O n d) {a : Addr} {v old : Value} (F : Fld Z h a O n d old) (E : Exa Z h a C) (L : (Cond.lays C O n d).before a0 Z = true ∨ ((Cond.laysFinal C O n d).before a0 Z = true ∧ own = O ∧ nm = "<init>")) (wi : (Cond.instantiable C kk).before a0 Z = true) (hty : parseFieldDescriptor d = some ty) (hn : narrow ty v = v) (hf : fits ty v = true) (hd : decode B pc = .ok (.putfield index, 3)) (ge : n0 ≤ a) (g : ∀ T' h', OS B mL own nm rt Z n0 p l e R s m args below meth c T' h' cells slots → Wr h h' a (slotOf Z O n d) v → OG p e below s n0 rc rs Q (T'.setTop (mkF m (pc + 3) Ls st))) : OG p e below s n0 rc rs Q (T.setTop (mkF m pc Ls (v :: .ref a :: st))) := by
  obtain ⟨h0, eT, locs, N, Y⟩ := X
  have h0' := h0
  obtain ⟨hx, hby, -, hown, hnm, -, -, hZ⟩ := h0'
  obtain ⟨T', h', Y', e', W, stp⟩ := RoadKit.putF Y hx hZ hown w via eT F E (L.imp id fun q => ⟨q.1, q.2.1, hnm.trans q.2.2⟩) wi hty hn hf (g := mkF m pc Ls (v :: .ref a :: st)) rfl rfl (hb hby hd)
  exact OG.pre stp (g T' h' ⟨h0, e', _, Fr.snoc Y' N ge, Y'⟩ W)
theorem OG.putFN (X : OS B mL own nm rt Z n0 p l e R s m args below meth c T h cells slots) {R0 O n d C : String} {index kk : Nat} {ty : FieldType} (w : (Cond.fieldLink own index R0 n d).before a0 Z = true) (via : Via Z R0 O n d) {a : Addr} {v v' old : Value} (F : Fld Z h a O n d old) (E : Exa Z h a C) (L : (Cond.lays C O n d).before a0 Z = true ∨ ((Cond.laysFinal C O n d).before a0 Z = true ∧ own = O ∧ nm = "<init>")) (wi : (Cond.instantiable C kk).before a0 Z = true) (hty : parseFieldDescriptor d = some ty) (hn : narrow ty v = v') (hf : fits ty v' = true) (hd : decode B pc = .ok (.putfield index, 3)) (ge : n0 ≤ a) (g : ∀ T' h', OS B mL own nm rt Z n0 p l e R s m args below meth c T' h' cells slots → Wr h h' a (slotOf Z O n d) v' → OG p e below s n0 rc rs Q (T'.setTop (mkF m (pc + 3) Ls st))) : OG p e below s n0 rc rs Q (T.setTop (mkF m pc Ls (v :: .ref a :: st))) := by
  obtain ⟨h0, eT, locs, N, Y⟩ := X
  have h0' := h0
  obtain ⟨hx, hby, -, hown, hnm, -, -, hZ⟩ := h0'
  obtain ⟨T', h', Y', e', W, stp⟩ := RoadKit.putFN Y hx hZ hown w via eT F E (L.imp id fun q => ⟨q.1, q.2.1, hnm.trans q.2.2⟩) wi hty hn hf (g := mkF m pc Ls (v :: .ref a :: st)) rfl rfl (hb hby hd)
  exact OG.pre stp (g T' h' ⟨h0, e', _, Fr.snoc Y' N ge, Y'⟩ W)
theorem OG.newO (X : OS B mL own nm rt Z n0 p l e R s m args below meth c T h cells slots) {C : String} {index n : Nat} (w : (Cond.classLink own index C).before a0 Z = true) (wi : (Cond.instantiable C n).before a0 Z = true) (wz : (Cond.initialized C).before a0 Z = true) (hd : decode B pc = .ok (.new index, 3)) (hc : cells + 1 ≤ R.cells) (hl : slots + n ≤ R.slots) (g : ∀ T' h' a, a = h.size → OS B mL own nm rt Z n0 p l e R s m args below meth c T' h' (cells + 1) (slots + n) → Ext h h' → Exa Z h' a C → (∀ {O nm d : String} {ty : FieldType}, Laid Z a0 C O nm d → parseFieldDescriptor d = some ty → Fld Z h' a O nm d (defaultValue ty)) → OG p e below s n0 rc rs Q (T'.setTop (mkF m (pc + 3) Ls (.ref a :: st)))) : OG p e below s n0 rc rs Q (T.setTop (mkF m pc Ls st)) := by
  obtain ⟨h0, eT, locs, N, Y⟩ := X
  have h0' := h0
  obtain ⟨hx, hby, -, hown, hnm, -, -, hZ⟩ := h0'
  obtain ⟨T', h', Y', e', E', A', D', -, stp⟩ := RoadKit.newO Y hx hZ hown w wi wz eT (g := mkF m pc Ls st) rfl (hb hby hd) hc hl
  exact OG.pre stp (g T' h' _ rfl ⟨h0, e', _, N, Y'⟩ E' A' D')
theorem OG.newP (X : OS B mL own nm rt Z n0 p l e R s m args below meth c T h cells slots) {aty : ArrayType} (w : (Cond.arrayClass (newarray.typeOf aty)).before a0 Z = true) {n : Int32} (hd : decode B pc = .ok (.newarray aty, 2)) (hn : ¬ n < 0) {cap : Nat} (hcap : n.toNatClampNeg ≤ cap) (hb8 : cap * 8 ≤ 536870912) (hc : cells + 1 ≤ R.cells) (hl : slots + cap ≤ R.slots) (g : ∀ T' h' a, a = h.size → OS B mL own nm rt Z n0 p l e R s m args below meth c T' h' (cells + 1) (slots + cap) → Ext h h' → (∃ cA, Arr Z h' a (newA cA (newarray.typeOf aty) n) (newarray.typeOf aty)) → OG p e below s n0 rc rs Q (T'.setTop (mkF m (pc + 2) Ls (.ref a :: st)))) : OG p e below s n0 rc rs Q (T.setTop (mkF m pc Ls (.int n :: st))) := by
  obtain ⟨h0, eT, locs, N, Y⟩ := X
  have h0' := h0
  obtain ⟨hx, hby, -, hown, hnm, -, -, hZ⟩ := h0'
  obtain ⟨T', h', cA, Y', e', E', A', stp⟩ := RoadKit.newP Y hx hZ w eT (g := mkF m pc Ls (.int n :: st)) rfl (hb hby hd) rfl hn hcap hb8 hc hl
  exact OG.pre stp (g T' h' _ rfl ⟨h0, e', _, N, Y'⟩ E' ⟨cA, A'⟩)
/-- an array of ints, bytes, chars, booleans: its length and what it holds -/
def Ia (Z : State) (h : Heap) (a : Addr) (ty : FieldType) (n : Nat) (f : Nat → Int32) : Prop := ∃ cl : Cell, Arr Z h a cl ty ∧ cl.slots.size = n ∧ n < 2 ^ 31 ∧ ∀ i, i < n → cl.slots[i]? = some (.int (f i))
variable {a b : Addr} {h' : Heap} {ty : FieldType} {n : Nat} {f : Nat → Int32} {sl : Nat} {v : Value} {wl : List Addr}
theorem Ia.lt (F : Ia Z h a ty n f) : a < h.size := by obtain ⟨c, A, -⟩ := F; exact A.lt
theorem Ia.ext (F : Ia Z h a ty n f) (E : Ext h h') : Ia Z h' a ty n f := by obtain ⟨c, A, r⟩ := F; exact ⟨c, A.ext E, r⟩
theorem Ia.other (F : Ia Z h b ty n f) (W : Wr h h' a sl v) (q : b ≠ a) : Ia Z h' b ty n f := by obtain ⟨c, A, r⟩ := F; exact ⟨c, A.other W q, r⟩
theorem Ia.keep (F : Ia Z h a ty n f) (K : Keep h h' wl) (q : a ∉ wl) : Ia Z h' a ty n f := by obtain ⟨c, A, r⟩ := F; exact ⟨c, ⟨K.2.1 a c A.1 q, A.2⟩, r⟩
theorem Ia.congr {f' : Nat → Int32} (F : Ia Z h a ty n f) (q : ∀ i, i < n → f i = f' i) : Ia Z h a ty n f' := by obtain ⟨c, A, r1, r2, r3⟩ := F; exact ⟨c, A, r1, r2, fun i hi => by rw [← q i hi]; exact r3 i hi⟩
theorem Ia.len (F : Ia Z h a ty n f) : n < 2 ^ 31 := by obtain ⟨c, A, r1, r2, r3⟩ := F; exact r2
theorem Ia.new {cA : ClassId} {k : Int32} (A : Arr Z h a (newA cA ty k) ty) (q : ¬ k < 0) (hk : k.toNatClampNeg = n) (hty : defaultValue ty = .int 0) : Ia Z h a ty n (fun _ => 0) := by
  subst hk
  refine ⟨_, A, sz_new _ _ _, ?_, fun i hi => ?_⟩
  · have := k.toInt_lt; simp only [Int32.toNatClampNeg]; omega
  · simp [newA, hi, hty]
theorem Ia.set {j : Nat} {x : Int32} (F : Ia Z h a ty n f) (W : Wr h h' a j (.int x)) : Ia Z h' a ty n (fun i => if i = j then x else f i) := by
  obtain ⟨c, A, r1, r2, r3⟩ := F
  refine ⟨_, A.same W, by rw [sz_set]; exact r1, r2, fun i hi => ?_⟩
  by_cases q : i = j
  · subst q; simp [Cell.setSlot, r1, hi]
  · have := r3 i hi
    simp only [Cell.setSlot, if_neg q]
    rw [Array.getElem?_setIfInBounds_ne (fun u => q u.symm)]; exact this
theorem idx32 {j : Int32} {n : Nat} (h1 : 0 ≤ j.toInt) (h2 : j.toInt < n) : ¬ (j < 0 ∨ n ≤ j.toNatClampNeg) := by
  have e0 : (0 : Int32).toInt = 0 := rfl
  simp only [Int32.lt_iff_toInt_lt, Int32.toNatClampNeg, e0]; omega
theorem len32 {n : Nat} (h : n < 2 ^ 31) : n.toInt32.toInt = n := Int32.toInt_ofNat_small h
theorem OG.iaload (X : OS B mL own nm rt Z n0 p l e R s m args below meth c T h cells slots) {a : Addr} {n : Nat} {f : Nat → Int32} (F : Ia Z h a .int n f) {j : Int32} (hj : 0 ≤ j.toInt ∧ j.toInt < n) (hd : decode B pc = .ok (.iaload, 1)) (g : OG p e below s n0 rc rs Q (T.setTop (mkF m (pc + 1) Ls (.int (f j.toInt.toNat) :: st)))) : OG p e below s n0 rc rs Q (T.setTop (mkF m pc Ls (.int j :: .ref a :: st))) := by
  obtain ⟨⟨hx, hby, -, -, -, -, -, hZ⟩, eT, locs, -, Y⟩ := X
  obtain ⟨cl, A, r1, r2, r3⟩ := F
  have hi := idx32 hj.1 hj.2
  have hq : j.toInt.toNat < n := by omega
  exact OG.pre (fun _ k => Y.iaload hx (j := j) (v := .int (f j.toInt.toNat)) (by rw [eT]; exact A.1) (State.isArrayOf_alike hZ.alike A.2.1) A.2.2 (by rw [r1]; exact hi) (r3 _ hq) (g := mkF m pc Ls (.int j :: .ref a :: st)) rfl rfl (hb hby hd) _ k) g
theorem OG.baload (X : OS B mL own nm rt Z n0 p l e R s m args below meth c T h cells slots) {a : Addr} {n : Nat} {f : Nat → Int32} (F : Ia Z h a .byte n f) {j : Int32} (hj : 0 ≤ j.toInt ∧ j.toInt < n) (hd : decode B pc = .ok (.baload, 1)) (g : OG p e below s n0 rc rs Q (T.setTop (mkF m (pc + 1) Ls (.int (f j.toInt.toNat) :: st)))) : OG p e below s n0 rc rs Q (T.setTop (mkF m pc Ls (.int j :: .ref a :: st))) := by
  obtain ⟨⟨hx, hby, -, -, -, -, -, hZ⟩, eT, locs, -, Y⟩ := X
  obtain ⟨cl, A, r1, r2, r3⟩ := F
  have hi := idx32 hj.1 hj.2
  have hq : j.toInt.toNat < n := by omega
  exact OG.pre (fun _ k => Y.baloadBytes hx (j := j) (v := .int (f j.toInt.toNat)) (by rw [eT]; exact A.1) (State.isArrayOf_alike hZ.alike A.2.1) A.2.2 (by rw [r1]; exact hi) (r3 _ hq) (g := mkF m pc Ls (.int j :: .ref a :: st)) rfl rfl (hb hby hd) _ k) g
theorem OG.zaload (X : OS B mL own nm rt Z n0 p l e R s m args below meth c T h cells slots) {a : Addr} {n : Nat} {f : Nat → Int32} (F : Ia Z h a .boolean n f) {j : Int32} (hj : 0 ≤ j.toInt ∧ j.toInt < n) (hd : decode B pc = .ok (.baload, 1)) (g : OG p e below s n0 rc rs Q (T.setTop (mkF m (pc + 1) Ls (.int (f j.toInt.toNat) :: st)))) : OG p e below s n0 rc rs Q (T.setTop (mkF m pc Ls (.int j :: .ref a :: st))) := by
  obtain ⟨⟨hx, hby, -, -, -, -, -, hZ⟩, eT, locs, -, Y⟩ := X
  obtain ⟨cl, A, r1, r2, r3⟩ := F
  have hi := idx32 hj.1 hj.2
  have hq : j.toInt.toNat < n := by omega
  exact OG.pre (fun _ k => Y.baloadBooleans hx (j := j) (v := .int (f j.toInt.toNat)) (by rw [eT]; exact A.1) (State.isArrayOf_alike hZ.alike A.2.1) A.2.2 (by rw [r1]; exact hi) (r3 _ hq) (g := mkF m pc Ls (.int j :: .ref a :: st)) rfl rfl (hb hby hd) _ k) g
theorem OG.caload (X : OS B mL own nm rt Z n0 p l e R s m args below meth c T h cells slots) {a : Addr} {n : Nat} {f : Nat → Int32} (F : Ia Z h a .char n f) {j : Int32} (hj : 0 ≤ j.toInt ∧ j.toInt < n) (hd : decode B pc = .ok (.caload, 1)) (g : OG p e below s n0 rc rs Q (T.setTop (mkF m (pc + 1) Ls (.int (f j.toInt.toNat) :: st)))) : OG p e below s n0 rc rs Q (T.setTop (mkF m pc Ls (.int j :: .ref a :: st))) := by
  obtain ⟨⟨hx, hby, -, -, -, -, -, hZ⟩, eT, locs, -, Y⟩ := X
  obtain ⟨cl, A, r1, r2, r3⟩ := F
  have hi := idx32 hj.1 hj.2
  have hq : j.toInt.toNat < n := by omega
  exact OG.pre (fun _ k => Y.caload hx (j := j) (v := .int (f j.toInt.toNat)) (by rw [eT]; exact A.1) (State.isArrayOf_alike hZ.alike A.2.1) A.2.2 (by rw [r1]; exact hi) (r3 _ hq) (g := mkF m pc Ls (.int j :: .ref a :: st)) rfl rfl (hb hby hd) _ k) g
theorem OG.saload (X : OS B mL own nm rt Z n0 p l e R s m args below meth c T h cells slots) {a : Addr} {n : Nat} {f : Nat → Int32} (F : Ia Z h a .short n f) {j : Int32} (hj : 0 ≤ j.toInt ∧ j.toInt < n) (hd : decode B pc = .ok (.saload, 1)) (g : OG p e below s n0 rc rs Q (T.setTop (mkF m (pc + 1) Ls (.int (f j.toInt.toNat) :: st)))) : OG p e below s n0 rc rs Q (T.setTop (mkF m pc Ls (.int j :: .ref a :: st))) := by
  obtain ⟨⟨hx, hby, -, -, -, -, -, hZ⟩, eT, locs, -, Y⟩ := X
  obtain ⟨cl, A, r1, r2, r3⟩ := F
  have hi := idx32 hj.1 hj.2
  have hq : j.toInt.toNat < n := by omega
  exact OG.pre (fun _ k => Y.saload hx (j := j) (v := .int (f j.toInt.toNat)) (by rw [eT]; exact A.1) (State.isArrayOf_alike hZ.alike A.2.1) A.2.2 (by rw [r1]; exact hi) (r3 _ hq) (g := mkF m pc Ls (.int j :: .ref a :: st)) rfl rfl (hb hby hd) _ k) g
theorem OG.arraylength (X : OS B mL own nm rt Z n0 p l e R s m args below meth c T h cells slots) {a : Addr} {ty : FieldType} {n : Nat} {f : Nat → Int32} (F : Ia Z h a ty n f) {z : Int32} (hz : z.toInt = n) (hd : decode B pc = .ok (.arraylength, 1)) (g : OG p e below s n0 rc rs Q (T.setTop (mkF m (pc + 1) Ls (.int z :: st)))) : OG p e below s n0 rc rs Q (T.setTop (mkF m pc Ls (.ref a :: st))) := by
  obtain ⟨⟨hx, hby, -, -, -, -, -, hZ⟩, eT, locs, -, Y⟩ := X
  obtain ⟨cl, A, r1, r2, r3⟩ := F
  have ez : cl.slots.size.toInt32 = z := by rw [← Int32.toInt_inj, r1, len32 r2, hz]
  exact OG.pre (fun _ k => Y.arraylength hx (by rw [eT]; exact A.1) (State.isArrayOf_alike hZ.alike A.2.1) (g := mkF m pc Ls (.ref a :: st)) rfl rfl (hb hby hd) _ (by rw [ez]; exact k)) g
theorem OG.iastore (X : OS B mL own nm rt Z n0 p l e R s m args below meth c T h cells slots) {a : Addr} {n : Nat} {f : Nat → Int32} (F : Ia Z h a .int n f) {j x : Int32} (hj : 0 ≤ j.toInt ∧ j.toInt < n) (hd : decode B pc = .ok (.iastore, 1)) (ge : n0 ≤ a) (g : ∀ T' h', OS B mL own nm rt Z n0 p l e R s m args below meth c T' h' cells slots → Wr h h' a j.toInt.toNat (.int (x)) → Ia Z h' a .int n (fun i => if i = j.toInt.toNat then x else f i) → OG p e below s n0 rc rs Q (T'.setTop (mkF m (pc + 1) Ls st))) : OG p e below s n0 rc rs Q (T.setTop (mkF m pc Ls (.int x :: .int j :: .ref a :: st))) := by
  obtain ⟨h0, eT, locs, N, Y⟩ := X
  have h0' := h0
  obtain ⟨hx, hby, -, hown, hnm, -, -, hZ⟩ := h0'
  have F' := F
  obtain ⟨cl, A, r1, r2, r3⟩ := F'
  obtain ⟨T', h', Y', e', W, stp⟩ := RoadKit.stI Y hx hZ eT A (j := j) (by rw [r1]; exact idx32 hj.1 hj.2) (g := mkF m pc Ls (.int x :: .int j :: .ref a :: st)) rfl rfl (hb hby hd)
  exact OG.pre stp (g T' h' ⟨h0, e', _, Fr.snoc Y' N ge, Y'⟩ W (F.set W))
theorem OG.bastore (X : OS B mL own nm rt Z n0 p l e R s m args below meth c T h cells slots) {a : Addr} {n : Nat} {f : Nat → Int32} (F : Ia Z h a .byte n f) {j x : Int32} (hj : 0 ≤ j.toInt ∧ j.toInt < n) (hd : decode B pc = .ok (.bastore, 1)) (ge : n0 ≤ a) (g : ∀ T' h', OS B mL own nm rt Z n0 p l e R s m args below meth c T' h' cells slots → Wr h h' a j.toInt.toNat (.int (x.toInt8.toInt32)) → Ia Z h' a .byte n (fun i => if i = j.toInt.toNat then x.toInt8.toInt32 else f i) → OG p e below s n0 rc rs Q (T'.setTop (mkF m (pc + 1) Ls st))) : OG p e below s n0 rc rs Q (T.setTop (mkF m pc Ls (.int x :: .int j :: .ref a :: st))) := by
  obtain ⟨h0, eT, locs, N, Y⟩ := X
  have h0' := h0
  obtain ⟨hx, hby, -, hown, hnm, -, -, hZ⟩ := h0'
  have F' := F
  obtain ⟨cl, A, r1, r2, r3⟩ := F'
  obtain ⟨T', h', Y', e', W, stp⟩ := RoadKit.stB Y hx hZ eT A (j := j) (by rw [r1]; exact idx32 hj.1 hj.2) (g := mkF m pc Ls (.int x :: .int j :: .ref a :: st)) rfl rfl (hb hby hd)
  exact OG.pre stp (g T' h' ⟨h0, e', _, Fr.snoc Y' N ge, Y'⟩ W (F.set W))
theorem OG.castore (X : OS B mL own nm rt Z n0 p l e R s m args below meth c T h cells slots) {a : Addr} {n : Nat} {f : Nat → Int32} (F : Ia Z h a .char n f) {j x : Int32} (hj : 0 ≤ j.toInt ∧ j.toInt < n) (hd : decode B pc = .ok (.castore, 1)) (ge : n0 ≤ a) (g : ∀ T' h', OS B mL own nm rt Z n0 p l e R s m args below meth c T' h' cells slots → Wr h h' a j.toInt.toNat (.int (x.toUInt32.toUInt16.toUInt32.toInt32)) → Ia Z h' a .char n (fun i => if i = j.toInt.toNat then x.toUInt32.toUInt16.toUInt32.toInt32 else f i) → OG p e below s n0 rc rs Q (T'.setTop (mkF m (pc + 1) Ls st))) : OG p e below s n0 rc rs Q (T.setTop (mkF m pc Ls (.int x :: .int j :: .ref a :: st))) := by
  obtain ⟨h0, eT, locs, N, Y⟩ := X
  have h0' := h0
  obtain ⟨hx, hby, -, hown, hnm, -, -, hZ⟩ := h0'
  have F' := F
  obtain ⟨cl, A, r1, r2, r3⟩ := F'
  obtain ⟨T', h', Y', e', W, stp⟩ := RoadKit.stC Y hx hZ eT A (j := j) (by rw [r1]; exact idx32 hj.1 hj.2) (g := mkF m pc Ls (.int x :: .int j :: .ref a :: st)) rfl rfl (hb hby hd)
  exact OG.pre stp (g T' h' ⟨h0, e', _, Fr.snoc Y' N ge, Y'⟩ W (F.set W))
theorem OG.zastore (X : OS B mL own nm rt Z n0 p l e R s m args below meth c T h cells slots) {a : Addr} {n : Nat} {f : Nat → Int32} (F : Ia Z h a .boolean n f) {j x : Int32} (hj : 0 ≤ j.toInt ∧ j.toInt < n) (hd : decode B pc = .ok (.bastore, 1)) (ge : n0 ≤ a) (g : ∀ T' h', OS B mL own nm rt Z n0 p l e R s m args below meth c T' h' cells slots → Wr h h' a j.toInt.toNat (.int (x &&& 1)) → Ia Z h' a .boolean n (fun i => if i = j.toInt.toNat then x &&& 1 else f i) → OG p e below s n0 rc rs Q (T'.setTop (mkF m (pc + 1) Ls st))) : OG p e below s n0 rc rs Q (T.setTop (mkF m pc Ls (.int x :: .int j :: .ref a :: st))) := by
  obtain ⟨h0, eT, locs, N, Y⟩ := X
  have h0' := h0
  obtain ⟨hx, hby, -, hown, hnm, -, -, hZ⟩ := h0'
  have F' := F
  obtain ⟨cl, A, r1, r2, r3⟩ := F'
  obtain ⟨T', h', Y', e', W, stp⟩ := RoadKit.stZ Y hx hZ eT A (j := j) (by rw [r1]; exact idx32 hj.1 hj.2) (g := mkF m pc Ls (.int x :: .int j :: .ref a :: st)) rfl rfl (hb hby hd)
  exact OG.pre stp (g T' h' ⟨h0, e', _, Fr.snoc Y' N ge, Y'⟩ W (F.set W))
theorem OG.callS (X : OS B mL own nm rt Z n0 p l e R s m args below meth c T h cells slots) {y : MethodName} {index : Nat} {Bc : ByteArray} {mc : Nat} {rtc : Option FieldType} {rmc : Room} {asc : Array Value} {Qc : Option Value → Heap → Prop} (w1 : (Cond.methodLink own index y).before a0 Z = true) (w2 : (Cond.static y).before a0 Z = true) (hy : y.cls ≠ "java/lang/invoke/MethodHandle" ∧ y.cls ≠ "java/lang/invoke/VarHandle") (hM : OM l y Bc mc rtc rmc [] Z asc h n0 Qc) (wc : (Cond.code y Bc mc rtc).before a0 Z = true) (wz : (Cond.initialized y.cls).before a0 Z = true) (hfr : rmc.frames + 1 ≤ R.frames) {W : Nat} (hlo : W + (mc + 11) + rmc.locals ≤ R.locals) (hsz : Ls.size = mL) {argsL : List Value} {ps : List FieldType} {rr : Option FieldType} (hpd : parseMethodDescriptor y.desc = some ⟨ps, rr⟩) (hlen : argsL.length = ps.length) (hd : decode B pc = .ok (.invokestatic index, 3)) (has : argsL.toArray = asc) (hW : (st.map fun v => v.category).sum ≤ W) (hcl : cells + rmc.cells ≤ R.cells) (hsl : slots + rmc.slots ≤ R.slots) (g : ∀ v T' h', OS B mL own nm rt Z n0 p l e R s m args below meth c T' h' (cells + rmc.cells) (slots + rmc.slots) → Qc v h' → OG p e below s n0 rc rs Q (T'.setTop (mkF m (pc + 3) Ls (v.toList ++ st)))) : OG p e below s n0 rc rs Q (T.setTop (mkF m pc Ls (argsL.reverse ++ st))) := by
  obtain ⟨h0, eT, locs, N, Y⟩ := X
  have h0' := h0
  obtain ⟨hx, hby, hml, hown, hnm, -, -, hZ⟩ := h0'
  obtain ⟨_, _, ⟨T', L', k', n'⟩, -, Y', ⟨Lc, hQ, q2, q3, q4⟩, stp⟩ := Jvm.LawKit.callS Y hx (y := y) hown (mvT hZ w1) (mvT hZ w2) (mvT hZ wz) (mvT hZ wc) hy (backOf (W := W) (Z := Z) (h := h) (rm := rmc) (as' := asc) (Q := fun v hh L => Qc v hh ∧ Fr n0 L) hM hZ wc wz hfr hlo) (g := mkF m pc Ls (argsL.reverse ++ st)) rfl (by rw [hml]; exact hsz) (argsL := argsL) (rest := st) (lenOf hpd hlen) rfl (by show 2 * 0 + _ ≤ _; omega) (hb hby hd) (fun _ _ => ⟨has, eT, hcl, hsl⟩)
  dsimp only [Pt.U, Pt.locs, Pt.cells, Pt.slots] at Y' q2 q3 q4 stp hQ
  subst q2 q3 q4
  exact OG.pre stp (g _ T' _ ⟨h0, rfl, _, Fr.app N hQ.2, Y'⟩ hQ.1)

theorem OG.callC (X : OS B mL own nm rt Z n0 p l e R s m args below meth c T h cells slots) {y : MethodName} {index : Nat} {Bc : ByteArray} {mc : Nat} {rmc : Room} {asc : Array Value} {Qc : Option Value → Heap → Prop} (hy1 : y.name = "<init>") (w1 : (Cond.methodLink own index y).before a0 Z = true) (w2 : (Cond.instanceMethod y).before a0 Z = true) (hy : y.cls ≠ "java/lang/invoke/MethodHandle" ∧ y.cls ≠ "java/lang/invoke/VarHandle") {a : Addr} (hM : OM l y Bc mc none rmc [] Z asc h n0 Qc) (wc : (Cond.code y Bc mc none).before a0 Z = true) (wz : (Cond.initialized y.cls).before a0 Z = true) (hfr : rmc.frames + 1 ≤ R.frames) {W : Nat} (hlo : W + (mc + 11) + rmc.locals ≤ R.locals) (hsz : Ls.size = mL) {argsL : List Value} {ps : List FieldType} {rr : Option FieldType} (hpd : parseMethodDescriptor y.desc = some ⟨ps, rr⟩) (hlen : argsL.length = ps.length) (hd : decode B pc = .ok (.invokespecial index, 3)) (has : (Value.ref a :: argsL).toArray = asc) (hW : (st.map fun v => v.category).sum ≤ W) (hcl : cells + rmc.cells ≤ R.cells) (hsl : slots + rmc.slots ≤ R.slots) (g : ∀ v T' h', OS B mL own nm rt Z n0 p l e R s m args below meth c T' h' (cells + rmc.cells) (slots + rmc.slots) → Qc v h' → OG p e below s n0 rc rs Q (T'.setTop (mkF m (pc + 3) Ls (v.toList ++ st)))) : OG p e below s n0 rc rs Q (T.setTop (mkF m pc Ls (argsL.reverse ++ .ref a :: st))) := by
  obtain ⟨h0, eT, locs, N, Y⟩ := X
  have h0' := h0
  obtain ⟨hx, hby, hml, hown, hnm, -, -, hZ⟩ := h0'
  obtain ⟨_, _, ⟨T', L', k', n'⟩, -, Y', ⟨Lc, hQ, q2, q3, q4⟩, stp⟩ := Y.specialBack hx (y := y) hy1 hown (mvT hZ w1) (mvT hZ w2) (mvT hZ wc) hy (backOf (W := W) (Z := Z) (h := h) (rm := rmc) (as' := asc) (Q := fun v hh L => Qc v hh ∧ Fr n0 L) hM hZ wc wz hfr hlo) (g := mkF m pc Ls (argsL.reverse ++ .ref a :: st)) rfl (by rw [hml]; exact hsz) (Steps.refl _) (a := a) (argsL := argsL) (rest := st) (lenOf hpd hlen) rfl (by show 2 * 0 + _ ≤ _; omega) (hb hby hd) (fun _ _ => ⟨has, eT, hcl, hsl⟩)
  dsimp only [Pt.U, Pt.locs, Pt.cells, Pt.slots] at Y' q2 q3 q4 stp hQ
  subst q2 q3 q4
  exact OG.pre (fun _ k => stp.trans k) (g _ T' _ ⟨h0, rfl, _, Fr.app N hQ.2, Y'⟩ hQ.1)

theorem OG.callV (X : OS B mL own nm rt Z n0 p l e R s m args below meth c T h cells slots) {y : MethodName} {index : Nat} {Bc : ByteArray} {mc : Nat} {rtc : Option FieldType} {rmc : Room} {asc : Array Value} {Qc : Option Value → Heap → Prop} {z : MethodName} {C : String} (w1 : (Cond.methodLink own index y).before a0 Z = true) (w2 : (Cond.declares y).before a0 Z = true) (w3 : NotFace s y) (w4 : (Cond.selects C y z).before a0 Z = true) (w5 : (Cond.instanceMethod z).before a0 Z = true) (hy : y.cls ≠ "java/lang/invoke/MethodHandle" ∧ y.cls ≠ "java/lang/invoke/VarHandle") {a : Addr} (E : Exa Z h a C) (hM : OM l z Bc mc rtc rmc [] Z asc h n0 Qc) (wc : (Cond.code z Bc mc rtc).before a0 Z = true) (wz : (Cond.initialized z.cls).before a0 Z = true) (hfr : rmc.frames + 1 ≤ R.frames) {W : Nat} (hlo : W + (mc + 11) + rmc.locals ≤ R.locals) (hsz : Ls.size = mL) {argsL : List Value} {ps : List FieldType} {rr : Option FieldType} (hpd : parseMethodDescriptor y.desc = some ⟨ps, rr⟩) (hlen : argsL.length = ps.length) (hd : decode B pc = .ok (.invokevirtual index, 3)) (has : (Value.ref a :: argsL).toArray = asc) (hW : (st.map fun v => v.category).sum ≤ W) (hcl : cells + rmc.cells ≤ R.cells) (hsl : slots + rmc.slots ≤ R.slots) (g : ∀ v T' h', OS B mL own nm rt Z n0 p l e R s m args below meth c T' h' (cells + rmc.cells) (slots + rmc.slots) → Qc v h' → OG p e below s n0 rc rs Q (T'.setTop (mkF m (pc + 3) Ls (v.toList ++ st)))) : OG p e below s n0 rc rs Q (T.setTop (mkF m pc Ls (argsL.reverse ++ .ref a :: st))) := by
  obtain ⟨h0, eT, locs, N, Y⟩ := X
  have h0' := h0
  obtain ⟨hx, hby, hml, hown, hnm, -, -, hZ⟩ := h0'
  obtain ⟨cq, kq, qa, qb, qc⟩ := isOf hZ eT E
  obtain ⟨_, _, ⟨T', L', k', n'⟩, -, Y', ⟨Lc, hQ, q2, q3, q4⟩, stp⟩ := Y.virtualBack hx (y := y) (z := z) hown (mvT hZ w1) (mvT hZ w2) w3 (mvT hZ w4) (mvT hZ w5) hy (backOf (W := W) (Z := Z) (h := h) (rm := rmc) (as' := asc) (Q := fun v hh L => Qc v hh ∧ Fr n0 L) hM hZ wc wz hfr hlo) qa qc (g := mkF m pc Ls (argsL.reverse ++ .ref a :: st)) rfl (by rw [hml]; exact hsz) (Steps.refl _) (argsL := argsL) (rest := st) (lenOf hpd hlen) rfl (by show 2 * 0 + _ ≤ _; omega) (hb hby hd) (fun _ _ => ⟨has, eT, hcl, hsl⟩)
  dsimp only [Pt.U, Pt.locs, Pt.cells, Pt.slots] at Y' q2 q3 q4 stp hQ
  subst q2 q3 q4
  exact OG.pre (fun _ k => stp.trans k) (g _ T' _ ⟨h0, rfl, _, Fr.app N hQ.2, Y'⟩ hQ.1)

theorem OG.initO (X : OS B mL own nm rt Z n0 p l e R s m args below meth c T h cells slots) {index : Nat} (w1 : (Cond.methodLink own index Lib.objectInit).before a0 Z = true) (w2 : (Cond.instanceMethod Lib.objectInit).before a0 Z = true) (w3 : (Cond.code Lib.objectInit ⟨#[0xb1]⟩ 1 none).before a0 Z = true) {a : Addr} (hd : decode B pc = .ok (.invokespecial index, 3)) (hsz : Ls.size = mL) (hf : 1 ≤ R.frames) {W : Nat} (hW : (st.map fun v => v.category).sum ≤ W) (hlo : W + 12 ≤ R.locals) (g : ∀ T', OS B mL own nm rt Z n0 p l e R s m args below meth c T' h cells slots → OG p e below s n0 rc rs Q (T'.setTop (mkF m (pc + 3) Ls st))) : OG p e below s n0 rc rs Q (T.setTop (mkF m pc Ls (.ref a :: st))) := by
  obtain ⟨h0, eT, locs, N, Y⟩ := X
  have h0' := h0
  obtain ⟨hx, hby, hml, hown, hnm, -, -, hZ⟩ := h0'
  obtain ⟨T', Y', e', stp⟩ := RoadKit.initO Y hx hZ hown w1 w2 w3 eT (g := mkF m pc Ls (.ref a :: st)) rfl (by rw [hml]; exact hsz) rfl (hb hby hd) hf (W := W) (by show 2 * 0 + _ ≤ _; omega) hlo
  exact OG.pre stp (g T' ⟨h0, e', _, N, Y'⟩)
theorem Ia.toArv (F : Ia Z h a .int n f) {z : Int32} (hz : z.toInt = n) : ∃ k, Arv Z h a k .int z ((List.range n).map fun i => .int (f i)) (.int 0) := by
  obtain ⟨c, A, r1, r2, r3⟩ := F
  refine ⟨c.cls, c, A, rfl, ?_, ?_, ?_, ?_⟩
  · rw [r1]; simp only [Int32.toNatClampNeg]; omega
  · rw [Int32.lt_iff_toInt_lt]; have : (0 : Int32).toInt = 0 := rfl
    omega
  · intro i hi; rw [r1] at hi; rw [r3 i hi]; simp [List.getD_eq_getElem?_getD, hi]
  · intro i hi; rw [r1] at hi; simp [List.getD_eq_getElem?_getD, hi, fits]
theorem Ia.ofArv {k : ClassId} {z : Int32} {vs : List Value} (W : Arv Z h a k .int z vs (.int 0)) (hz : z.toInt = n) (H : ∀ i, i < n → vs.getD i (.int 0) = .int (f i)) : Ia Z h a .int n f := by
  obtain ⟨c, A, -, S, -, Hs, -⟩ := W
  have hs : c.slots.size = n := by rw [S]; simp only [Int32.toNatClampNeg]; omega
  exact ⟨c, A, hs, by have := z.toInt_lt; omega, fun i hi => by rw [Hs i (by rw [hs]; exact hi), H i hi]⟩
theorem OG.arraycopyI (X : OS B mL own nm rt Z n0 p l e R s m args below meth c T h cells slots) {index : Nat} (w1 : (Cond.methodLink own index Jvm.Stand.acN).before a0 Z = true) (w2 : (Cond.native Jvm.Stand.acN).before a0 Z = true) (w3 : (Cond.static Jvm.Stand.acN).before a0 Z = true) (w4 : (Cond.initialized "java/lang/System").before a0 Z = true) {a b : Addr} {n n' : Nat} {f f' : Nat → Int32} (F : Ia Z h a .int n f) (G : Ia Z h b .int n' f') {nn : Int32} {q : Nat} (hq : nn.toInt = q) (h1 : q ≤ n) (h2 : q ≤ n') (ge : n0 ≤ b) (hd : decode B pc = .ok (.invokestatic index, 3)) (hsz : Ls.size = mL) (hf : 1 ≤ R.frames) {W : Nat} (hW : (st.map fun v => v.category).sum ≤ W) (hlo : W + 18 ≤ R.locals) (g : ∀ T' h', OS B mL own nm rt Z n0 p l e R s m args below meth c T' h' cells slots → Keep h h' [b] → Ia Z h' b .int n' (fun i => if i < q then f i else f' i) → OG p e below s n0 rc rs Q (T'.setTop (mkF m (pc + 3) Ls st))) : OG p e below s n0 rc rs Q (T.setTop (mkF m pc Ls (.int nn :: .int 0 :: .ref b :: .int 0 :: .ref a :: st))) := by
  obtain ⟨h0, eT, locs, N, Y⟩ := X
  have h0' := h0
  obtain ⟨hx, hby, hml, hown, hnm, -, -, hZ⟩ := h0'
  have la := F.len
  have lb := G.len
  obtain ⟨ka, VA⟩ := F.toArv (z := n.toInt32) (len32 la)
  obtain ⟨kb, VB⟩ := G.toArv (z := n'.toInt32) (len32 lb)
  have e0 : (0 : Int32).toNatClampNeg = 0 := rfl
  have eq : nn.toNatClampNeg = q := by simp only [Int32.toNatClampNeg]; omega
  have ea : n.toInt32.toNatClampNeg = n := by simp only [Int32.toNatClampNeg, len32 la]; omega
  have eb : n'.toInt32.toNatClampNeg = n' := by simp only [Int32.toNatClampNeg, len32 lb]; omega
  have hnn : ¬ nn < 0 := by rw [Int32.lt_iff_toInt_lt]; have : (0 : Int32).toInt = 0 := rfl; omega
  obtain ⟨T', h', L, Y', e', N', K, V, stp⟩ := cpA Y hx hZ hown w1 w2 w3 w4 eT VA VB (Or.inl ⟨rfl, rfl⟩) (sp := 0) (dp := 0) (nn := nn) (by decide) (by decide) hnn (by rw [e0, eq, ea]; omega) (by rw [e0, eq, eb]; omega) rfl (by rw [e0, eq]; simp; omega) N ge (g := mkF m pc Ls (.int nn :: .int 0 :: .ref b :: .int 0 :: .ref a :: st)) rfl (by rw [hml]; exact hsz) rfl (hb hby hd) hf (W := W) (by show 2 * 0 + _ ≤ _; omega) (by exact hlo)
  refine OG.pre stp (g T' h' ⟨h0, e', L, N', Y'⟩ K (Ia.ofArv V (len32 lb) (fun i hi => ?_)))
  rw [e0, eq]
  by_cases hi2 : i < q
  · simp [List.getD_eq_getElem?_getD, List.getElem?_append, hi2, Nat.lt_of_lt_of_le hi2 h1]
  · simp [List.getD_eq_getElem?_getD, List.getElem?_append, hi2, hi, show q + (i - q) = i by omega]
end OwnKit
end Jvm.RoadKit

namespace Jvm.Pilot.@@N@@
open Jvm Jvm.ClassFile Sem Op Lib Jvm.Free Jvm.Stand Jvm.LawKit Jvm.RoadKit Bundle Jvm.Pilot.@@N@@.Jvm.D
theorem own_eqI {args : Array Value} {first s : State} {o : Option Outcome} {idx : List Nat} {t : Term} {k : Int32} (h : (Jvm.Cond.eq t (.int k)).value args first o s idx = some true) : t.eval args first o idx s = some (.int k) := by
  simp only [Cond.value, Term.eval] at h
  cases ht : t.eval args first o idx s with
  | none => simp [ht] at h
  | some v => cases v <;> simp [ht] at h ⊢; exact h
theorem pn_1 : plainName "com/example/skipstone/skipstone/index/PositionsEncoding" = true := by first | (simp [plainName, overriddenIn]; done) | decide +kernel
theorem ef_1 (m : MethodId) (n : Int32) (u : Addr) : entryFrame m #[(.int n), (.ref u)] 2 = mkF m 0 #[.val (.int n), .val (.ref u)] [] := by first | (simp [entryFrame, mkF, argsToLocals, Value.category]; done) | rfl
def Q1 (Z : State) (n : Int32) (u : Addr) (rA : Addr) (h0 : Heap) : Option Value → Heap → Prop := fun v h => v = some (.int (if u = rA then n else (n + 1) * (n + 1) - 1)) ∧ h = h0
theorem d1_0 : decode prog_113_method_13_code 0 = .ok (.aload_n 1, 1) := by decide +kernel
theorem d1_1 : decode prog_113_method_13_code 1 = .ok (.getstatic 19, 3) := by decide +kernel
theorem d1_4 : decode prog_113_method_13_code 4 = .ok (.if_acmp .ne 7, 3) := by decide +kernel
theorem d1_7 : decode prog_113_method_13_code 7 = .ok (.iload_n 0, 1) := by decide +kernel
theorem d1_8 : decode prog_113_method_13_code 8 = .ok (.goto 12, 3) := by decide +kernel
theorem d1_20 : decode prog_113_method_13_code 20 = .ok (.ireturn, 1) := by decide +kernel
theorem d1_11 : decode prog_113_method_13_code 11 = .ok (.iload_n 0, 1) := by decide +kernel
theorem d1_12 : decode prog_113_method_13_code 12 = .ok (.iconst 1, 1) := by decide +kernel
theorem d1_13 : decode prog_113_method_13_code 13 = .ok (.iadd, 1) := by decide +kernel
theorem d1_14 : decode prog_113_method_13_code 14 = .ok (.iload_n 0, 1) := by decide +kernel
theorem d1_15 : decode prog_113_method_13_code 15 = .ok (.iconst 1, 1) := by decide +kernel
theorem d1_16 : decode prog_113_method_13_code 16 = .ok (.iadd, 1) := by decide +kernel
theorem d1_17 : decode prog_113_method_13_code 17 = .ok (.imul, 1) := by decide +kernel
theorem d1_18 : decode prog_113_method_13_code 18 = .ok (.iconst 1, 1) := by decide +kernel
theorem d1_19 : decode prog_113_method_13_code 19 = .ok (.isub, 1) := by decide +kernel
abbrev room1 : Room := { frames := 0, cells := 0, slots := 0, locals := 0 }
set_option maxRecDepth 65536 in
set_option maxHeartbeats 40000000 in
theorem rm1 (l : Launch) (Z : State) (a0 : Array Value) (hw : ∀ d ∈ tables_1, d.before a0 Z = true) (ws : List Jvm.Cond) (n : Int32) (u : Addr) (rA : Addr) (h0 : Heap) (n0 : Nat) (S_AFTER : Sta Z h0 "com/example/skipstone/skipstone/index/NextWordSides" "AFTER" "Lcom/example/skipstone/skipstone/index/NextWordSides;" (.ref rA)) :
    OM l (⟨"com/example/skipstone/skipstone/index/PositionsEncoding", "kinds", "(ILcom/example/skipstone/skipstone/index/NextWordSides;)I"⟩ : MethodName) prog_113_method_13_code 2 (some .int) room1 ws Z #[(.int n), (.ref u)] h0 n0 (Q1 Z n u rA h0) := by
  refine OM.of (plainFor_of_name pn_1) (fun m => ef_1 m n u) ?_
  intro p e s m below meth c T X
  refine OG.aloadN X d1_0 rfl rfl ?_
  refine OG.getS X (host := "") (Or.inl (hw _ (List.mem_of_getElem? (i := 7) rfl))) Via.refl S_AFTER d1_1 ?_
  intro T1 X1
  refine OG.acmp_ne X1 d1_4 (pc' := 11) (by decide) ?_ ?_
  · intro c4
    refine OG.iloadN X1 d1_7 rfl ?_
    refine OG.goto X1 d1_8 (pc' := 20) (by decide) ?_
    exact OG.retI X1 d1_20 (by decide) (by decide) ⟨by rw [if_pos c4], rfl⟩
  · intro c4
    refine OG.iloadN X1 d1_11 rfl ?_
    refine OG.iconst X1 d1_12 (z := (1 : Int32)) rfl ?_
    refine OG.iadd X1 d1_13 ?_
    refine OG.iloadN X1 d1_14 rfl ?_
    refine OG.iconst X1 d1_15 (z := (1 : Int32)) rfl ?_
    refine OG.iadd X1 d1_16 ?_
    refine OG.imul X1 d1_17 ?_
    refine OG.iconst X1 d1_18 (z := (1 : Int32)) rfl ?_
    refine OG.isub X1 d1_19 ?_
    exact OG.retI X1 d1_20 (by decide) (by decide) ⟨by rw [if_neg c4], rfl⟩
def kb (pv nx n kd : Int32) : Nat → Int32 → Int32 → Int32
  | 0, u, _ => u
  | k + 1, u, i => if i < kd then
      (if nx = 0 then (if pv = 0 then kb pv nx n kd k (u ||| (1 <<< (i &&& 31))) (i + 1) else if (i + 1) / (n + 1) = pv then kb pv nx n kd k (u ||| (1 <<< (i &&& 31))) (i + 1) else kb pv nx n kd k u (i + 1))
       else if (i + 1) % (n + 1) = nx then (if pv = 0 then kb pv nx n kd k (u ||| (1 <<< (i &&& 31))) (i + 1) else if (i + 1) / (n + 1) = pv then kb pv nx n kd k (u ||| (1 <<< (i &&& 31))) (i + 1) else kb pv nx n kd k u (i + 1))
       else kb pv nx n kd k u (i + 1)) else u
theorem own_suc {i kd : Int32} (h0 : 0 ≤ i.toInt) (h : i < kd) (hk : kd.toInt ≤ 15) : (i + 1).toInt = i.toInt + 1 ∧ i.toInt < kd.toInt := by
  rw [Int32.lt_iff_toInt_lt] at h
  have h1 := c_iadd i 1
  have h2 := rng32 (i + 1)
  have h3 : (1 : Int32).toInt = 1 := rfl
  omega
theorem pn_2 : plainName "com/example/skipstone/skipstone/index/PositionsEncoding" = true := by first | (simp [plainName, overriddenIn]; done) | decide +kernel
theorem ef_2 (m : MethodId) (pv : Int32) (nx : Int32) (n : Int32) (kd : Int32) : entryFrame m #[(.int pv), (.int nx), (.int n), (.int kd)] 7 = mkF m 0 #[.val (.int pv), .val (.int nx), .val (.int n), .val (.int kd), .unset, .unset, .unset] [] := by first | (simp [entryFrame, mkF, argsToLocals, Value.category]; done) | rfl
def Q2 (Z : State) (pv : Int32) (nx : Int32) (n : Int32) (kd : Int32)  (h0 : Heap) : Option Value → Heap → Prop := fun v h => v = some (.int (kb pv nx n kd 16 0 0)) ∧ h = h0
theorem d2_0 : decode prog_113_method_15_code 0 = .ok (.iconst 0, 1) := by decide +kernel
theorem d2_1 : decode prog_113_method_15_code 1 = .ok (.istore 4, 2) := by decide +kernel
theorem d2_3 : decode prog_113_method_15_code 3 = .ok (.iconst 0, 1) := by decide +kernel
theorem d2_4 : decode prog_113_method_15_code 4 = .ok (.istore 5, 2) := by decide +kernel
theorem d2_6 : decode prog_113_method_15_code 6 = .ok (.iload 5, 2) := by decide +kernel
theorem d2_8 : decode prog_113_method_15_code 8 = .ok (.iload_n 3, 1) := by decide +kernel
theorem d2_9 : decode prog_113_method_15_code 9 = .ok (.if_icmp .ge 52, 3) := by decide +kernel
theorem d2_61 : decode prog_113_method_15_code 61 = .ok (.iload 4, 2) := by decide +kernel
theorem d2_63 : decode prog_113_method_15_code 63 = .ok (.ireturn, 1) := by decide +kernel
theorem d2_12 : decode prog_113_method_15_code 12 = .ok (.iload 5, 2) := by decide +kernel
theorem d2_14 : decode prog_113_method_15_code 14 = .ok (.iconst 1, 1) := by decide +kernel
theorem d2_15 : decode prog_113_method_15_code 15 = .ok (.iadd, 1) := by decide +kernel
theorem d2_16 : decode prog_113_method_15_code 16 = .ok (.istore 6, 2) := by decide +kernel
theorem d2_18 : decode prog_113_method_15_code 18 = .ok (.iload_n 1, 1) := by decide +kernel
theorem d2_19 : decode prog_113_method_15_code 19 = .ok (.ifCond .eq 13, 3) := by decide +kernel
theorem d2_32 : decode prog_113_method_15_code 32 = .ok (.iload_n 0, 1) := by decide +kernel
theorem d2_33 : decode prog_113_method_15_code 33 = .ok (.ifCond .eq 13, 3) := by decide +kernel
theorem d2_46 : decode prog_113_method_15_code 46 = .ok (.iload 4, 2) := by decide +kernel
theorem d2_48 : decode prog_113_method_15_code 48 = .ok (.iconst 1, 1) := by decide +kernel
theorem d2_49 : decode prog_113_method_15_code 49 = .ok (.iload 5, 2) := by decide +kernel
theorem d2_51 : decode prog_113_method_15_code 51 = .ok (.ishl, 1) := by decide +kernel
theorem d2_52 : decode prog_113_method_15_code 52 = .ok (.ior, 1) := by decide +kernel
theorem d2_53 : decode prog_113_method_15_code 53 = .ok (.istore 4, 2) := by decide +kernel
theorem d2_55 : decode prog_113_method_15_code 55 = .ok (.iinc 5 1, 3) := by decide +kernel
theorem d2_58 : decode prog_113_method_15_code 58 = .ok (.goto (-52), 3) := by decide +kernel
theorem d2_36 : decode prog_113_method_15_code 36 = .ok (.iload 6, 2) := by decide +kernel
theorem d2_38 : decode prog_113_method_15_code 38 = .ok (.iload_n 2, 1) := by decide +kernel
theorem d2_39 : decode prog_113_method_15_code 39 = .ok (.iconst 1, 1) := by decide +kernel
theorem d2_40 : decode prog_113_method_15_code 40 = .ok (.iadd, 1) := by decide +kernel
theorem d2_41 : decode prog_113_method_15_code 41 = .ok (.idiv, 1) := by decide +kernel
theorem d2_42 : decode prog_113_method_15_code 42 = .ok (.iload_n 0, 1) := by decide +kernel
theorem d2_43 : decode prog_113_method_15_code 43 = .ok (.if_icmp .ne 12, 3) := by decide +kernel
theorem d2_22 : decode prog_113_method_15_code 22 = .ok (.iload 6, 2) := by decide +kernel
theorem d2_24 : decode prog_113_method_15_code 24 = .ok (.iload_n 2, 1) := by decide +kernel
theorem d2_25 : decode prog_113_method_15_code 25 = .ok (.iconst 1, 1) := by decide +kernel
theorem d2_26 : decode prog_113_method_15_code 26 = .ok (.iadd, 1) := by decide +kernel
theorem d2_27 : decode prog_113_method_15_code 27 = .ok (.irem, 1) := by decide +kernel
theorem d2_28 : decode prog_113_method_15_code 28 = .ok (.iload_n 1, 1) := by decide +kernel
theorem d2_29 : decode prog_113_method_15_code 29 = .ok (.if_icmp .ne 26, 3) := by decide +kernel
abbrev room2 : Room := { frames := 0, cells := 0, slots := 0, locals := 0 }
set_option maxRecDepth 65536 in
set_option maxHeartbeats 40000000 in
theorem rm2 (l : Launch) (Z : State) (a0 : Array Value) (hw : ∀ d ∈ tables_1, d.before a0 Z = true) (ws : List Jvm.Cond) (pv : Int32) (nx : Int32) (n : Int32) (kd : Int32)  (h0 : Heap) (n0 : Nat) (hk15 : kd.toInt ≤ 15) (hn1 : n + 1 ≠ 0) :
    OM l (⟨"com/example/skipstone/skipstone/index/PositionsEncoding", "kindsBeside", "(IIII)I"⟩ : MethodName) prog_113_method_15_code 7 (some .int) room2 ws Z #[(.int pv), (.int nx), (.int n), (.int kd)] h0 n0 (Q2 Z pv nx n kd  h0) := by
  refine OM.of (plainFor_of_name pn_2) (fun m => ef_2 m pv nx n kd) ?_
  intro p e s m below meth c T X
  refine OG.iconst X d2_0 (z := (0 : Int32)) rfl ?_
  refine OG.istore X d2_1 (l' := #[.val (.int pv), .val (.int nx), .val (.int n), .val (.int kd), .val (.int (0 : Int32)), .unset, .unset]) rfl ?_
  refine OG.iconst X d2_3 (z := (0 : Int32)) rfl ?_
  refine OG.istore X d2_4 (l' := #[.val (.int pv), .val (.int nx), .val (.int n), .val (.int kd), .val (.int (0 : Int32)), .val (.int (0 : Int32)), .unset]) rfl ?_
  have loop1 : ∀ (k : Nat) (Tloop1 : State) (u : Int32) (i : Int32) (sl6 : Slot), OS prog_113_method_15_code 7 "com/example/skipstone/skipstone/index/PositionsEncoding" "kindsBeside" (some .int) Z n0 p l e room2 s m #[(.int pv), (.int nx), (.int n), (.int kd)] below meth c Tloop1 h0 0 0 → (kd.toInt - i.toInt).toNat < k → (sl6 = .unset ∨ ∃ w : Value, sl6 = .val w ∧ w.category = 1) → 0 ≤ i.toInt → kb pv nx n kd k u i = kb pv nx n kd 16 0 0 → OG p e below s n0 room2.cells room2.slots (Q2 Z pv nx n kd  h0) (Tloop1.setTop (mkF m 6 #[.val (.int pv), .val (.int nx), .val (.int n), .val (.int kd), .val (.int u), .val (.int i), sl6] [])) := by
    intro k
    induction k with
    | zero => intro Tloop1 u i sl6 Xloop1 hk; exact absurd hk (Nat.not_lt_zero _)
    | succ k ih =>
      intro Tloop1 u i sl6 Xloop1 hk hsl6 hi hv
      refine OG.iload Xloop1 d2_6 rfl ?_
      refine OG.iloadN Xloop1 d2_8 rfl ?_
      refine OG.icmp_ge Xloop1 d2_9 (pc' := 61) (by decide) ?_ ?_
      · intro c9
        refine OG.iload Xloop1 d2_61 rfl ?_
        exact OG.retI Xloop1 d2_63 (by decide) (by decide) ⟨by rw [← hv, kb, if_neg c9], rfl⟩
      · intro c9
        refine OG.iload Xloop1 d2_12 rfl ?_
        refine OG.iconst Xloop1 d2_14 (z := (1 : Int32)) rfl ?_
        refine OG.iadd Xloop1 d2_15 ?_
        refine OG.istore Xloop1 d2_16 (l' := #[.val (.int pv), .val (.int nx), .val (.int n), .val (.int kd), .val (.int u), .val (.int i), .val (.int (i + (1 : Int32)))]) (XS.store1 (o := sl6) rfl hsl6 rfl) ?_
        refine OG.iloadN Xloop1 d2_18 rfl ?_
        refine OG.if_eq Xloop1 d2_19 (pc' := 32) (by decide) ?_ ?_
        · intro c19
          refine OG.iloadN Xloop1 d2_32 rfl ?_
          refine OG.if_eq Xloop1 d2_33 (pc' := 46) (by decide) ?_ ?_
          · intro c33
            refine OG.iload Xloop1 d2_46 rfl ?_
            refine OG.iconst Xloop1 d2_48 (z := (1 : Int32)) rfl ?_
            refine OG.iload Xloop1 d2_49 rfl ?_
            refine OG.ishl Xloop1 d2_51 ?_
            refine OG.ior Xloop1 d2_52 ?_
            refine OG.istore Xloop1 d2_53 (l' := #[.val (.int pv), .val (.int nx), .val (.int n), .val (.int kd), .val (.int (u ||| ((1 : Int32) <<< (i &&& 31)))), .val (.int i), .val (.int (i + (1 : Int32)))]) rfl ?_
            refine OG.iinc Xloop1 d2_55 rfl (z := (1 : Int32)) rfl (l' := #[.val (.int pv), .val (.int nx), .val (.int n), .val (.int kd), .val (.int (u ||| ((1 : Int32) <<< (i &&& 31)))), .val (.int (i + (1 : Int32))), .val (.int (i + (1 : Int32)))]) rfl ?_
            refine OG.goto Xloop1 d2_58 (pc' := 6) (by decide) ?_
            exact ih Tloop1 (u ||| ((1 : Int32) <<< (i &&& 31))) (i + (1 : Int32)) (.val (.int (i + (1 : Int32)))) Xloop1 (by have := own_suc hi c9 hk15; omega) (Or.inr ⟨_, rfl, rfl⟩) (by have := own_suc hi c9 hk15; omega) (by rw [← hv, kb, if_pos c9, if_pos c19, if_pos c33])
          · intro c33
            refine OG.iload Xloop1 d2_36 rfl ?_
            refine OG.iloadN Xloop1 d2_38 rfl ?_
            refine OG.iconst Xloop1 d2_39 (z := (1 : Int32)) rfl ?_
            refine OG.iadd Xloop1 d2_40 ?_
            refine OG.idiv Xloop1 d2_41 hn1 ?_
            refine OG.iloadN Xloop1 d2_42 rfl ?_
            refine OG.icmp_ne Xloop1 d2_43 (pc' := 55) (by decide) ?_ ?_
            · intro c43
              refine OG.iinc Xloop1 d2_55 rfl (z := (1 : Int32)) rfl (l' := #[.val (.int pv), .val (.int nx), .val (.int n), .val (.int kd), .val (.int u), .val (.int (i + (1 : Int32))), .val (.int (i + (1 : Int32)))]) rfl ?_
              refine OG.goto Xloop1 d2_58 (pc' := 6) (by decide) ?_
              exact ih Tloop1 u (i + (1 : Int32)) (.val (.int (i + (1 : Int32)))) Xloop1 (by have := own_suc hi c9 hk15; omega) (Or.inr ⟨_, rfl, rfl⟩) (by have := own_suc hi c9 hk15; omega) (by rw [← hv, kb, if_pos c9, if_pos c19, if_neg c33, if_neg c43])
            · intro c43
              refine OG.iload Xloop1 d2_46 rfl ?_
              refine OG.iconst Xloop1 d2_48 (z := (1 : Int32)) rfl ?_
              refine OG.iload Xloop1 d2_49 rfl ?_
              refine OG.ishl Xloop1 d2_51 ?_
              refine OG.ior Xloop1 d2_52 ?_
              refine OG.istore Xloop1 d2_53 (l' := #[.val (.int pv), .val (.int nx), .val (.int n), .val (.int kd), .val (.int (u ||| ((1 : Int32) <<< (i &&& 31)))), .val (.int i), .val (.int (i + (1 : Int32)))]) rfl ?_
              refine OG.iinc Xloop1 d2_55 rfl (z := (1 : Int32)) rfl (l' := #[.val (.int pv), .val (.int nx), .val (.int n), .val (.int kd), .val (.int (u ||| ((1 : Int32) <<< (i &&& 31)))), .val (.int (i + (1 : Int32))), .val (.int (i + (1 : Int32)))]) rfl ?_
              refine OG.goto Xloop1 d2_58 (pc' := 6) (by decide) ?_
              exact ih Tloop1 (u ||| ((1 : Int32) <<< (i &&& 31))) (i + (1 : Int32)) (.val (.int (i + (1 : Int32)))) Xloop1 (by have := own_suc hi c9 hk15; omega) (Or.inr ⟨_, rfl, rfl⟩) (by have := own_suc hi c9 hk15; omega) (by rw [← hv, kb, if_pos c9, if_pos c19, if_neg c33, if_pos c43])
        · intro c19
          refine OG.iload Xloop1 d2_22 rfl ?_
          refine OG.iloadN Xloop1 d2_24 rfl ?_
          refine OG.iconst Xloop1 d2_25 (z := (1 : Int32)) rfl ?_
          refine OG.iadd Xloop1 d2_26 ?_
          refine OG.irem Xloop1 d2_27 hn1 ?_
          refine OG.iloadN Xloop1 d2_28 rfl ?_
          refine OG.icmp_ne Xloop1 d2_29 (pc' := 55) (by decide) ?_ ?_
          · intro c29
            refine OG.iinc Xloop1 d2_55 rfl (z := (1 : Int32)) rfl (l' := #[.val (.int pv), .val (.int nx), .val (.int n), .val (.int kd), .val (.int u), .val (.int (i + (1 : Int32))), .val (.int (i + (1 : Int32)))]) rfl ?_
            refine OG.goto Xloop1 d2_58 (pc' := 6) (by decide) ?_
            exact ih Tloop1 u (i + (1 : Int32)) (.val (.int (i + (1 : Int32)))) Xloop1 (by have := own_suc hi c9 hk15; omega) (Or.inr ⟨_, rfl, rfl⟩) (by have := own_suc hi c9 hk15; omega) (by rw [← hv, kb, if_pos c9, if_neg c19, if_neg c29])
          · intro c29
            refine OG.iloadN Xloop1 d2_32 rfl ?_
            refine OG.if_eq Xloop1 d2_33 (pc' := 46) (by decide) ?_ ?_
            · intro c33
              refine OG.iload Xloop1 d2_46 rfl ?_
              refine OG.iconst Xloop1 d2_48 (z := (1 : Int32)) rfl ?_
              refine OG.iload Xloop1 d2_49 rfl ?_
              refine OG.ishl Xloop1 d2_51 ?_
              refine OG.ior Xloop1 d2_52 ?_
              refine OG.istore Xloop1 d2_53 (l' := #[.val (.int pv), .val (.int nx), .val (.int n), .val (.int kd), .val (.int (u ||| ((1 : Int32) <<< (i &&& 31)))), .val (.int i), .val (.int (i + (1 : Int32)))]) rfl ?_
              refine OG.iinc Xloop1 d2_55 rfl (z := (1 : Int32)) rfl (l' := #[.val (.int pv), .val (.int nx), .val (.int n), .val (.int kd), .val (.int (u ||| ((1 : Int32) <<< (i &&& 31)))), .val (.int (i + (1 : Int32))), .val (.int (i + (1 : Int32)))]) rfl ?_
              refine OG.goto Xloop1 d2_58 (pc' := 6) (by decide) ?_
              exact ih Tloop1 (u ||| ((1 : Int32) <<< (i &&& 31))) (i + (1 : Int32)) (.val (.int (i + (1 : Int32)))) Xloop1 (by have := own_suc hi c9 hk15; omega) (Or.inr ⟨_, rfl, rfl⟩) (by have := own_suc hi c9 hk15; omega) (by rw [← hv, kb, if_pos c9, if_neg c19, if_pos c29, if_pos c33])
            · intro c33
              refine OG.iload Xloop1 d2_36 rfl ?_
              refine OG.iloadN Xloop1 d2_38 rfl ?_
              refine OG.iconst Xloop1 d2_39 (z := (1 : Int32)) rfl ?_
              refine OG.iadd Xloop1 d2_40 ?_
              refine OG.idiv Xloop1 d2_41 hn1 ?_
              refine OG.iloadN Xloop1 d2_42 rfl ?_
              refine OG.icmp_ne Xloop1 d2_43 (pc' := 55) (by decide) ?_ ?_
              · intro c43
                refine OG.iinc Xloop1 d2_55 rfl (z := (1 : Int32)) rfl (l' := #[.val (.int pv), .val (.int nx), .val (.int n), .val (.int kd), .val (.int u), .val (.int (i + (1 : Int32))), .val (.int (i + (1 : Int32)))]) rfl ?_
                refine OG.goto Xloop1 d2_58 (pc' := 6) (by decide) ?_
                exact ih Tloop1 u (i + (1 : Int32)) (.val (.int (i + (1 : Int32)))) Xloop1 (by have := own_suc hi c9 hk15; omega) (Or.inr ⟨_, rfl, rfl⟩) (by have := own_suc hi c9 hk15; omega) (by rw [← hv, kb, if_pos c9, if_neg c19, if_pos c29, if_neg c33, if_neg c43])
              · intro c43
                refine OG.iload Xloop1 d2_46 rfl ?_
                refine OG.iconst Xloop1 d2_48 (z := (1 : Int32)) rfl ?_
                refine OG.iload Xloop1 d2_49 rfl ?_
                refine OG.ishl Xloop1 d2_51 ?_
                refine OG.ior Xloop1 d2_52 ?_
                refine OG.istore Xloop1 d2_53 (l' := #[.val (.int pv), .val (.int nx), .val (.int n), .val (.int kd), .val (.int (u ||| ((1 : Int32) <<< (i &&& 31)))), .val (.int i), .val (.int (i + (1 : Int32)))]) rfl ?_
                refine OG.iinc Xloop1 d2_55 rfl (z := (1 : Int32)) rfl (l' := #[.val (.int pv), .val (.int nx), .val (.int n), .val (.int kd), .val (.int (u ||| ((1 : Int32) <<< (i &&& 31)))), .val (.int (i + (1 : Int32))), .val (.int (i + (1 : Int32)))]) rfl ?_
                refine OG.goto Xloop1 d2_58 (pc' := 6) (by decide) ?_
                exact ih Tloop1 (u ||| ((1 : Int32) <<< (i &&& 31))) (i + (1 : Int32)) (.val (.int (i + (1 : Int32)))) Xloop1 (by have := own_suc hi c9 hk15; omega) (Or.inr ⟨_, rfl, rfl⟩) (by have := own_suc hi c9 hk15; omega) (by rw [← hv, kb, if_pos c9, if_neg c19, if_pos c29, if_neg c33, if_pos c43])
  exact loop1 16 T (0 : Int32) (0 : Int32) (.unset) X (by have e : (0 : Int32).toInt = 0 := rfl; omega) (Or.inl rfl) (by decide) rfl
def kdOf (a : Bool) (n : Int32) : Int32 := if a then n else (n + 1) * (n + 1) - 1
def okA (a : Bool) (n nx pv : Nat) : Bool := ((kb (Int32.ofNat pv) (Int32.ofNat nx) (Int32.ofNat n) (kdOf a (Int32.ofNat n)) 16 0 0).toUInt32 >>> (kdOf a (Int32.ofNat n) &&& 31).toUInt32).toInt32 == 0
def exOf (nx pv fw pw : Int32) : Int32 := if nx = 0 then (if pv = 0 then 1 else if pw = pv then 1 else 0) else if fw = nx then (if pv = 0 then 1 else if pw = pv then 1 else 0) else 0
def okB (a : Bool) (n nx pv fw pw : Nat) : Bool := decide (Int32.ofNat pw * (Int32.ofNat n + 1) + Int32.ofNat fw - 1 < kdOf a (Int32.ofNat n) → (fw ≠ 0 ∨ pw ≠ 0) → (if ((((kb (Int32.ofNat pv) (Int32.ofNat nx) (Int32.ofNat n) (kdOf a (Int32.ofNat n)) 16 0 0).toUInt32 >>> ((Int32.ofNat pw * (Int32.ofNat n + 1) + Int32.ofNat fw - 1) &&& 31).toUInt32).toInt32) &&& 1) = 0 then (0 : Int32) else 1) = exOf (Int32.ofNat nx) (Int32.ofNat pv) (Int32.ofNat fw) (Int32.ofNat pw))
set_option maxRecDepth 100000 in
theorem keyA : ∀ a : Bool, ∀ n nx pv : Fin 4, nx.val ≤ n.val → pv.val ≤ n.val → okA a n.val nx.val pv.val = true := by decide +kernel
set_option maxRecDepth 100000 in
theorem keyB : ∀ a : Bool, ∀ n nx pv fw pw : Fin 4, nx.val ≤ n.val → pv.val ≤ n.val → fw.val ≤ n.val → pw.val ≤ n.val → (a = true → pw.val = 0) → okB a n.val nx.val pv.val fw.val pw.val = true := by decide +kernel
theorem own_of {u : Int32} (h : 0 ≤ u.toInt) (h2 : u.toInt ≤ 3) : Int32.ofNat u.toInt.toNat = u := by
  rw [← Int32.toInt_inj, Int32.toInt_ofNat_of_lt (by omega)]; omega
theorem own_n {n q : Int32} (h : n = q &&& 3) : 0 ≤ n.toInt ∧ n.toInt ≤ 3 := by
  have h1 := c_and q 3 (by decide)
  rw [← h] at h1; exact h1
theorem own_n1' {n : Int32} (h : 0 ≤ n.toInt ∧ n.toInt ≤ 3) : (n + 1).toInt = n.toInt + 1 := by
  have h1 := c_iadd n 1
  have h2 := rng32 (n + 1)
  have h3 : (1 : Int32).toInt = 1 := rfl
  omega
theorem own_n1 {n : Int32} (h : 0 ≤ n.toInt ∧ n.toInt ≤ 3) : n + 1 ≠ 0 := fun e => by
  have h1 := own_n1' h
  rw [e] at h1
  have h3 : (0 : Int32).toInt = 0 := rfl
  omega
theorem own_rem {n u q : Int32} (h : 0 ≤ n.toInt ∧ n.toInt ≤ 3) (hu : u = (q &&& 2147483647) % (n + 1)) : 0 ≤ u.toInt ∧ u.toInt ≤ n.toInt := by
  have h1 := c_and q 2147483647 (by decide)
  have h2 := c_iremV (q &&& 2147483647) (n + 1)
  have h3 := own_n1' h
  rw [← hu] at h2
  have := h2.1 h1.1 (by omega)
  omega
theorem own_kd {a : Bool} {n : Int32} (h : 0 ≤ n.toInt ∧ n.toInt ≤ 3) : (kdOf a n).toInt ≤ 15 := by
  have key : ∀ a : Bool, ∀ n : Fin 4, (kdOf a (Int32.ofNat n.val)).toInt ≤ 15 := by decide +kernel
  have := key a ⟨n.toInt.toNat, by omega⟩
  rw [own_of h.1 h.2] at this; exact this
theorem own_A (a : Bool) {n nx pv kd r : Int32} (hn : 0 ≤ n.toInt ∧ n.toInt ≤ 3) (hx : 0 ≤ nx.toInt ∧ nx.toInt ≤ n.toInt) (hp : 0 ≤ pv.toInt ∧ pv.toInt ≤ n.toInt) (hkd : kd = kdOf a n) (hr : r = kb pv nx n kd 16 0 0) : (r.toUInt32 >>> (kd &&& 31).toUInt32).toInt32 = 0 := by
  have k := keyA a ⟨n.toInt.toNat, by omega⟩ ⟨nx.toInt.toNat, by omega⟩ ⟨pv.toInt.toNat, by omega⟩ (by show nx.toInt.toNat ≤ n.toInt.toNat; omega) (by show pv.toInt.toNat ≤ n.toInt.toNat; omega)
  have k2 := beq_iff_eq.mp k
  dsimp only at k2
  rw [own_of hn.1 hn.2, own_of hx.1 (by omega), own_of hp.1 (by omega), ← hkd, ← hr] at k2
  exact k2
theorem own_B (a : Bool) {n nx pv fw pw kd r kk got ex : Int32} (hn : 0 ≤ n.toInt ∧ n.toInt ≤ 3) (hx : 0 ≤ nx.toInt ∧ nx.toInt ≤ n.toInt) (hp : 0 ≤ pv.toInt ∧ pv.toInt ≤ n.toInt) (hf : 0 ≤ fw.toInt ∧ fw.toInt ≤ n.toInt) (hq : 0 ≤ pw.toInt ∧ pw.toInt ≤ n.toInt) (hapw : a = true → pw = 0) (hkd : kd = kdOf a n) (hr : r = kb pv nx n kd 16 0 0) (hk : kk = pw * (n + 1) + fw - 1) (hlt : kk < kd) (hz : ¬ fw = 0 ∨ ¬ pw = 0) (hg : got = if ((r.toUInt32 >>> (kk &&& 31).toUInt32).toInt32 &&& 1) = 0 then 0 else 1) (he : ex = exOf nx pv fw pw) : got = ex := by
  have k := keyB a ⟨n.toInt.toNat, by omega⟩ ⟨nx.toInt.toNat, by omega⟩ ⟨pv.toInt.toNat, by omega⟩ ⟨fw.toInt.toNat, by omega⟩ ⟨pw.toInt.toNat, by omega⟩ (by show nx.toInt.toNat ≤ n.toInt.toNat; omega) (by show pv.toInt.toNat ≤ n.toInt.toNat; omega) (by show fw.toInt.toNat ≤ n.toInt.toNat; omega) (by show pw.toInt.toNat ≤ n.toInt.toNat; omega) (fun e => by show pw.toInt.toNat = 0; rw [hapw e]; rfl)
  have k2 := of_decide_eq_true k
  dsimp only at k2
  have z : ∀ {u : Int32}, ¬ u = 0 → 0 ≤ u.toInt → u.toInt.toNat ≠ 0 := fun {u} h1 h2 h3 => h1 (by rw [← Int32.toInt_inj]; have : (0 : Int32).toInt = 0 := rfl; omega)
  rw [own_of hn.1 hn.2, own_of hx.1 (by omega), own_of hp.1 (by omega), own_of hf.1 (by omega), own_of hq.1 (by omega), ← hkd, ← hr, ← hk] at k2
  rw [hg, he]
  exact k2 hlt (hz.imp (fun h => z h hf.1) (fun h => z h hq.1))
theorem pn_0 : plainName "com/example/skipstone/skipstone/index/PositionsEncodingKindsBesidePinLaw" = true := by first | (simp [plainName, overriddenIn]; done) | decide +kernel
theorem ef_0 (m : MethodId) (i0 : Int32) (i1 : Int32) (i2 : Int32) (i3 : Int32) (i4 : Int32) : entryFrame m #[(.int i0), (.int i1), (.int i2), (.int i3), (.int i4)] maxLocals = mkF m 0 #[.val (.int i0), .val (.int i1), .val (.int i2), .val (.int i3), .val (.int i4), .unset, .unset, .unset, .unset, .unset, .unset, .unset, .unset, .unset, .unset, .unset, .unset, .unset] [] := by first | (simp [entryFrame, mkF, argsToLocals, Value.category, maxLocals]; done) | rfl
def Q0 (Z : State) (i0 : Int32) (i1 : Int32) (i2 : Int32) (i3 : Int32) (i4 : Int32) (rA rB : Addr) (h0 : Heap) : Option Value → Heap → Prop := fun v h => v = some (.int 1)
theorem pd_0 : parseMethodDescriptor "(ILcom/example/skipstone/skipstone/index/NextWordSides;)I" = some ⟨[.int, (.object "com/example/skipstone/skipstone/index/NextWordSides")], some .int⟩ := by decide +kernel
theorem pd_1 : parseMethodDescriptor "(IIII)I" = some ⟨[.int, .int, .int, .int], some .int⟩ := by decide +kernel
set_option maxRecDepth 65536 in
set_option maxHeartbeats 40000000 in
theorem rm0 (l : Launch) (Z : State) (a0 : Array Value) (hw : ∀ d ∈ tables_1, d.before a0 Z = true) (ws : List Jvm.Cond) (i0 : Int32) (i1 : Int32) (i2 : Int32) (i3 : Int32) (i4 : Int32) (rA rB : Addr) (h0 : Heap) (n0 : Nat) (Z0 : n0 ≤ h0.size) (S_AFTER : Sta Z h0 "com/example/skipstone/skipstone/index/NextWordSides" "AFTER" "Lcom/example/skipstone/skipstone/index/NextWordSides;" (.ref rA)) (S_BEFORE : Sta Z h0 "com/example/skipstone/skipstone/index/NextWordSides" "BEFORE_AND_AFTER" "Lcom/example/skipstone/skipstone/index/NextWordSides;" (.ref rB)) (hne : ¬ rB = rA) :
    OM l x code maxLocals ret room_1 ws Z #[(.int i0), (.int i1), (.int i2), (.int i3), (.int i4)] h0 n0 (Q0 Z i0 i1 i2 i3 i4 rA rB h0) := by
  refine OM.of (plainFor_of_name pn_0) (fun m => ef_0 m i0 i1 i2 i3 i4) ?_
  intro p e s m below meth c T X
  refine OG.iloadN X at_0 rfl ?_
  refine OG.iconst X at_1 (z := (3 : Int32)) rfl ?_
  refine OG.iand X at_2 ?_
  refine OG.istoreV X at_3 (l' := fun z => #[.val (.int i0), .val (.int i1), .val (.int i2), .val (.int i3), .val (.int i4), .val (.int z), .unset, .unset, .unset, .unset, .unset, .unset, .unset, .unset, .unset, .unset, .unset, .unset]) (fun _ => rfl) ?_
  intro n hn
  have hn2 := own_n hn
  refine OG.iloadN X at_5 rfl ?_
  refine OG.iconst X at_6 (z := (2 : Int32)) rfl ?_
  refine OG.iushr X at_7 ?_
  refine OG.iconst X at_8 (z := (1 : Int32)) rfl ?_
  refine OG.iand X at_9 ?_
  have hj1 : ∀ af : Int32, af = (if (((i0.toUInt32 >>> ((2 : Int32) &&& 31).toUInt32).toInt32) &&& (1 : Int32)) = (0 : Int32) then (0 : Int32) else (1 : Int32)) → OG p e below s n0 room_1.cells room_1.slots (Q0 Z i0 i1 i2 i3 i4 rA rB h0) (T.setTop (mkF m 18 #[.val (.int i0), .val (.int i1), .val (.int i2), .val (.int i3), .val (.int i4), .val (.int n), .unset, .unset, .unset, .unset, .unset, .unset, .unset, .unset, .unset, .unset, .unset, .unset] [(.int af)])) := by
    intro af haf
    refine OG.istore X at_18 (l' := #[.val (.int i0), .val (.int i1), .val (.int i2), .val (.int i3), .val (.int i4), .val (.int n), .val (.int af), .unset, .unset, .unset, .unset, .unset, .unset, .unset, .unset, .unset, .unset, .unset]) rfl ?_
    refine OG.iload X at_20 rfl ?_
    refine OG.if_eq X at_22 (pc' := 31) (by decide) ?_ ?_
    · intro c22
      refine OG.getS X (host := "") (Or.inl (hw _ (List.mem_of_getElem? (i := 0) rfl))) Via.refl S_BEFORE at_31 ?_
      intro T2 X2
      refine OG.astore X2 at_34 (l' := #[.val (.int i0), .val (.int i1), .val (.int i2), .val (.int i3), .val (.int i4), .val (.int n), .val (.int af), .val (.ref rB), .unset, .unset, .unset, .unset, .unset, .unset, .unset, .unset, .unset, .unset]) rfl rfl ?_
      refine OG.iload X2 at_36 rfl ?_
      refine OG.aload X2 at_38 rfl rfl ?_
      refine OG.callS X2 (hw _ (List.mem_of_getElem? (i := 3) rfl)) (hw _ (List.mem_of_getElem? (i := 4) rfl)) (by decide) (rm1 l Z a0 hw [] n rB rA h0 n0 S_AFTER) (hw _ (List.mem_of_getElem? (i := 6) rfl)) (hw _ (List.mem_of_getElem? (i := 5) rfl)) (by decide) (W := 0) (by decide) rfl (argsL := [(.int n), (.ref rB)]) pd_0 rfl at_40 rfl (Nat.le_of_eq rfl) (by decide) (by decide) ?_
      rintro _ T3 h4 X3 ⟨rfl, eh4⟩
      rw [eh4] at X3
      show OG p e below s n0 room_1.cells room_1.slots (Q0 Z i0 i1 i2 i3 i4 rA rB h0) (T3.setTop (mkF m 43 #[.val (.int i0), .val (.int i1), .val (.int i2), .val (.int i3), .val (.int i4), .val (.int n), .val (.int af), .val (.ref rB), .unset, .unset, .unset, .unset, .unset, .unset, .unset, .unset, .unset, .unset] [(.int (if rB = rA then n else (n + 1) * (n + 1) - 1))]))
      refine OG.istoreV X3 at_43 (l' := fun z => #[.val (.int i0), .val (.int i1), .val (.int i2), .val (.int i3), .val (.int i4), .val (.int n), .val (.int af), .val (.ref rB), .val (.int z), .unset, .unset, .unset, .unset, .unset, .unset, .unset, .unset, .unset]) (fun _ => rfl) ?_
      intro kd hkd
      have hkd2 : kd = kdOf false n := by rw [hkd]; exact if_neg hne
      have hkd15 : kd.toInt ≤ 15 := by rw [hkd2]; exact own_kd hn2
      refine OG.iloadN X3 at_45 rfl ?_
      refine OG.ldcInt X3 (v := (2147483647 : Int32)) (hw _ (List.mem_of_getElem? (i := 9) rfl)) at_46 ?_
      refine OG.iand X3 at_48 ?_
      refine OG.iload X3 at_49 rfl ?_
      refine OG.iconst X3 at_51 (z := (1 : Int32)) rfl ?_
      refine OG.iadd X3 at_52 ?_
      refine OG.irem X3 at_53 (own_n1 hn2) ?_
      refine OG.istoreV X3 at_54 (l' := fun z => #[.val (.int i0), .val (.int i1), .val (.int i2), .val (.int i3), .val (.int i4), .val (.int n), .val (.int af), .val (.ref rB), .val (.int kd), .val (.int z), .unset, .unset, .unset, .unset, .unset, .unset, .unset, .unset]) (fun _ => rfl) ?_
      intro nx hnx
      have hnx2 := own_rem hn2 hnx
      refine OG.iloadN X3 at_56 rfl ?_
      refine OG.ldcInt X3 (v := (2147483647 : Int32)) (hw _ (List.mem_of_getElem? (i := 9) rfl)) at_57 ?_
      refine OG.iand X3 at_59 ?_
      refine OG.iload X3 at_60 rfl ?_
      refine OG.iconst X3 at_62 (z := (1 : Int32)) rfl ?_
      refine OG.iadd X3 at_63 ?_
      refine OG.irem X3 at_64 (own_n1 hn2) ?_
      refine OG.istoreV X3 at_65 (l' := fun z => #[.val (.int i0), .val (.int i1), .val (.int i2), .val (.int i3), .val (.int i4), .val (.int n), .val (.int af), .val (.ref rB), .val (.int kd), .val (.int nx), .val (.int z), .unset, .unset, .unset, .unset, .unset, .unset, .unset]) (fun _ => rfl) ?_
      intro pv hpv
      have hpv2 := own_rem hn2 hpv
      refine OG.iloadN X3 at_67 rfl ?_
      refine OG.ldcInt X3 (v := (2147483647 : Int32)) (hw _ (List.mem_of_getElem? (i := 9) rfl)) at_68 ?_
      refine OG.iand X3 at_70 ?_
      refine OG.iload X3 at_71 rfl ?_
      refine OG.iconst X3 at_73 (z := (1 : Int32)) rfl ?_
      refine OG.iadd X3 at_74 ?_
      refine OG.irem X3 at_75 (own_n1 hn2) ?_
      refine OG.istoreV X3 at_76 (l' := fun z => #[.val (.int i0), .val (.int i1), .val (.int i2), .val (.int i3), .val (.int i4), .val (.int n), .val (.int af), .val (.ref rB), .val (.int kd), .val (.int nx), .val (.int pv), .val (.int z), .unset, .unset, .unset, .unset, .unset, .unset]) (fun _ => rfl) ?_
      intro fw hfw
      have hfw2 := own_rem hn2 hfw
      refine OG.iload X3 at_78 rfl ?_
      refine OG.if_eq_t X3 at_80 (pc' := 87) (by decide) c22 ?_
      refine OG.iload X3 at_87 rfl ?_
      refine OG.ldcInt X3 (v := (2147483647 : Int32)) (hw _ (List.mem_of_getElem? (i := 9) rfl)) at_89 ?_
      refine OG.iand X3 at_91 ?_
      refine OG.iload X3 at_92 rfl ?_
      refine OG.iconst X3 at_94 (z := (1 : Int32)) rfl ?_
      refine OG.iadd X3 at_95 ?_
      refine OG.irem X3 at_96 (own_n1 hn2) ?_
      refine OG.istoreV X3 at_97 (l' := fun z => #[.val (.int i0), .val (.int i1), .val (.int i2), .val (.int i3), .val (.int i4), .val (.int n), .val (.int af), .val (.ref rB), .val (.int kd), .val (.int nx), .val (.int pv), .val (.int fw), .val (.int z), .unset, .unset, .unset, .unset, .unset]) (fun _ => rfl) ?_
      intro pw hpw
      have hpw2 := own_rem hn2 hpw
      refine OG.iload X3 at_99 rfl ?_
      refine OG.iload X3 at_101 rfl ?_
      refine OG.iload X3 at_103 rfl ?_
      refine OG.iload X3 at_105 rfl ?_
      refine OG.callS X3 (hw _ (List.mem_of_getElem? (i := 10) rfl)) (hw _ (List.mem_of_getElem? (i := 11) rfl)) (by decide) (rm2 l Z a0 hw [] pv nx n kd h0 n0 hkd15 (own_n1 hn2)) (hw _ (List.mem_of_getElem? (i := 12) rfl)) (hw _ (List.mem_of_getElem? (i := 5) rfl)) (by decide) (W := 0) (by decide) rfl (argsL := [(.int pv), (.int nx), (.int n), (.int kd)]) pd_1 rfl at_107 rfl (Nat.le_of_eq rfl) (by decide) (by decide) ?_
      rintro _ T5 h6 X5 ⟨rfl, eh6⟩
      rw [eh6] at X5
      show OG p e below s n0 room_1.cells room_1.slots (Q0 Z i0 i1 i2 i3 i4 rA rB h0) (T5.setTop (mkF m 110 #[.val (.int i0), .val (.int i1), .val (.int i2), .val (.int i3), .val (.int i4), .val (.int n), .val (.int af), .val (.ref rB), .val (.int kd), .val (.int nx), .val (.int pv), .val (.int fw), .val (.int pw), .unset, .unset, .unset, .unset, .unset] [(.int (kb pv nx n kd 16 0 0))]))
      refine OG.istoreV X5 at_110 (l' := fun z => #[.val (.int i0), .val (.int i1), .val (.int i2), .val (.int i3), .val (.int i4), .val (.int n), .val (.int af), .val (.ref rB), .val (.int kd), .val (.int nx), .val (.int pv), .val (.int fw), .val (.int pw), .val (.int z), .unset, .unset, .unset, .unset]) (fun _ => rfl) ?_
      intro r hr
      refine OG.iload X5 at_112 rfl ?_
      refine OG.iload X5 at_114 rfl ?_
      refine OG.iushr X5 at_116 ?_
      have hj7 : ∀ hi : Int32, hi = (if ((r.toUInt32 >>> (kd &&& 31).toUInt32).toInt32) = (0 : Int32) then (1 : Int32) else (0 : Int32)) → OG p e below s n0 room_1.cells room_1.slots (Q0 Z i0 i1 i2 i3 i4 rA rB h0) (T5.setTop (mkF m 125 #[.val (.int i0), .val (.int i1), .val (.int i2), .val (.int i3), .val (.int i4), .val (.int n), .val (.int af), .val (.ref rB), .val (.int kd), .val (.int nx), .val (.int pv), .val (.int fw), .val (.int pw), .val (.int r), .unset, .unset, .unset, .unset] [(.int hi)])) := by
        intro hi hhi
        refine OG.istore X5 at_125 (l' := #[.val (.int i0), .val (.int i1), .val (.int i2), .val (.int i3), .val (.int i4), .val (.int n), .val (.int af), .val (.ref rB), .val (.int kd), .val (.int nx), .val (.int pv), .val (.int fw), .val (.int pw), .val (.int r), .val (.int hi), .unset, .unset, .unset]) rfl ?_
        have hhi2 : hi = 1 := by rw [hhi]; exact if_pos (own_A false hn2 hnx2 hpv2 hkd2 hr)
        refine OG.iload X5 at_127 rfl ?_
        refine OG.if_ne X5 at_129 (pc' := 140) (by decide) ?_ ?_
        · intro c129
          refine OG.iload X5 at_140 rfl ?_
          refine OG.iload X5 at_142 rfl ?_
          refine OG.iconst X5 at_144 (z := (1 : Int32)) rfl ?_
          refine OG.iadd X5 at_145 ?_
          refine OG.imul X5 at_146 ?_
          refine OG.iload X5 at_147 rfl ?_
          refine OG.iadd X5 at_149 ?_
          refine OG.iconst X5 at_150 (z := (1 : Int32)) rfl ?_
          refine OG.isub X5 at_151 ?_
          refine OG.istoreV X5 at_152 (l' := fun z => #[.val (.int i0), .val (.int i1), .val (.int i2), .val (.int i3), .val (.int i4), .val (.int n), .val (.int af), .val (.ref rB), .val (.int kd), .val (.int nx), .val (.int pv), .val (.int fw), .val (.int pw), .val (.int r), .val (.int hi), .val (.int z), .unset, .unset]) (fun _ => rfl) ?_
          intro kk hkk
          refine OG.iload X5 at_154 rfl ?_
          refine OG.iload X5 at_156 rfl ?_
          refine OG.icmp_lt X5 at_158 (pc' := 164) (by decide) ?_ ?_
          · intro c158
            refine OG.iload X5 at_164 rfl ?_
            have hj8 : ∀ ex : Int32, ex = (if nx = (0 : Int32) then (if pv = (0 : Int32) then (1 : Int32) else (if pw = pv then (1 : Int32) else (0 : Int32))) else (if fw = nx then (if pv = (0 : Int32) then (1 : Int32) else (if pw = pv then (1 : Int32) else (0 : Int32))) else (0 : Int32))) → OG p e below s n0 room_1.cells room_1.slots (Q0 Z i0 i1 i2 i3 i4 rA rB h0) (T5.setTop (mkF m 193 #[.val (.int i0), .val (.int i1), .val (.int i2), .val (.int i3), .val (.int i4), .val (.int n), .val (.int af), .val (.ref rB), .val (.int kd), .val (.int nx), .val (.int pv), .val (.int fw), .val (.int pw), .val (.int r), .val (.int hi), .val (.int kk), .unset, .unset] [(.int ex)])) := by
              intro ex hex
              refine OG.istore X5 at_193 (l' := #[.val (.int i0), .val (.int i1), .val (.int i2), .val (.int i3), .val (.int i4), .val (.int n), .val (.int af), .val (.ref rB), .val (.int kd), .val (.int nx), .val (.int pv), .val (.int fw), .val (.int pw), .val (.int r), .val (.int hi), .val (.int kk), .val (.int ex), .unset]) rfl ?_
              refine OG.iload X5 at_195 rfl ?_
              refine OG.iload X5 at_197 rfl ?_
              refine OG.iushr X5 at_199 ?_
              refine OG.iconst X5 at_200 (z := (1 : Int32)) rfl ?_
              refine OG.iand X5 at_201 ?_
              have hj9 : ∀ got : Int32, got = (if (((r.toUInt32 >>> (kk &&& 31).toUInt32).toInt32) &&& (1 : Int32)) = (0 : Int32) then (0 : Int32) else (1 : Int32)) → OG p e below s n0 room_1.cells room_1.slots (Q0 Z i0 i1 i2 i3 i4 rA rB h0) (T5.setTop (mkF m 210 #[.val (.int i0), .val (.int i1), .val (.int i2), .val (.int i3), .val (.int i4), .val (.int n), .val (.int af), .val (.ref rB), .val (.int kd), .val (.int nx), .val (.int pv), .val (.int fw), .val (.int pw), .val (.int r), .val (.int hi), .val (.int kk), .val (.int ex), .unset] [(.int got)])) := by
                intro got hgot
                refine OG.istore X5 at_210 (l' := #[.val (.int i0), .val (.int i1), .val (.int i2), .val (.int i3), .val (.int i4), .val (.int n), .val (.int af), .val (.ref rB), .val (.int kd), .val (.int nx), .val (.int pv), .val (.int fw), .val (.int pw), .val (.int r), .val (.int hi), .val (.int kk), .val (.int ex), .val (.int got)]) rfl ?_
                refine OG.iload X5 at_212 rfl ?_
                refine OG.if_eq_f X5 at_214 (by rw [hhi2]; decide) ?_
                refine OG.iload X5 at_217 rfl ?_
                refine OG.iload X5 at_219 rfl ?_
                refine OG.icmp_ne_f X5 at_221 (own_B false hn2 hnx2 hpv2 hfw2 hpw2 (fun q => nomatch q) hkd2 hr hkk c158 (Or.inl c129) hgot hex) ?_
                refine OG.iconst X5 at_224 (z := (1 : Int32)) rfl ?_
                refine OG.goto X5 at_225 (pc' := 229) (by decide) ?_
                exact OG.retN X5 (t := .boolean) at_229 (by simp) (by decide) (by decide) rfl
              refine OG.if_eq X5 at_202 (pc' := 209) (by decide) ?_ ?_
              · intro c202
                refine OG.iconst X5 at_209 (z := (0 : Int32)) rfl ?_
                exact hj9 _ (by rw [if_pos c202])
              · intro c202
                refine OG.iconst X5 at_205 (z := (1 : Int32)) rfl ?_
                refine OG.goto X5 at_206 (pc' := 210) (by decide) ?_
                exact hj9 _ (by rw [if_neg c202])
            refine OG.if_eq X5 at_166 (pc' := 176) (by decide) ?_ ?_
            · intro c166
              refine OG.iload X5 at_176 rfl ?_
              refine OG.if_eq X5 at_178 (pc' := 188) (by decide) ?_ ?_
              · intro c178
                refine OG.iconst X5 at_188 (z := (1 : Int32)) rfl ?_
                refine OG.goto X5 at_189 (pc' := 193) (by decide) ?_
                exact hj8 _ (by rw [if_pos c166, if_pos c178])
              · intro c178
                refine OG.iload X5 at_181 rfl ?_
                refine OG.iload X5 at_183 rfl ?_
                refine OG.icmp_ne X5 at_185 (pc' := 192) (by decide) ?_ ?_
                · intro c185
                  refine OG.iconst X5 at_192 (z := (0 : Int32)) rfl ?_
                  exact hj8 _ (by rw [if_pos c166, if_neg c178, if_neg c185])
                · intro c185
                  refine OG.iconst X5 at_188 (z := (1 : Int32)) rfl ?_
                  refine OG.goto X5 at_189 (pc' := 193) (by decide) ?_
                  exact hj8 _ (by rw [if_pos c166, if_neg c178, if_pos c185])
            · intro c166
              refine OG.iload X5 at_169 rfl ?_
              refine OG.iload X5 at_171 rfl ?_
              refine OG.icmp_ne X5 at_173 (pc' := 192) (by decide) ?_ ?_
              · intro c173
                refine OG.iconst X5 at_192 (z := (0 : Int32)) rfl ?_
                exact hj8 _ (by rw [if_neg c166, if_neg c173])
              · intro c173
                refine OG.iload X5 at_176 rfl ?_
                refine OG.if_eq X5 at_178 (pc' := 188) (by decide) ?_ ?_
                · intro c178
                  refine OG.iconst X5 at_188 (z := (1 : Int32)) rfl ?_
                  refine OG.goto X5 at_189 (pc' := 193) (by decide) ?_
                  exact hj8 _ (by rw [if_neg c166, if_pos c173, if_pos c178])
                · intro c178
                  refine OG.iload X5 at_181 rfl ?_
                  refine OG.iload X5 at_183 rfl ?_
                  refine OG.icmp_ne X5 at_185 (pc' := 192) (by decide) ?_ ?_
                  · intro c185
                    refine OG.iconst X5 at_192 (z := (0 : Int32)) rfl ?_
                    exact hj8 _ (by rw [if_neg c166, if_pos c173, if_neg c178, if_neg c185])
                  · intro c185
                    refine OG.iconst X5 at_188 (z := (1 : Int32)) rfl ?_
                    refine OG.goto X5 at_189 (pc' := 193) (by decide) ?_
                    exact hj8 _ (by rw [if_neg c166, if_pos c173, if_neg c178, if_pos c185])
          · intro c158
            refine OG.iload X5 at_161 rfl ?_
            exact OG.retN X5 (t := .boolean) at_163 (by simp) (by decide) (by decide) (by show some (Value.int (nar .boolean hi)) = _; rw [hhi2]; rfl)
        · intro c129
          refine OG.iload X5 at_132 rfl ?_
          refine OG.if_ne X5 at_134 (pc' := 140) (by decide) ?_ ?_
          · intro c134
            refine OG.iload X5 at_140 rfl ?_
            refine OG.iload X5 at_142 rfl ?_
            refine OG.iconst X5 at_144 (z := (1 : Int32)) rfl ?_
            refine OG.iadd X5 at_145 ?_
            refine OG.imul X5 at_146 ?_
            refine OG.iload X5 at_147 rfl ?_
            refine OG.iadd X5 at_149 ?_
            refine OG.iconst X5 at_150 (z := (1 : Int32)) rfl ?_
            refine OG.isub X5 at_151 ?_
            refine OG.istoreV X5 at_152 (l' := fun z => #[.val (.int i0), .val (.int i1), .val (.int i2), .val (.int i3), .val (.int i4), .val (.int n), .val (.int af), .val (.ref rB), .val (.int kd), .val (.int nx), .val (.int pv), .val (.int fw), .val (.int pw), .val (.int r), .val (.int hi), .val (.int z), .unset, .unset]) (fun _ => rfl) ?_
            intro kk hkk
            refine OG.iload X5 at_154 rfl ?_
            refine OG.iload X5 at_156 rfl ?_
            refine OG.icmp_lt X5 at_158 (pc' := 164) (by decide) ?_ ?_
            · intro c158
              refine OG.iload X5 at_164 rfl ?_
              have hj10 : ∀ ex : Int32, ex = (if nx = (0 : Int32) then (if pv = (0 : Int32) then (1 : Int32) else (if pw = pv then (1 : Int32) else (0 : Int32))) else (if fw = nx then (if pv = (0 : Int32) then (1 : Int32) else (if pw = pv then (1 : Int32) else (0 : Int32))) else (0 : Int32))) → OG p e below s n0 room_1.cells room_1.slots (Q0 Z i0 i1 i2 i3 i4 rA rB h0) (T5.setTop (mkF m 193 #[.val (.int i0), .val (.int i1), .val (.int i2), .val (.int i3), .val (.int i4), .val (.int n), .val (.int af), .val (.ref rB), .val (.int kd), .val (.int nx), .val (.int pv), .val (.int fw), .val (.int pw), .val (.int r), .val (.int hi), .val (.int kk), .unset, .unset] [(.int ex)])) := by
                intro ex hex
                refine OG.istore X5 at_193 (l' := #[.val (.int i0), .val (.int i1), .val (.int i2), .val (.int i3), .val (.int i4), .val (.int n), .val (.int af), .val (.ref rB), .val (.int kd), .val (.int nx), .val (.int pv), .val (.int fw), .val (.int pw), .val (.int r), .val (.int hi), .val (.int kk), .val (.int ex), .unset]) rfl ?_
                refine OG.iload X5 at_195 rfl ?_
                refine OG.iload X5 at_197 rfl ?_
                refine OG.iushr X5 at_199 ?_
                refine OG.iconst X5 at_200 (z := (1 : Int32)) rfl ?_
                refine OG.iand X5 at_201 ?_
                have hj11 : ∀ got : Int32, got = (if (((r.toUInt32 >>> (kk &&& 31).toUInt32).toInt32) &&& (1 : Int32)) = (0 : Int32) then (0 : Int32) else (1 : Int32)) → OG p e below s n0 room_1.cells room_1.slots (Q0 Z i0 i1 i2 i3 i4 rA rB h0) (T5.setTop (mkF m 210 #[.val (.int i0), .val (.int i1), .val (.int i2), .val (.int i3), .val (.int i4), .val (.int n), .val (.int af), .val (.ref rB), .val (.int kd), .val (.int nx), .val (.int pv), .val (.int fw), .val (.int pw), .val (.int r), .val (.int hi), .val (.int kk), .val (.int ex), .unset] [(.int got)])) := by
                  intro got hgot
                  refine OG.istore X5 at_210 (l' := #[.val (.int i0), .val (.int i1), .val (.int i2), .val (.int i3), .val (.int i4), .val (.int n), .val (.int af), .val (.ref rB), .val (.int kd), .val (.int nx), .val (.int pv), .val (.int fw), .val (.int pw), .val (.int r), .val (.int hi), .val (.int kk), .val (.int ex), .val (.int got)]) rfl ?_
                  refine OG.iload X5 at_212 rfl ?_
                  refine OG.if_eq_f X5 at_214 (by rw [hhi2]; decide) ?_
                  refine OG.iload X5 at_217 rfl ?_
                  refine OG.iload X5 at_219 rfl ?_
                  refine OG.icmp_ne_f X5 at_221 (own_B false hn2 hnx2 hpv2 hfw2 hpw2 (fun q => nomatch q) hkd2 hr hkk c158 (Or.inr c134) hgot hex) ?_
                  refine OG.iconst X5 at_224 (z := (1 : Int32)) rfl ?_
                  refine OG.goto X5 at_225 (pc' := 229) (by decide) ?_
                  exact OG.retN X5 (t := .boolean) at_229 (by simp) (by decide) (by decide) rfl
                refine OG.if_eq X5 at_202 (pc' := 209) (by decide) ?_ ?_
                · intro c202
                  refine OG.iconst X5 at_209 (z := (0 : Int32)) rfl ?_
                  exact hj11 _ (by rw [if_pos c202])
                · intro c202
                  refine OG.iconst X5 at_205 (z := (1 : Int32)) rfl ?_
                  refine OG.goto X5 at_206 (pc' := 210) (by decide) ?_
                  exact hj11 _ (by rw [if_neg c202])
              refine OG.if_eq X5 at_166 (pc' := 176) (by decide) ?_ ?_
              · intro c166
                refine OG.iload X5 at_176 rfl ?_
                refine OG.if_eq X5 at_178 (pc' := 188) (by decide) ?_ ?_
                · intro c178
                  refine OG.iconst X5 at_188 (z := (1 : Int32)) rfl ?_
                  refine OG.goto X5 at_189 (pc' := 193) (by decide) ?_
                  exact hj10 _ (by rw [if_pos c166, if_pos c178])
                · intro c178
                  refine OG.iload X5 at_181 rfl ?_
                  refine OG.iload X5 at_183 rfl ?_
                  refine OG.icmp_ne X5 at_185 (pc' := 192) (by decide) ?_ ?_
                  · intro c185
                    refine OG.iconst X5 at_192 (z := (0 : Int32)) rfl ?_
                    exact hj10 _ (by rw [if_pos c166, if_neg c178, if_neg c185])
                  · intro c185
                    refine OG.iconst X5 at_188 (z := (1 : Int32)) rfl ?_
                    refine OG.goto X5 at_189 (pc' := 193) (by decide) ?_
                    exact hj10 _ (by rw [if_pos c166, if_neg c178, if_pos c185])
              · intro c166
                refine OG.iload X5 at_169 rfl ?_
                refine OG.iload X5 at_171 rfl ?_
                refine OG.icmp_ne X5 at_173 (pc' := 192) (by decide) ?_ ?_
                · intro c173
                  refine OG.iconst X5 at_192 (z := (0 : Int32)) rfl ?_
                  exact hj10 _ (by rw [if_neg c166, if_neg c173])
                · intro c173
                  refine OG.iload X5 at_176 rfl ?_
                  refine OG.if_eq X5 at_178 (pc' := 188) (by decide) ?_ ?_
                  · intro c178
                    refine OG.iconst X5 at_188 (z := (1 : Int32)) rfl ?_
                    refine OG.goto X5 at_189 (pc' := 193) (by decide) ?_
                    exact hj10 _ (by rw [if_neg c166, if_pos c173, if_pos c178])
                  · intro c178
                    refine OG.iload X5 at_181 rfl ?_
                    refine OG.iload X5 at_183 rfl ?_
                    refine OG.icmp_ne X5 at_185 (pc' := 192) (by decide) ?_ ?_
                    · intro c185
                      refine OG.iconst X5 at_192 (z := (0 : Int32)) rfl ?_
                      exact hj10 _ (by rw [if_neg c166, if_pos c173, if_neg c178, if_neg c185])
                    · intro c185
                      refine OG.iconst X5 at_188 (z := (1 : Int32)) rfl ?_
                      refine OG.goto X5 at_189 (pc' := 193) (by decide) ?_
                      exact hj10 _ (by rw [if_neg c166, if_pos c173, if_neg c178, if_pos c185])
            · intro c158
              refine OG.iload X5 at_161 rfl ?_
              exact OG.retN X5 (t := .boolean) at_163 (by simp) (by decide) (by decide) (by show some (Value.int (nar .boolean hi)) = _; rw [hhi2]; rfl)
          · intro c134
            refine OG.iload X5 at_137 rfl ?_
            exact OG.retN X5 (t := .boolean) at_139 (by simp) (by decide) (by decide) (by show some (Value.int (nar .boolean hi)) = _; rw [hhi2]; rfl)
      refine OG.if_ne X5 at_117 (pc' := 124) (by decide) ?_ ?_
      · intro c117
        refine OG.iconst X5 at_124 (z := (0 : Int32)) rfl ?_
        exact hj7 _ (by rw [if_neg c117])
      · intro c117
        refine OG.iconst X5 at_120 (z := (1 : Int32)) rfl ?_
        refine OG.goto X5 at_121 (pc' := 125) (by decide) ?_
        exact hj7 _ (by rw [if_pos c117])
    · intro c22
      refine OG.getS X (host := "") (Or.inl (hw _ (List.mem_of_getElem? (i := 13) rfl))) Via.refl S_AFTER at_25 ?_
      intro T12 X12
      refine OG.goto X12 at_28 (pc' := 34) (by decide) ?_
      refine OG.astore X12 at_34 (l' := #[.val (.int i0), .val (.int i1), .val (.int i2), .val (.int i3), .val (.int i4), .val (.int n), .val (.int af), .val (.ref rA), .unset, .unset, .unset, .unset, .unset, .unset, .unset, .unset, .unset, .unset]) rfl rfl ?_
      refine OG.iload X12 at_36 rfl ?_
      refine OG.aload X12 at_38 rfl rfl ?_
      refine OG.callS X12 (hw _ (List.mem_of_getElem? (i := 3) rfl)) (hw _ (List.mem_of_getElem? (i := 4) rfl)) (by decide) (rm1 l Z a0 hw [] n rA rA h0 n0 S_AFTER) (hw _ (List.mem_of_getElem? (i := 6) rfl)) (hw _ (List.mem_of_getElem? (i := 5) rfl)) (by decide) (W := 0) (by decide) rfl (argsL := [(.int n), (.ref rA)]) pd_0 rfl at_40 rfl (Nat.le_of_eq rfl) (by decide) (by decide) ?_
      rintro _ T13 h14 X13 ⟨rfl, eh14⟩
      rw [eh14] at X13
      show OG p e below s n0 room_1.cells room_1.slots (Q0 Z i0 i1 i2 i3 i4 rA rB h0) (T13.setTop (mkF m 43 #[.val (.int i0), .val (.int i1), .val (.int i2), .val (.int i3), .val (.int i4), .val (.int n), .val (.int af), .val (.ref rA), .unset, .unset, .unset, .unset, .unset, .unset, .unset, .unset, .unset, .unset] [(.int (if rA = rA then n else (n + 1) * (n + 1) - 1))]))
      refine OG.istoreV X13 at_43 (l' := fun z => #[.val (.int i0), .val (.int i1), .val (.int i2), .val (.int i3), .val (.int i4), .val (.int n), .val (.int af), .val (.ref rA), .val (.int z), .unset, .unset, .unset, .unset, .unset, .unset, .unset, .unset, .unset]) (fun _ => rfl) ?_
      intro kd hkd
      have hkd2 : kd = kdOf true n := by rw [hkd]; exact if_pos rfl
      have hkd15 : kd.toInt ≤ 15 := by rw [hkd2]; exact own_kd hn2
      refine OG.iloadN X13 at_45 rfl ?_
      refine OG.ldcInt X13 (v := (2147483647 : Int32)) (hw _ (List.mem_of_getElem? (i := 9) rfl)) at_46 ?_
      refine OG.iand X13 at_48 ?_
      refine OG.iload X13 at_49 rfl ?_
      refine OG.iconst X13 at_51 (z := (1 : Int32)) rfl ?_
      refine OG.iadd X13 at_52 ?_
      refine OG.irem X13 at_53 (own_n1 hn2) ?_
      refine OG.istoreV X13 at_54 (l' := fun z => #[.val (.int i0), .val (.int i1), .val (.int i2), .val (.int i3), .val (.int i4), .val (.int n), .val (.int af), .val (.ref rA), .val (.int kd), .val (.int z), .unset, .unset, .unset, .unset, .unset, .unset, .unset, .unset]) (fun _ => rfl) ?_
      intro nx hnx
      have hnx2 := own_rem hn2 hnx
      refine OG.iloadN X13 at_56 rfl ?_
      refine OG.ldcInt X13 (v := (2147483647 : Int32)) (hw _ (List.mem_of_getElem? (i := 9) rfl)) at_57 ?_
      refine OG.iand X13 at_59 ?_
      refine OG.iload X13 at_60 rfl ?_
      refine OG.iconst X13 at_62 (z := (1 : Int32)) rfl ?_
      refine OG.iadd X13 at_63 ?_
      refine OG.irem X13 at_64 (own_n1 hn2) ?_
      refine OG.istoreV X13 at_65 (l' := fun z => #[.val (.int i0), .val (.int i1), .val (.int i2), .val (.int i3), .val (.int i4), .val (.int n), .val (.int af), .val (.ref rA), .val (.int kd), .val (.int nx), .val (.int z), .unset, .unset, .unset, .unset, .unset, .unset, .unset]) (fun _ => rfl) ?_
      intro pv hpv
      have hpv2 := own_rem hn2 hpv
      refine OG.iloadN X13 at_67 rfl ?_
      refine OG.ldcInt X13 (v := (2147483647 : Int32)) (hw _ (List.mem_of_getElem? (i := 9) rfl)) at_68 ?_
      refine OG.iand X13 at_70 ?_
      refine OG.iload X13 at_71 rfl ?_
      refine OG.iconst X13 at_73 (z := (1 : Int32)) rfl ?_
      refine OG.iadd X13 at_74 ?_
      refine OG.irem X13 at_75 (own_n1 hn2) ?_
      refine OG.istoreV X13 at_76 (l' := fun z => #[.val (.int i0), .val (.int i1), .val (.int i2), .val (.int i3), .val (.int i4), .val (.int n), .val (.int af), .val (.ref rA), .val (.int kd), .val (.int nx), .val (.int pv), .val (.int z), .unset, .unset, .unset, .unset, .unset, .unset]) (fun _ => rfl) ?_
      intro fw hfw
      have hfw2 := own_rem hn2 hfw
      refine OG.iload X13 at_78 rfl ?_
      refine OG.if_eq_f X13 at_80 c22 ?_
      refine OG.iconst X13 at_83 (z := (0 : Int32)) rfl ?_
      refine OG.goto X13 at_84 (pc' := 97) (by decide) ?_
      refine OG.istoreV X13 at_97 (l' := fun z => #[.val (.int i0), .val (.int i1), .val (.int i2), .val (.int i3), .val (.int i4), .val (.int n), .val (.int af), .val (.ref rA), .val (.int kd), .val (.int nx), .val (.int pv), .val (.int fw), .val (.int z), .unset, .unset, .unset, .unset, .unset]) (fun _ => rfl) ?_
      intro pw hpw
      have hpw2 : 0 ≤ pw.toInt ∧ pw.toInt ≤ n.toInt := by rw [hpw]; exact ⟨by decide, hn2.1⟩
      refine OG.iload X13 at_99 rfl ?_
      refine OG.iload X13 at_101 rfl ?_
      refine OG.iload X13 at_103 rfl ?_
      refine OG.iload X13 at_105 rfl ?_
      refine OG.callS X13 (hw _ (List.mem_of_getElem? (i := 10) rfl)) (hw _ (List.mem_of_getElem? (i := 11) rfl)) (by decide) (rm2 l Z a0 hw [] pv nx n kd h0 n0 hkd15 (own_n1 hn2)) (hw _ (List.mem_of_getElem? (i := 12) rfl)) (hw _ (List.mem_of_getElem? (i := 5) rfl)) (by decide) (W := 0) (by decide) rfl (argsL := [(.int pv), (.int nx), (.int n), (.int kd)]) pd_1 rfl at_107 rfl (Nat.le_of_eq rfl) (by decide) (by decide) ?_
      rintro _ T15 h16 X15 ⟨rfl, eh16⟩
      rw [eh16] at X15
      show OG p e below s n0 room_1.cells room_1.slots (Q0 Z i0 i1 i2 i3 i4 rA rB h0) (T15.setTop (mkF m 110 #[.val (.int i0), .val (.int i1), .val (.int i2), .val (.int i3), .val (.int i4), .val (.int n), .val (.int af), .val (.ref rA), .val (.int kd), .val (.int nx), .val (.int pv), .val (.int fw), .val (.int pw), .unset, .unset, .unset, .unset, .unset] [(.int (kb pv nx n kd 16 0 0))]))
      refine OG.istoreV X15 at_110 (l' := fun z => #[.val (.int i0), .val (.int i1), .val (.int i2), .val (.int i3), .val (.int i4), .val (.int n), .val (.int af), .val (.ref rA), .val (.int kd), .val (.int nx), .val (.int pv), .val (.int fw), .val (.int pw), .val (.int z), .unset, .unset, .unset, .unset]) (fun _ => rfl) ?_
      intro r hr
      refine OG.iload X15 at_112 rfl ?_
      refine OG.iload X15 at_114 rfl ?_
      refine OG.iushr X15 at_116 ?_
      have hj17 : ∀ hi : Int32, hi = (if ((r.toUInt32 >>> (kd &&& 31).toUInt32).toInt32) = (0 : Int32) then (1 : Int32) else (0 : Int32)) → OG p e below s n0 room_1.cells room_1.slots (Q0 Z i0 i1 i2 i3 i4 rA rB h0) (T15.setTop (mkF m 125 #[.val (.int i0), .val (.int i1), .val (.int i2), .val (.int i3), .val (.int i4), .val (.int n), .val (.int af), .val (.ref rA), .val (.int kd), .val (.int nx), .val (.int pv), .val (.int fw), .val (.int pw), .val (.int r), .unset, .unset, .unset, .unset] [(.int hi)])) := by
        intro hi hhi
        refine OG.istore X15 at_125 (l' := #[.val (.int i0), .val (.int i1), .val (.int i2), .val (.int i3), .val (.int i4), .val (.int n), .val (.int af), .val (.ref rA), .val (.int kd), .val (.int nx), .val (.int pv), .val (.int fw), .val (.int pw), .val (.int r), .val (.int hi), .unset, .unset, .unset]) rfl ?_
        have hhi2 : hi = 1 := by rw [hhi]; exact if_pos (own_A true hn2 hnx2 hpv2 hkd2 hr)
        refine OG.iload X15 at_127 rfl ?_
        refine OG.if_ne X15 at_129 (pc' := 140) (by decide) ?_ ?_
        · intro c129
          refine OG.iload X15 at_140 rfl ?_
          refine OG.iload X15 at_142 rfl ?_
          refine OG.iconst X15 at_144 (z := (1 : Int32)) rfl ?_
          refine OG.iadd X15 at_145 ?_
          refine OG.imul X15 at_146 ?_
          refine OG.iload X15 at_147 rfl ?_
          refine OG.iadd X15 at_149 ?_
          refine OG.iconst X15 at_150 (z := (1 : Int32)) rfl ?_
          refine OG.isub X15 at_151 ?_
          refine OG.istoreV X15 at_152 (l' := fun z => #[.val (.int i0), .val (.int i1), .val (.int i2), .val (.int i3), .val (.int i4), .val (.int n), .val (.int af), .val (.ref rA), .val (.int kd), .val (.int nx), .val (.int pv), .val (.int fw), .val (.int pw), .val (.int r), .val (.int hi), .val (.int z), .unset, .unset]) (fun _ => rfl) ?_
          intro kk hkk
          refine OG.iload X15 at_154 rfl ?_
          refine OG.iload X15 at_156 rfl ?_
          refine OG.icmp_lt X15 at_158 (pc' := 164) (by decide) ?_ ?_
          · intro c158
            refine OG.iload X15 at_164 rfl ?_
            have hj18 : ∀ ex : Int32, ex = (if nx = (0 : Int32) then (if pv = (0 : Int32) then (1 : Int32) else (if pw = pv then (1 : Int32) else (0 : Int32))) else (if fw = nx then (if pv = (0 : Int32) then (1 : Int32) else (if pw = pv then (1 : Int32) else (0 : Int32))) else (0 : Int32))) → OG p e below s n0 room_1.cells room_1.slots (Q0 Z i0 i1 i2 i3 i4 rA rB h0) (T15.setTop (mkF m 193 #[.val (.int i0), .val (.int i1), .val (.int i2), .val (.int i3), .val (.int i4), .val (.int n), .val (.int af), .val (.ref rA), .val (.int kd), .val (.int nx), .val (.int pv), .val (.int fw), .val (.int pw), .val (.int r), .val (.int hi), .val (.int kk), .unset, .unset] [(.int ex)])) := by
              intro ex hex
              refine OG.istore X15 at_193 (l' := #[.val (.int i0), .val (.int i1), .val (.int i2), .val (.int i3), .val (.int i4), .val (.int n), .val (.int af), .val (.ref rA), .val (.int kd), .val (.int nx), .val (.int pv), .val (.int fw), .val (.int pw), .val (.int r), .val (.int hi), .val (.int kk), .val (.int ex), .unset]) rfl ?_
              refine OG.iload X15 at_195 rfl ?_
              refine OG.iload X15 at_197 rfl ?_
              refine OG.iushr X15 at_199 ?_
              refine OG.iconst X15 at_200 (z := (1 : Int32)) rfl ?_
              refine OG.iand X15 at_201 ?_
              have hj19 : ∀ got : Int32, got = (if (((r.toUInt32 >>> (kk &&& 31).toUInt32).toInt32) &&& (1 : Int32)) = (0 : Int32) then (0 : Int32) else (1 : Int32)) → OG p e below s n0 room_1.cells room_1.slots (Q0 Z i0 i1 i2 i3 i4 rA rB h0) (T15.setTop (mkF m 210 #[.val (.int i0), .val (.int i1), .val (.int i2), .val (.int i3), .val (.int i4), .val (.int n), .val (.int af), .val (.ref rA), .val (.int kd), .val (.int nx), .val (.int pv), .val (.int fw), .val (.int pw), .val (.int r), .val (.int hi), .val (.int kk), .val (.int ex), .unset] [(.int got)])) := by
                intro got hgot
                refine OG.istore X15 at_210 (l' := #[.val (.int i0), .val (.int i1), .val (.int i2), .val (.int i3), .val (.int i4), .val (.int n), .val (.int af), .val (.ref rA), .val (.int kd), .val (.int nx), .val (.int pv), .val (.int fw), .val (.int pw), .val (.int r), .val (.int hi), .val (.int kk), .val (.int ex), .val (.int got)]) rfl ?_
                refine OG.iload X15 at_212 rfl ?_
                refine OG.if_eq_f X15 at_214 (by rw [hhi2]; decide) ?_
                refine OG.iload X15 at_217 rfl ?_
                refine OG.iload X15 at_219 rfl ?_
                refine OG.icmp_ne_f X15 at_221 (own_B true hn2 hnx2 hpv2 hfw2 hpw2 (fun _ => hpw) hkd2 hr hkk c158 (Or.inl c129) hgot hex) ?_
                refine OG.iconst X15 at_224 (z := (1 : Int32)) rfl ?_
                refine OG.goto X15 at_225 (pc' := 229) (by decide) ?_
                exact OG.retN X15 (t := .boolean) at_229 (by simp) (by decide) (by decide) rfl
              refine OG.if_eq X15 at_202 (pc' := 209) (by decide) ?_ ?_
              · intro c202
                refine OG.iconst X15 at_209 (z := (0 : Int32)) rfl ?_
                exact hj19 _ (by rw [if_pos c202])
              · intro c202
                refine OG.iconst X15 at_205 (z := (1 : Int32)) rfl ?_
                refine OG.goto X15 at_206 (pc' := 210) (by decide) ?_
                exact hj19 _ (by rw [if_neg c202])
            refine OG.if_eq X15 at_166 (pc' := 176) (by decide) ?_ ?_
            · intro c166
              refine OG.iload X15 at_176 rfl ?_
              refine OG.if_eq X15 at_178 (pc' := 188) (by decide) ?_ ?_
              · intro c178
                refine OG.iconst X15 at_188 (z := (1 : Int32)) rfl ?_
                refine OG.goto X15 at_189 (pc' := 193) (by decide) ?_
                exact hj18 _ (by rw [if_pos c166, if_pos c178])
              · intro c178
                refine OG.iload X15 at_181 rfl ?_
                refine OG.iload X15 at_183 rfl ?_
                refine OG.icmp_ne X15 at_185 (pc' := 192) (by decide) ?_ ?_
                · intro c185
                  refine OG.iconst X15 at_192 (z := (0 : Int32)) rfl ?_
                  exact hj18 _ (by rw [if_pos c166, if_neg c178, if_neg c185])
                · intro c185
                  refine OG.iconst X15 at_188 (z := (1 : Int32)) rfl ?_
                  refine OG.goto X15 at_189 (pc' := 193) (by decide) ?_
                  exact hj18 _ (by rw [if_pos c166, if_neg c178, if_pos c185])
            · intro c166
              refine OG.iload X15 at_169 rfl ?_
              refine OG.iload X15 at_171 rfl ?_
              refine OG.icmp_ne X15 at_173 (pc' := 192) (by decide) ?_ ?_
              · intro c173
                refine OG.iconst X15 at_192 (z := (0 : Int32)) rfl ?_
                exact hj18 _ (by rw [if_neg c166, if_neg c173])
              · intro c173
                refine OG.iload X15 at_176 rfl ?_
                refine OG.if_eq X15 at_178 (pc' := 188) (by decide) ?_ ?_
                · intro c178
                  refine OG.iconst X15 at_188 (z := (1 : Int32)) rfl ?_
                  refine OG.goto X15 at_189 (pc' := 193) (by decide) ?_
                  exact hj18 _ (by rw [if_neg c166, if_pos c173, if_pos c178])
                · intro c178
                  refine OG.iload X15 at_181 rfl ?_
                  refine OG.iload X15 at_183 rfl ?_
                  refine OG.icmp_ne X15 at_185 (pc' := 192) (by decide) ?_ ?_
                  · intro c185
                    refine OG.iconst X15 at_192 (z := (0 : Int32)) rfl ?_
                    exact hj18 _ (by rw [if_neg c166, if_pos c173, if_neg c178, if_neg c185])
                  · intro c185
                    refine OG.iconst X15 at_188 (z := (1 : Int32)) rfl ?_
                    refine OG.goto X15 at_189 (pc' := 193) (by decide) ?_
                    exact hj18 _ (by rw [if_neg c166, if_pos c173, if_neg c178, if_pos c185])
          · intro c158
            refine OG.iload X15 at_161 rfl ?_
            exact OG.retN X15 (t := .boolean) at_163 (by simp) (by decide) (by decide) (by show some (Value.int (nar .boolean hi)) = _; rw [hhi2]; rfl)
        · intro c129
          refine OG.iload X15 at_132 rfl ?_
          refine OG.if_ne_f X15 at_134 hpw ?_
          refine OG.iload X15 at_137 rfl ?_
          exact OG.retN X15 (t := .boolean) at_139 (by simp) (by decide) (by decide) (by show some (Value.int (nar .boolean hi)) = _; rw [hhi2]; rfl)
      refine OG.if_ne X15 at_117 (pc' := 124) (by decide) ?_ ?_
      · intro c117
        refine OG.iconst X15 at_124 (z := (0 : Int32)) rfl ?_
        exact hj17 _ (by rw [if_neg c117])
      · intro c117
        refine OG.iconst X15 at_120 (z := (1 : Int32)) rfl ?_
        refine OG.goto X15 at_121 (pc' := 125) (by decide) ?_
        exact hj17 _ (by rw [if_pos c117])
  refine OG.if_eq X at_10 (pc' := 17) (by decide) ?_ ?_
  · intro c10
    refine OG.iconst X at_17 (z := (0 : Int32)) rfl ?_
    exact hj1 _ (by rw [if_pos c10])
  · intro c10
    refine OG.iconst X at_13 (z := (1 : Int32)) rfl ?_
    refine OG.goto X at_14 (pc' := 18) (by decide) ?_
    exact hj1 _ (by rw [if_neg c10])
set_option maxRecDepth 65536 in
set_option maxHeartbeats 40000000 in
theorem comes_1 {Post : Tables → Env → Array Value → State → Outcome → State → Prop} (hpost : ∀ tb e args s v u, (limb_1_1.after args s (.returned v) u = true ∧ limb_1_2.after args s (.returned v) u = true ∧ True) → FrameEnd s (.returned v) u (Jvm.fieldLocs frame_1_writes args s ++ Jvm.arrayLocs frame_1_arrays args s ++ Jvm.staticLocs frame_1_statics s) 0 0 → Post tb e args s (.returned v) u) :
    ArmFor flags0 classFile x code maxLocals ret World_1 tables_1 room_1 Calls_1 rest_1 Pre_1 Post := by
  intro l hfl _ _ p e ha hc hk s m args below hf hA hF happ hP
  obtain ⟨hcalls, hrest, hpre⟩ := hP
  obtain ⟨-, -, -, hnamed, -, -, -, hat⟩ := (Spec.applies_iff hf).mp happ
  obtain ⟨hg, hn⟩ := and_e (Cond.before_iff.mp (show (Jvm.Cond.and given_1 narrow_1).before args s = true from hpre))
  obtain ⟨g1, g2⟩ := and_e hg
  obtain ⟨g3, g4⟩ := and_e g2
  obtain ⟨g5, g6⟩ := and_e g4
  obtain ⟨g7, g8⟩ := and_e g6
  obtain ⟨g9, g10⟩ := and_e g8
  obtain ⟨w0, w1, w2, w3, w4, rfl⟩ : ∃ w0 w1 w2 w3 w4 : Value, args = #[w0, w1, w2, w3, w4] := by
    have hs : args.size = 5 := by simpa [Cond.value, given_1] using g1
    obtain ⟨L⟩ := args
    match L, hs with
    | [w0, w1, w2, w3, w4], _ => exact ⟨w0, w1, w2, w3, w4, rfl⟩
  have hw := fun d (hd : d ∈ tables_1) => atoms_spec (ws := Jvm.Cond.code x code maxLocals ret :: tables_1) hat d (List.mem_cons_of_mem _ hd)
  have hfit : Fit s := fun {y c} hc i hi => by
    obtain ⟨ha, rfl⟩ := Array.getElem?_eq_some_iff.mp hc
    have q := List.all_eq_true.mp ((Array.all_eq_true_iff_forall_mem.mp hF) _ (Array.getElem_mem ha)) i (List.mem_range.mpr hi)
    simpa [Array.getElem?_eq_getElem hi] using q
  obtain ⟨i0, ei0⟩ := is_v g3
  obtain rfl : w0 = (.int i0) := Option.some.inj ei0
  obtain ⟨i1, ei1⟩ := is_v g5
  obtain rfl : w1 = (.int i1) := Option.some.inj ei1
  obtain ⟨i2, ei2⟩ := is_v g7
  obtain rfl : w2 = (.int i2) := Option.some.inj ei2
  obtain ⟨i3, ei3⟩ := is_v g9
  obtain rfl : w3 = (.int i3) := Option.some.inj ei3
  obtain ⟨i4, ei4⟩ := is_v g10
  obtain rfl : w4 = (.int i4) := Option.some.inj ei4
  obtain ⟨n0, hn⟩ := and_e hn
  obtain ⟨n1, hn⟩ := and_e hn
  obtain ⟨n2, hn⟩ := and_e hn
  have n3 := hn
  obtain ⟨r_BEFORE_AND_AFTER, ev_BEFORE_AND_AFTER⟩ := exa_v n0
  have E_BEFORE_AND_AFTER := Exa.start ev_BEFORE_AND_AFTER n0
  have S_BEFORE_AND_AFTER := Sta.start ev_BEFORE_AND_AFTER (Or.inr ⟨(hw _ (List.mem_of_getElem? (i := 1) rfl)), (hw _ (List.mem_of_getElem? (i := 2) rfl))⟩)
  obtain ⟨r_AFTER, ev_AFTER⟩ := exa_v n1
  have E_AFTER := Exa.start ev_AFTER n1
  have S_AFTER := Sta.start ev_AFTER (Or.inr ⟨(hw _ (List.mem_of_getElem? (i := 1) rfl)), (hw _ (List.mem_of_getElem? (i := 8) rfl))⟩)
  have O_BEFORE_AND_AFTER_ordinal := Fld.start ((fld_at ev_BEFORE_AND_AFTER).symm.trans (own_eqI n2))
  have O_AFTER_ordinal := Fld.start ((fld_at ev_AFTER).symm.trans (own_eqI n3))
  have hne : ¬ r_BEFORE_AND_AFTER = r_AFTER := Fld.ne O_BEFORE_AND_AFTER_ordinal O_AFTER_ordinal (by decide)
  obtain ⟨n, o, h1, h2, h3, _, L, rfl, ⟨rfl, N⟩, hq⟩ := rm0 l s _ hw tables_1 i0 i1 i2 i3 i4 r_AFTER r_BEFORE_AND_AFTER s.heap s.heap.size (Nat.le_refl _) S_AFTER S_BEFORE_AND_AFTER hne p e ha hc hk s m _ below hf ((Spec.applies_iff_loose hf).mp happ).1 ⟨rfl, State.Warmed39.refl s, rfl⟩ trivial
  refine ⟨n, _, h1, h2, h3, hpost _ _ _ _ _ _ ⟨Cond.after_iff.mpr rfl, Cond.after_iff.mpr (eq_i res_at (Term.int_eval (1)) rfl), trivial⟩ ⟨hq.1, hq.2.1, (hq.2.2.sift fun y hy => Or.inr (N y hy)).mono (by decide) (by decide)⟩⟩
theorem main_1_1 : Claimed_1_1 := comes_1 fun _ _ _ _ _ _ h hF => ⟨h.1, hF⟩
theorem main_1_2 : Claimed_1_2 := comes_1 fun _ _ _ _ _ _ h hF => ⟨h.2.1, hF⟩
end Jvm.Pilot.@@N@@
namespace Jvm.Pilot.@@N@@
open Jvm Jvm.ClassFile Sem Op Lib Jvm.Free Jvm.Stand Jvm.Pilot.@@N@@.Jvm.D
/-! MADE BY PROGRAM (witnessworld.py) out of the Statement's table words and the real class files: 13 classes; the members and pool entries that the words name. The judged class is class 1, her method 1. -/
namespace start1
open Jvm.ClassFile
def u (s : String) : CpInfo := .utf8 (stringToUtf16 s)
/-- a pool by its gaps: so many unusable entries, then the entry; so many at the end -/
def gap : Nat → List CpInfo → List CpInfo
  | 0, r => r
  | n + 1, r => .unusable :: gap n r
def poolList (es : List (Nat × CpInfo)) (last : Nat) : List CpInfo := es.foldr (fun e r => gap e.1 (e.2 :: r)) (gap last [])
def pool (es : List (Nat × CpInfo)) (last : Nat) : Array CpInfo := ⟨poolList es last⟩
def fileOf (pool : Array CpInfo) (this : Nat) (attrs : Array Attribute := #[]) (ms : Array MethodInfo := #[]) (fl : Nat := 33) (sup : Nat := 0) (ifs : Array Nat := #[]) (fds : Array FieldInfo := #[]) : ClassFile where
  minorVersion := 0
  majorVersion := 65
  constantPool := pool
  accessFlags := fl
  thisClass := this
  superClass := sup
  interfaces := ifs
  fields := fds
  methods := ms
  attributes := attrs
def plain (name : String) (sup : Option ClassId) : Class where
  name := name
  kind := .ordinary
  loader := none
  accessFlags := 33
  super := sup
  interfaces := #[]
  cf := none
  fields := #[]
  methods := #[]
  instanceTypes := #[]
  staticTypes := #[]
  resolved := #[]
  callSites := []
  init := .initialized
  statics := none
  mirror := none

def pool0 : Array CpInfo := pool [(5, u "<init>"), (0, u "()V"), (1, .class_ 10), (1, u "java/lang/Object")] 113

def k0m0 : Method := { name := "<init>", desc := "()V", sig := { parameters := [], returnType := none }, accessFlags := 1, code := none }
/-- java/lang/Object -/
def k0 : Class := { plain "java/lang/Object" none with
  accessFlags := 33
  interfaces := #[]
  cf := some (fileOf pool0 8 #[] #[{ accessFlags := 1, nameIndex := 5, descriptorIndex := 6, attributes := #[] }] 33 0 #[] #[])
  fields := #[]
  methods := #[k0m0]
  instanceTypes := #[]
  staticTypes := #[]
  resolved := Array.replicate 124 none
  statics := none }

def pool1 : Array CpInfo := pool [(2, .class_ 4), (1, u "java/lang/Object"), (0, u "<init>"), (0, u "()V"), (0, .fieldref 8 9), (0, .class_ 10), (0, .nameAndType 11 12), (0, u "com/example/skipstone/skipstone/index/NextWordSides"), (0, u "AFTER"), (0, u "Lcom/example/skipstone/skipstone/index/NextWordSides;"), (0, .fieldref 8 14), (0, .nameAndType 15 12), (0, u "BEFORE_AND_AFTER"), (0, .methodref 17 18), (0, .class_ 19), (0, .nameAndType 20 21), (0, u "com/example/skipstone/skipstone/index/PositionsEncoding"), (0, u "kinds"), (0, u "(ILcom/example/skipstone/skipstone/index/NextWordSides;)I"), (0, .integer 2147483647), (0, .methodref 17 24), (0, .nameAndType 25 26), (0, u "kindsBeside"), (0, u "(IIII)I"), (0, .class_ 28), (0, u "com/example/skipstone/skipstone/index/PositionsEncodingKindsBesidePinLaw"), (2, u "law"), (0, u "(IIIII)Z")] 3

def k1m0 : Method := { name := "<init>", desc := "()V", sig := { parameters := [], returnType := none }, accessFlags := 2, code := none }
def k1c1 : Code := { maxStack := 4, maxLocals := 18, code := code, exceptionTable := #[], attributes := #[] }
def k1m1 : Method := { name := "law", desc := "(IIIII)Z", sig := { parameters := [.int, .int, .int, .int, .int], returnType := some .boolean }, accessFlags := 9, code := some k1c1 }
/-- com/example/skipstone/skipstone/index/PositionsEncodingKindsBesidePinLaw -/
def k1 : Class := { plain "com/example/skipstone/skipstone/index/PositionsEncodingKindsBesidePinLaw" (some 0) with
  accessFlags := 49
  interfaces := #[]
  cf := some (fileOf pool1 27 #[] #[{ accessFlags := 2, nameIndex := 5, descriptorIndex := 6, attributes := #[] }, { accessFlags := 9, nameIndex := 31, descriptorIndex := 32, attributes := #[] }] 49 2 #[] #[])
  fields := #[]
  methods := #[k1m0, k1m1]
  instanceTypes := #[]
  staticTypes := #[]
  resolved := Array.replicate 36 none
  statics := none }

def pool2 : Array CpInfo := pool [(1, .class_ 2), (0, u "java/lang/constant/Constable"), (0, .class_ 4), (0, u "java/lang/Object")] 6

/-- java/lang/constant/Constable -/
def k2 : Class := { plain "java/lang/constant/Constable" (some 0) with
  accessFlags := 1537
  interfaces := #[]
  cf := some (fileOf pool2 1 #[] #[] 1537 3 #[] #[])
  fields := #[]
  methods := #[]
  instanceTypes := #[]
  staticTypes := #[]
  resolved := Array.replicate 11 none
  statics := none }

def pool3 : Array CpInfo := pool [(1, .class_ 2), (0, u "java/lang/Comparable"), (0, .class_ 4), (0, u "java/lang/Object")] 7

/-- java/lang/Comparable -/
def k3 : Class := { plain "java/lang/Comparable" (some 0) with
  accessFlags := 1537
  interfaces := #[]
  cf := some (fileOf pool3 1 #[] #[] 1537 3 #[] #[])
  fields := #[]
  methods := #[]
  instanceTypes := #[]
  staticTypes := #[]
  resolved := Array.replicate 12 none
  statics := none }

def pool4 : Array CpInfo := pool [(1, .class_ 2), (0, u "java/io/Serializable"), (0, .class_ 4), (0, u "java/lang/Object")] 2

/-- java/io/Serializable -/
def k4 : Class := { plain "java/io/Serializable" (some 0) with
  accessFlags := 1537
  interfaces := #[]
  cf := some (fileOf pool4 1 #[] #[] 1537 3 #[] #[])
  fields := #[]
  methods := #[]
  instanceTypes := #[]
  staticTypes := #[]
  resolved := Array.replicate 7 none
  statics := none }

def pool5 : Array CpInfo := pool [(2, .class_ 4), (1, u "java/lang/Enum"), (0, u "name"), (0, u "Ljava/lang/String;"), (2, u "ordinal"), (0, u "I"), (1, .class_ 14), (1, u "java/lang/Object"), (4, u "hash"), (86, .class_ 108), (1, u "java/lang/Enum$EnumDesc"), (2, .class_ 112), (0, u "java/lang/constant/Constable"), (0, .class_ 114), (0, u "java/lang/Comparable"), (0, .class_ 116), (0, u "java/io/Serializable")] 87

/-- java/lang/Enum -/
def k5 : Class := { plain "java/lang/Enum" (some 0) with
  accessFlags := 1057
  interfaces := #[2, 3, 4]
  cf := some (fileOf pool5 2 #[.nestMembers #[106]] #[] 1057 12 #[111, 113, 115] #[{ accessFlags := 18, nameIndex := 5, descriptorIndex := 6, attributes := #[] }, { accessFlags := 18, nameIndex := 9, descriptorIndex := 10, attributes := #[] }, { accessFlags := 2, nameIndex := 19, descriptorIndex := 10, attributes := #[] }])
  fields := #[{ name := "name", type := (.object "java/lang/String"), accessFlags := 18, slot := 0, constantValue := 0 }, { name := "ordinal", type := .int, accessFlags := 18, slot := 1, constantValue := 0 }, { name := "hash", type := .int, accessFlags := 2, slot := 2, constantValue := 0 }]
  methods := #[]
  instanceTypes := #[(.object "java/lang/String"), .int, .int]
  staticTypes := #[]
  resolved := Array.replicate 204 none
  statics := none }

def pool6 : Array CpInfo := pool [(1, .class_ 2), (0, u "com/example/skipstone/skipstone/index/NextWordSides"), (2, u "AFTER"), (0, u "Lcom/example/skipstone/skipstone/index/NextWordSides;"), (2, u "BEFORE_AND_AFTER"), (2, u "$VALUES"), (0, u "[Lcom/example/skipstone/skipstone/index/NextWordSides;"), (6, .class_ 22), (1, u "java/lang/Enum")] 24

/-- com/example/skipstone/skipstone/index/NextWordSides -/
def k6 : Class := { plain "com/example/skipstone/skipstone/index/NextWordSides" (some 5) with
  accessFlags := 16433
  interfaces := #[]
  cf := some (fileOf pool6 1 #[] #[] 16433 20 #[] #[{ accessFlags := 16409, nameIndex := 5, descriptorIndex := 6, attributes := #[] }, { accessFlags := 16409, nameIndex := 9, descriptorIndex := 6, attributes := #[] }, { accessFlags := 4122, nameIndex := 12, descriptorIndex := 13, attributes := #[] }])
  fields := #[{ name := "AFTER", type := (.object "com/example/skipstone/skipstone/index/NextWordSides"), accessFlags := 16409, slot := 0, constantValue := 0 }, { name := "BEFORE_AND_AFTER", type := (.object "com/example/skipstone/skipstone/index/NextWordSides"), accessFlags := 16409, slot := 1, constantValue := 0 }, { name := "$VALUES", type := (.array (.object "com/example/skipstone/skipstone/index/NextWordSides")), accessFlags := 4122, slot := 2, constantValue := 0 }]
  methods := #[]
  instanceTypes := #[(.object "java/lang/String"), .int, .int]
  staticTypes := #[(.object "com/example/skipstone/skipstone/index/NextWordSides"), (.object "com/example/skipstone/skipstone/index/NextWordSides"), (.array (.object "com/example/skipstone/skipstone/index/NextWordSides"))]
  resolved := Array.replicate 47 none
  statics := some 0 }

def pool7 : Array CpInfo := pool [(1, .class_ 2), (0, u "com/example/skipstone/skipstone/index/PositionsEncoding"), (3, .class_ 8), (1, u "java/lang/Object"), (0, u "<init>"), (0, u "()V"), (8, .fieldref 20 21), (0, .class_ 22), (0, .nameAndType 23 24), (0, u "com/example/skipstone/skipstone/index/NextWordSides"), (0, u "AFTER"), (0, u "Lcom/example/skipstone/skipstone/index/NextWordSides;"), (39, u "MOST_NEXT_WORDS"), (0, u "I"), (2, u "LAST"), (1, u "NEXT_BITS"), (1, u "FIRST_POSITION_BITS"), (1, u "LATER_POSITION_BITS"), (0, u "CHOSEN_CODES"), (1, u "LOW_BITS_WIDTH"), (0, u "MOST_LOW_BITS"), (1, u "MOST_QUOTIENT"), (1, u "RICE"), (1, u "CODE_BITS"), (16, u "kinds"), (0, u "(ILcom/example/skipstone/skipstone/index/NextWordSides;)I"), (1, u "kindsBeside"), (0, u "(IIII)I"), (17, .class_ 124), (0, u "com/example/skipstone/skipstone/index/PositionsEncoding$Neighboured"), (0, .class_ 126), (0, u "com/example/skipstone/skipstone/index/PositionsEncoding$Walk"), (0, .class_ 128), (0, u "com/example/skipstone/skipstone/index/PositionsEncoding$CodeCosts"), (0, .class_ 130), (0, u "com/example/skipstone/skipstone/index/PositionsEncoding$Writer"), (0, .class_ 132), (0, u "com/example/skipstone/skipstone/index/PositionsEncoding$PositionNumbers")] 6

def k7m0 : Method := { name := "<init>", desc := "()V", sig := { parameters := [], returnType := none }, accessFlags := 2, code := none }
def k7c1 : Code := { maxStack := 3, maxLocals := 2, code := prog_113_method_13_code, exceptionTable := #[], attributes := #[] }
def k7m1 : Method := { name := "kinds", desc := "(ILcom/example/skipstone/skipstone/index/NextWordSides;)I", sig := { parameters := [.int, (.object "com/example/skipstone/skipstone/index/NextWordSides")], returnType := some .int }, accessFlags := 8, code := some k7c1 }
def k7c2 : Code := { maxStack := 3, maxLocals := 7, code := prog_113_method_15_code, exceptionTable := #[], attributes := #[] }
def k7m2 : Method := { name := "kindsBeside", desc := "(IIII)I", sig := { parameters := [.int, .int, .int, .int], returnType := some .int }, accessFlags := 8, code := some k7c2 }
/-- com/example/skipstone/skipstone/index/PositionsEncoding -/
def k7 : Class := { plain "com/example/skipstone/skipstone/index/PositionsEncoding" (some 0) with
  accessFlags := 48
  interfaces := #[]
  cf := some (fileOf pool7 1 #[.nestMembers #[123, 125, 127, 129, 131]] #[{ accessFlags := 2, nameIndex := 9, descriptorIndex := 10, attributes := #[] }, { accessFlags := 8, nameIndex := 101, descriptorIndex := 102, attributes := #[] }, { accessFlags := 8, nameIndex := 104, descriptorIndex := 105, attributes := #[] }] 48 6 #[] #[{ accessFlags := 24, nameIndex := 64, descriptorIndex := 65, attributes := #[] }, { accessFlags := 26, nameIndex := 68, descriptorIndex := 65, attributes := #[] }, { accessFlags := 26, nameIndex := 70, descriptorIndex := 65, attributes := #[] }, { accessFlags := 26, nameIndex := 72, descriptorIndex := 65, attributes := #[] }, { accessFlags := 26, nameIndex := 74, descriptorIndex := 65, attributes := #[] }, { accessFlags := 26, nameIndex := 75, descriptorIndex := 65, attributes := #[] }, { accessFlags := 26, nameIndex := 77, descriptorIndex := 65, attributes := #[] }, { accessFlags := 26, nameIndex := 78, descriptorIndex := 65, attributes := #[] }, { accessFlags := 26, nameIndex := 80, descriptorIndex := 65, attributes := #[] }, { accessFlags := 26, nameIndex := 82, descriptorIndex := 65, attributes := #[] }, { accessFlags := 26, nameIndex := 84, descriptorIndex := 65, attributes := #[] }])
  fields := #[{ name := "MOST_NEXT_WORDS", type := .int, accessFlags := 24, slot := 0, constantValue := 0 }, { name := "LAST", type := .int, accessFlags := 26, slot := 1, constantValue := 0 }, { name := "NEXT_BITS", type := .int, accessFlags := 26, slot := 2, constantValue := 0 }, { name := "FIRST_POSITION_BITS", type := .int, accessFlags := 26, slot := 3, constantValue := 0 }, { name := "LATER_POSITION_BITS", type := .int, accessFlags := 26, slot := 4, constantValue := 0 }, { name := "CHOSEN_CODES", type := .int, accessFlags := 26, slot := 5, constantValue := 0 }, { name := "LOW_BITS_WIDTH", type := .int, accessFlags := 26, slot := 6, constantValue := 0 }, { name := "MOST_LOW_BITS", type := .int, accessFlags := 26, slot := 7, constantValue := 0 }, { name := "MOST_QUOTIENT", type := .int, accessFlags := 26, slot := 8, constantValue := 0 }, { name := "RICE", type := .int, accessFlags := 26, slot := 9, constantValue := 0 }, { name := "CODE_BITS", type := .int, accessFlags := 26, slot := 10, constantValue := 0 }]
  methods := #[k7m0, k7m1, k7m2]
  instanceTypes := #[]
  staticTypes := #[.int, .int, .int, .int, .int, .int, .int, .int, .int, .int, .int]
  resolved := Array.replicate 139 none
  statics := none }

def pool8 : Array CpInfo := pool [(1, u "java/lang/Cloneable"), (0, .class_ 1), (0, u "java/lang/Object"), (0, .class_ 3)] 3

/-- java/lang/Cloneable -/
def k8 : Class := { plain "java/lang/Cloneable" (some 0) with
  accessFlags := 1537
  interfaces := #[]
  cf := some (fileOf pool8 2 #[] #[] 1537 4 #[] #[])
  fields := #[]
  methods := #[]
  instanceTypes := #[]
  staticTypes := #[]
  resolved := Array.replicate 8 none
  statics := none }

/-- the primitive byte -/
def k9 : Class := { plain "byte" none with kind := .primitive 'B', accessFlags := 0x411 }
/-- [B -/
def k10 : Class := { plain "[B" (some 0) with kind := .array 9 .byte, interfaces := #[8, 4], accessFlags := 1041 }

/-- the primitive int -/
def k11 : Class := { plain "int" none with kind := .primitive 'I', accessFlags := 0x411 }
/-- [I -/
def k12 : Class := { plain "[I" (some 0) with kind := .array 11 .int, interfaces := #[8, 4], accessFlags := 1041 }

def heap : Heap := #[{ cls := 6, slots := #[.ref 1, .ref 2, .null], vm := .statics 6 },
  { cls := 6, slots := #[.null, .int 0, .int 0], vm := .none },
  { cls := 6, slots := #[.null, .int 1, .int 0], vm := .none }]
def classes : Array Class := #[k0, k1, k2, k3, k4, k5, k6, k7, k8, k9, k10, k11, k12]
def interned : List (Array UInt16 × Addr) := []
def slotsUsed : Nat := 9
def theMethod : MethodId := ⟨1, 1⟩
def args0 : Array Value := #[.int 5, .int 300, .int 7, .int 8, .int 9]
def aboutOver (below : List Frame) : State where
  vm := { classes := classes, interned := interned.toArray }
  heap := heap
  slotsUsed := slotsUsed
  threads := #[{ frames := .invoking theMethod args0 :: below }]
def below0 : List Frame := [.native { method := ⟨0, 0⟩, args := #[] }]
def about1 : State := aboutOver below0
def p0 : Program := .bare "" "" ""
def e0 : Env := launch0.env 0 0 0
theorem w_frames : about1.frames = Frame.invoking theMethod args0 :: below0 := rfl
set_option maxRecDepth 65536 in
theorem w_args : argsFit about1.vm theMethod args0 = true := by decide +kernel
set_option maxRecDepth 65536 in
theorem w_heap : heapFits about1 = true := by decide +kernel
set_option maxRecDepth 65536 in
theorem w_runnable : about1.curStatus? = some .runnable := by decide +kernel
set_option maxRecDepth 65536 in
theorem w_alone : about1.alone = true := by decide +kernel
set_option maxRecDepth 65536 in
theorem w_named : about1.methodNamed? x = some theMethod := by decide +kernel
set_option maxRecDepth 65536 in
theorem w_hears : about1.hears theMethod below0 = true := by decide +kernel
set_option maxRecDepth 65536 in
theorem w_ripe : about1.ripe theMethod args0 below0 = true := by decide +kernel
theorem w_running : about1.status = .running := rfl
set_option maxRecDepth 65536 in
theorem w_room : about1.hasRoom e0.platform room_1 = true :=
  launch0.hasRoom_least _ room_1 (by decide +kernel) (by decide +kernel) (by decide +kernel) (by decide +kernel) (by decide +kernel) (by decide +kernel)
theorem allAtoms_all (ts : List Jvm.Cond) (a : Array Jvm.Value) (st : Jvm.State) : (allAtoms ts).before a st = ts.all (fun c => c.before a st) := by
  induction ts with
  | nil => rfl
  | cons c t ih =>
    show (Jvm.Cond.and c (allAtoms t)).before a st = _
    rw [Jvm.Cond.before_and, ih, List.all_cons]
def words1 : List Jvm.Cond := Jvm.Cond.code x code maxLocals ret :: tables_1
/-- a 'code' word, met by the world's own term for the bytes: nothing is compared byte by byte -/
theorem code_word {y : MethodName} {bytes : ByteArray} {mx : Nat} {rt : Option FieldType} {a : Array Value} {s : State} {m : MethodId} {meth : Method} {c : Code} (h1 : s.methodNamed? y = some m) (h2 : s.vm.method? m = some meth) (h3 : meth.code = some c) (h4 : c.code = bytes)
    (h5 : (c.maxLocals == mx && c.exceptionTable.isEmpty && decide (c.maxStack ≤ mostOperands) && decide (meth.sig.returnType = rt) && !meth.locks && decide (parseMethodDescriptor y.desc = some meth.sig)) = true) : (Jvm.Cond.code y bytes mx rt).before a s = true := by
  simp only [Bool.and_eq_true, beq_iff_eq, Bool.not_eq_true', decide_eq_true_eq] at h5
  obtain ⟨⟨⟨⟨⟨g1, g2⟩, g3⟩, g4⟩, g5⟩, g6⟩ := h5
  simp [Cond.before, Cond.holds, Cond.value, h1, h2, h3, h4, g1, g2, g3, g4, g5, g6]
def isCode : Jvm.Cond → Bool
  | .code _ _ _ _ => true
  | _ => false
theorem all_split {L : List Jvm.Cond} {P : Jvm.Cond → Bool} (h1 : L.all (fun c => isCode c || P c) = true) (h2 : ∀ c ∈ L.filter isCode, P c = true) : L.all P = true := by
  refine List.all_eq_true.mpr fun c hc => ?_
  have h := List.all_eq_true.mp h1 c hc
  rcases Bool.eq_false_or_eq_true (isCode c) with hi | hi
  · exact h2 c (List.mem_filter.mpr ⟨hc, hi⟩)
  · simpa [hi] using h
set_option maxRecDepth 65536 in
theorem w_c0 : (Jvm.Cond.code x code maxLocals ret).before args0 about1 = true := code_word (m := ⟨1, 1⟩) (meth := k1m1) (c := k1c1) (by decide +kernel) rfl rfl rfl (by decide +kernel)
set_option maxRecDepth 65536 in
theorem w_c1 : (Jvm.Cond.code ({ cls := "com/example/skipstone/skipstone/index/PositionsEncoding", name := "kinds", desc := "(ILcom/example/skipstone/skipstone/index/NextWordSides;)I" } : Jvm.MethodName) prog_113_method_13_code (2 : Nat) (Option.some Jvm.ClassFile.FieldType.int)).before args0 about1 = true := code_word (m := ⟨7, 1⟩) (meth := k7m1) (c := k7c1) (by decide +kernel) rfl rfl rfl (by decide +kernel)
set_option maxRecDepth 65536 in
theorem w_c2 : (Jvm.Cond.code ({ cls := "com/example/skipstone/skipstone/index/PositionsEncoding", name := "kindsBeside", desc := "(IIII)I" } : Jvm.MethodName) prog_113_method_15_code (7 : Nat) (Option.some Jvm.ClassFile.FieldType.int)).before args0 about1 = true := code_word (m := ⟨7, 2⟩) (meth := k7m2) (c := k7c2) (by decide +kernel) rfl rfl rfl (by decide +kernel)
def codes1 : List Jvm.Cond := [Jvm.Cond.code x code maxLocals ret, Jvm.Cond.code ({ cls := "com/example/skipstone/skipstone/index/PositionsEncoding", name := "kinds", desc := "(ILcom/example/skipstone/skipstone/index/NextWordSides;)I" } : Jvm.MethodName) prog_113_method_13_code (2 : Nat) (Option.some Jvm.ClassFile.FieldType.int), Jvm.Cond.code ({ cls := "com/example/skipstone/skipstone/index/PositionsEncoding", name := "kindsBeside", desc := "(IIII)I" } : Jvm.MethodName) prog_113_method_15_code (7 : Nat) (Option.some Jvm.ClassFile.FieldType.int)]
set_option maxRecDepth 65536 in
theorem codes_eq : words1.filter isCode = codes1 := rfl
theorem w_codes : ∀ c ∈ words1.filter isCode, c.before args0 about1 = true := by
  rw [codes_eq]
  intro c hc
  simp only [codes1, List.mem_cons, List.not_mem_nil, or_false] at hc
  rcases hc with rfl | rfl | rfl
  · exact w_c0
  · exact w_c1
  · exact w_c2
set_option maxRecDepth 65536 in
theorem w_t1 : words1.all (fun c => isCode c || c.before args0 about1) = true := by decide +kernel
theorem w_tables : (allAtoms (Jvm.Cond.code x code maxLocals ret :: tables_1)).before args0 about1 = true := by
  rw [allAtoms_all]
  show words1.all (fun c => c.before args0 about1) = true
  refine all_split ?_ w_codes
  rw [w_t1]
set_option maxRecDepth 65536 in
theorem w_case : (Jvm.Cond.and given_1 narrow_1).before args0 about1 = true := by decide +kernel
theorem w_applies : (headSpec (Jvm.Cond.code x code maxLocals ret :: tables_1) room_1).applies x e0.platform about1 = true :=
  (Spec.applies_iff w_frames).mpr ⟨w_running, w_runnable, w_alone, w_named, w_hears, w_ripe, w_room, w_tables⟩
theorem atStart : AtStart classFile x code maxLocals ret World_1 tables_1 room_1 Calls_1 rest_1 Pre_1 launch0 p0 e0 about1 theMethod args0 below0 :=
  ⟨lists_1, trivial, launch0.admits_env _ _ _, launch0.least_env, fairChoices_fair.cas, fairChoices_fair.clock, w_frames, w_args, w_heap, w_applies, trivial, trivial, w_case⟩
end start1
theorem witness_1 : WitnessClaimed_1 := ⟨start1.p0, start1.e0, start1.about1, start1.theMethod, start1.args0, start1.below0, start1.atStart⟩
end Jvm.Pilot.@@N@@
