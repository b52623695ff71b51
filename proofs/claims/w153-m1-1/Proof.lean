import JvmDerived
import JvmDerived.Pilot.@@N@@Statement
import JvmDerived.Pilot.@@N@@Code
set_option linter.unusedVariables false
set_option linter.unusedSimpArgs false
namespace Jvm.RoadKit
open Sem ClassFile Op Lib Jvm.Stand Jvm.Free Jvm.LawKit
section New
variable {p : Program} {l : Launch} {e : Env} {R : Room} {s : State} {m : MethodId} {args : Array Value} {below : List Frame} {meth : Method} {c : Code} {T : State} {locs : List Loc} {cells slots : Nat}
theorem retI (X : Stand p l e R s m args below meth c T locs cells slots) (hx : p.tables.exec = Jvm.exec) {pc : Nat} {Ls : Array Slot} {z : Int32} {rest : List Value} (hret : meth.sig.returnType = some .int) (hd : decode c.code pc = .ok (.ireturn, 1)) {fs : List Frame}
    (hl : ∀ (f : JFrame) (acts : List Action), f.method = m → f.locked = none → f.entered = [] → (doReturn e (T.setTop f) acts (some (.int z))).1 = T.setFrames fs) : Steps p.tables e below (T.setTop (mkF m pc Ls (.int z :: rest))) (T.setFrames fs) := by
  have hm' : T.vm.method? m = some meth := X.method'
  have hn : narrow .int (.int z) = .int z := rfl
  show Steps p.tables e below (T.setTop { method := m, pc := pc, locals := Ls, stack := _ :: rest, locked := none }) _
  jvm_step X.here [X.here.top, hx, hd, hm', hret, hn]
  first | (intro acts; rw [hl _ acts rfl rfl rfl]) | rw [hl _ _ rfl rfl rfl]
  exact Steps.refl _
end New
section OwnKit
/-- where the walk of a body stands: the body's own facts, the heap, and that nothing old was written -/
def OS (B : ByteArray) (mL : Nat) (own nm : String) (rt : Option FieldType) (Z : State) (n0 : Nat) (p : Program) (l : Launch) (e : Env) (R : Room) (s : State) (m : MethodId) (args : Array Value) (below : List Frame) (meth : Method) (c : Code) (T : State) (h : Heap) (cells slots : Nat) : Prop :=
  (p.tables.exec = Jvm.exec ∧ c.code = B ∧ c.maxLocals = mL ∧ s.vm.findClass own = some m.cls ∧ meth.name = nm ∧ meth.sig.returnType = rt ∧ meth.locks = false ∧ Z.Warmed39 s.vm) ∧ T.heap = h ∧ ∃ locs, Fr n0 locs ∧ Stand p l e R s m args below meth c T locs cells slots
/-- from here the body comes to its end, with what Q says -/
def OG (p : Program) (e : Env) (below : List Frame) (s : State) (n0 rc rs : Nat) (Q : Option Value → Heap → Prop) (A : State) : Prop :=
  ∃ s₂ o, Steps p.tables e below A s₂ ∧ s₂.status = .running ∧ Ended s₂ below o ∧ ∃ v L, o = .returned v ∧ (Q v s₂.heap ∧ Fr n0 L) ∧ FrameEnd s o s₂ L rc rs
/-- a body's contract -/
def OM (l : Launch) (y : MethodName) (B : ByteArray) (mL : Nat) (rt : Option FieldType) (rm : Room) (ws : List Cond) (Z : State) (as' : Array Value) (h0 : Heap) (n0 : Nat) (Q : Option Value → Heap → Prop) : Prop :=
  MetFree l y (head1 (Cond.code y B mL rt :: ws) rm) (fun a U => a = as' ∧ Z.Warmed39 U.vm ∧ U.heap = h0) (fun _ _ _ _ _ => True) (fun _ U o U' => ∃ v L, o = .returned v ∧ (Q v U'.heap ∧ Fr n0 L) ∧ FrameEnd U o U' L rm.cells rm.slots)
variable {p : Program} {l : Launch} {e : Env} {R : Room} {s : State} {m : MethodId} {args : Array Value} {below : List Frame} {meth : Method} {c : Code} {T : State} {cells slots : Nat} {Z : State} {h : Heap} {n0 : Nat} {B : ByteArray} {mL : Nat} {own nm : String} {rt : Option FieldType} {rc rs : Nat} {Q : Option Value → Heap → Prop} {pc : Nat} {Ls : Array Slot} {st : List Value} {a0 : Array Value}
theorem OG.pre {A A' : State} (h : ∀ t, Steps p.tables e below A' t → Steps p.tables e below A t) (k : OG p e below s n0 rc rs Q A') : OG p e below s n0 rc rs Q A := by
  obtain ⟨s₂, o, h1, r⟩ := k; exact ⟨s₂, o, h _ h1, r⟩
theorem OM.of {y : MethodName} {rm : Room} {ws : List Cond} {as' : Array Value} {h0 : Heap} (hp : plainFor y = true) (hef : ∀ m, entryFrame m as' mL = mkF m 0 Ls []) (body : ∀ p e s m below meth c T, OS B mL y.cls y.name rt Z n0 p l e rm s m as' below meth c T h0 0 0 → OG p e below s n0 rm.cells rm.slots Q (T.setTop (mkF m 0 Ls []))) : OM l y B mL rt rm ws Z as' h0 n0 Q := by
  refine MetFree.of_bodySF hp hisR ?_
  intro p e s m args below meth c s₁ Bd hml0 hP hK
  obtain ⟨rfl, hZ, hh⟩ := hP
  have X0 : Stand p l e rm s m args below meth c s₁ [] 0 0 := Stand.of_body Bd
  have e0 : s₁.heap = h0 := by rw [← hh, Bd.state]; rfl
  have q := body p e s m below meth c s₁ ⟨⟨Bd.exec, Bd.bytes, hml0, findClass_of_methodNamed Bd.named, (name_of_methodNamed Bd.named Bd.method).1, Bd.returns, BodyLoose.notSynchronized Bd, hZ⟩, e0, [], Fr.nil n0, X0⟩
  rw [hef]; exact q
theorem OM.weak {y : MethodName} {rm : Room} {ws : List Cond} {as' : Array Value} {h0 : Heap} {Q' : Option Value → Heap → Prop} (hM : OM l y B mL rt rm ws Z as' h0 n0 Q) (hq : ∀ v h, Q v h → Q' v h) : OM l y B mL rt rm ws Z as' h0 n0 Q' := by
  intro p e ha hc hk s m args below hf happ hP hK
  obtain ⟨n, o, h1, h2, h3, v, L, h4, h5, h6⟩ := hM p e ha hc hk s m args below hf happ hP hK
  exact ⟨n, o, h1, h2, h3, v, L, h4, ⟨hq _ _ h5.1, h5.2⟩, h6⟩
theorem OS.heap (X : OS B mL own nm rt Z n0 p l e R s m args below meth c T h cells slots) : T.heap = h := X.2.1
theorem OS.warm (X : OS B mL own nm rt Z n0 p l e R s m args below meth c T h cells slots) : Z.Warmed39 s.vm := X.1.2.2.2.2.2.2.2
theorem OS.more {k n : Nat} (X : OS B mL own nm rt Z n0 p l e R s m args below meth c T h cells slots) (h1 : cells ≤ k) (h2 : slots ≤ n) : OS B mL own nm rt Z n0 p l e R s m args below meth c T h k n := by
  obtain ⟨h0, e1, locs, N, Y⟩ := X
  exact ⟨h0, e1, locs, N, { Y with same := Y.same.mono h1 h2 }⟩

theorem OG.iload (X : OS B mL own nm rt Z n0 p l e R s m args below meth c T h cells slots) {k : Nat} {v : Int32} (hd : decode B pc = .ok (.iload k, 2)) (hl : Ls[k]? = some (.val (.int v))) (g : OG p e below s n0 rc rs Q (T.setTop (mkF m (pc + 2) Ls (.int v :: st)))) : OG p e below s n0 rc rs Q (T.setTop (mkF m pc Ls st)) := by
  obtain ⟨⟨hx, hby, -⟩, -, locs, -, Y⟩ := X
  exact OG.pre (fun _ k => XS.iload Y.here hx rfl (hb hby hd) hl k) g
theorem OG.iloadN (X : OS B mL own nm rt Z n0 p l e R s m args below meth c T h cells slots) {k : Fin 4} {v : Int32} (hd : decode B pc = .ok (.iload_n k, 1)) (hl : Ls[k.val]? = some (.val (.int v))) (g : OG p e below s n0 rc rs Q (T.setTop (mkF m (pc + 1) Ls (.int v :: st)))) : OG p e below s n0 rc rs Q (T.setTop (mkF m pc Ls st)) := by
  obtain ⟨⟨hx, hby, -⟩, -, locs, -, Y⟩ := X
  exact OG.pre (fun _ k => XS.iloadN Y.here hx rfl (hb hby hd) hl k) g
theorem OG.lload (X : OS B mL own nm rt Z n0 p l e R s m args below meth c T h cells slots) {k : Nat} {v : Int64} (hd : decode B pc = .ok (.lload k, 2)) (hl : Ls[k]? = some (.val (.long v))) (g : OG p e below s n0 rc rs Q (T.setTop (mkF m (pc + 2) Ls (.long v :: st)))) : OG p e below s n0 rc rs Q (T.setTop (mkF m pc Ls st)) := by
  obtain ⟨⟨hx, hby, -⟩, -, locs, -, Y⟩ := X
  exact OG.pre (fun _ k => XS.lload Y.here hx rfl (hb hby hd) hl k) g
theorem OG.lloadN (X : OS B mL own nm rt Z n0 p l e R s m args below meth c T h cells slots) {k : Fin 4} {v : Int64} (hd : decode B pc = .ok (.lload_n k, 1)) (hl : Ls[k.val]? = some (.val (.long v))) (g : OG p e below s n0 rc rs Q (T.setTop (mkF m (pc + 1) Ls (.long v :: st)))) : OG p e below s n0 rc rs Q (T.setTop (mkF m pc Ls st)) := by
  obtain ⟨⟨hx, hby, -⟩, -, locs, -, Y⟩ := X
  exact OG.pre (fun _ k => XS.lloadN Y.here hx rfl (hb hby hd) hl k) g
theorem OG.aload (X : OS B mL own nm rt Z n0 p l e R s m args below meth c T h cells slots) {k : Nat} {v : Value} (hd : decode B pc = .ok (.aload k, 2)) (hl : Ls[k]? = some (.val v)) (hv : v.isRef = true) (g : OG p e below s n0 rc rs Q (T.setTop (mkF m (pc + 2) Ls (v :: st)))) : OG p e below s n0 rc rs Q (T.setTop (mkF m pc Ls st)) := by
  obtain ⟨⟨hx, hby, -⟩, -, locs, -, Y⟩ := X
  exact OG.pre (fun _ k => XS.aload Y.here hx rfl (hb hby hd) hl hv k) g
theorem OG.aloadN (X : OS B mL own nm rt Z n0 p l e R s m args below meth c T h cells slots) {k : Fin 4} {v : Value} (hd : decode B pc = .ok (.aload_n k, 1)) (hl : Ls[k.val]? = some (.val v)) (hv : v.isRef = true) (g : OG p e below s n0 rc rs Q (T.setTop (mkF m (pc + 1) Ls (v :: st)))) : OG p e below s n0 rc rs Q (T.setTop (mkF m pc Ls st)) := by
  obtain ⟨⟨hx, hby, -⟩, -, locs, -, Y⟩ := X
  exact OG.pre (fun _ k => XS.aloadN Y.here hx rfl (hb hby hd) hl hv k) g
theorem OG.istore (X : OS B mL own nm rt Z n0 p l e R s m args below meth c T h cells slots) {k : Nat} {v : Int32} {l' : Array Slot} (hd : decode B pc = .ok (.istore k, 2)) (hl : storeLocals Ls k (.int v) = some l') (g : OG p e below s n0 rc rs Q (T.setTop (mkF m (pc + 2) l' st))) : OG p e below s n0 rc rs Q (T.setTop (mkF m pc Ls (.int v :: st))) := by
  obtain ⟨⟨hx, hby, -⟩, -, locs, -, Y⟩ := X
  exact OG.pre (fun _ k => XS.istore Y.here hx rfl (hb hby hd) rfl hl k) g
theorem OG.istoreV (X : OS B mL own nm rt Z n0 p l e R s m args below meth c T h cells slots) {k : Nat} {v : Int32} {l' : Int32 → Array Slot} (hd : decode B pc = .ok (.istore k, 2)) (hl : ∀ z, storeLocals Ls k (.int z) = some (l' z)) (g : ∀ z, z = v → OG p e below s n0 rc rs Q (T.setTop (mkF m (pc + 2) (l' z) st))) : OG p e below s n0 rc rs Q (T.setTop (mkF m pc Ls (.int v :: st))) := by
  obtain ⟨⟨hx, hby, -⟩, -, locs, -, Y⟩ := X
  exact OG.pre (fun _ k => XS.istore Y.here hx rfl (hb hby hd) rfl (hl v) k) (g v rfl)
theorem OG.istoreN (X : OS B mL own nm rt Z n0 p l e R s m args below meth c T h cells slots) {k : Fin 4} {v : Int32} {l' : Array Slot} (hd : decode B pc = .ok (.istore_n k, 1)) (hl : storeLocals Ls k.val (.int v) = some l') (g : OG p e below s n0 rc rs Q (T.setTop (mkF m (pc + 1) l' st))) : OG p e below s n0 rc rs Q (T.setTop (mkF m pc Ls (.int v :: st))) := by
  obtain ⟨⟨hx, hby, -⟩, -, locs, -, Y⟩ := X
  exact OG.pre (fun _ k => XS.istoreN Y.here hx rfl (hb hby hd) rfl hl k) g
theorem OG.istoreNV (X : OS B mL own nm rt Z n0 p l e R s m args below meth c T h cells slots) {k : Fin 4} {v : Int32} {l' : Int32 → Array Slot} (hd : decode B pc = .ok (.istore_n k, 1)) (hl : ∀ z, storeLocals Ls k.val (.int z) = some (l' z)) (g : ∀ z, z = v → OG p e below s n0 rc rs Q (T.setTop (mkF m (pc + 1) (l' z) st))) : OG p e below s n0 rc rs Q (T.setTop (mkF m pc Ls (.int v :: st))) := by
  obtain ⟨⟨hx, hby, -⟩, -, locs, -, Y⟩ := X
  exact OG.pre (fun _ k => XS.istoreN Y.here hx rfl (hb hby hd) rfl (hl v) k) (g v rfl)
theorem OG.lstore (X : OS B mL own nm rt Z n0 p l e R s m args below meth c T h cells slots) {k : Nat} {v : Int64} {l' : Array Slot} (hd : decode B pc = .ok (.lstore k, 2)) (hl : storeLocals Ls k (.long v) = some l') (g : OG p e below s n0 rc rs Q (T.setTop (mkF m (pc + 2) l' st))) : OG p e below s n0 rc rs Q (T.setTop (mkF m pc Ls (.long v :: st))) := by
  obtain ⟨⟨hx, hby, -⟩, -, locs, -, Y⟩ := X
  exact OG.pre (fun _ k => XS.lstore Y.here hx rfl (hb hby hd) rfl hl k) g
theorem OG.lstoreV (X : OS B mL own nm rt Z n0 p l e R s m args below meth c T h cells slots) {k : Nat} {v : Int64} {l' : Int64 → Array Slot} (hd : decode B pc = .ok (.lstore k, 2)) (hl : ∀ z, storeLocals Ls k (.long z) = some (l' z)) (g : ∀ z, z = v → OG p e below s n0 rc rs Q (T.setTop (mkF m (pc + 2) (l' z) st))) : OG p e below s n0 rc rs Q (T.setTop (mkF m pc Ls (.long v :: st))) := by
  obtain ⟨⟨hx, hby, -⟩, -, locs, -, Y⟩ := X
  exact OG.pre (fun _ k => XS.lstore Y.here hx rfl (hb hby hd) rfl (hl v) k) (g v rfl)
theorem OG.lstoreN (X : OS B mL own nm rt Z n0 p l e R s m args below meth c T h cells slots) {k : Fin 4} {v : Int64} {l' : Array Slot} (hd : decode B pc = .ok (.lstore_n k, 1)) (hl : storeLocals Ls k.val (.long v) = some l') (g : OG p e below s n0 rc rs Q (T.setTop (mkF m (pc + 1) l' st))) : OG p e below s n0 rc rs Q (T.setTop (mkF m pc Ls (.long v :: st))) := by
  obtain ⟨⟨hx, hby, -⟩, -, locs, -, Y⟩ := X
  exact OG.pre (fun _ k => XS.lstoreN Y.here hx rfl (hb hby hd) rfl hl k) g
theorem OG.lstoreNV (X : OS B mL own nm rt Z n0 p l e R s m args below meth c T h cells slots) {k : Fin 4} {v : Int64} {l' : Int64 → Array Slot} (hd : decode B pc = .ok (.lstore_n k, 1)) (hl : ∀ z, storeLocals Ls k.val (.long z) = some (l' z)) (g : ∀ z, z = v → OG p e below s n0 rc rs Q (T.setTop (mkF m (pc + 1) (l' z) st))) : OG p e below s n0 rc rs Q (T.setTop (mkF m pc Ls (.long v :: st))) := by
  obtain ⟨⟨hx, hby, -⟩, -, locs, -, Y⟩ := X
  exact OG.pre (fun _ k => XS.lstoreN Y.here hx rfl (hb hby hd) rfl (hl v) k) (g v rfl)
theorem OG.astore (X : OS B mL own nm rt Z n0 p l e R s m args below meth c T h cells slots) {k : Nat} {v : Value} {l' : Array Slot} (hd : decode B pc = .ok (.astore k, 2)) (hv : v.isRef = true) (hl : storeLocals Ls k v = some l') (g : OG p e below s n0 rc rs Q (T.setTop (mkF m (pc + 2) l' st))) : OG p e below s n0 rc rs Q (T.setTop (mkF m pc Ls (v :: st))) := by
  obtain ⟨⟨hx, hby, -⟩, -, locs, -, Y⟩ := X
  exact OG.pre (fun _ k => XS.astore Y.here hx rfl (hb hby hd) rfl hv hl k) g
theorem OG.astoreN (X : OS B mL own nm rt Z n0 p l e R s m args below meth c T h cells slots) {k : Fin 4} {v : Value} {l' : Array Slot} (hd : decode B pc = .ok (.astore_n k, 1)) (hv : v.isRef = true) (hl : storeLocals Ls k.val v = some l') (g : OG p e below s n0 rc rs Q (T.setTop (mkF m (pc + 1) l' st))) : OG p e below s n0 rc rs Q (T.setTop (mkF m pc Ls (v :: st))) := by
  obtain ⟨⟨hx, hby, -⟩, -, locs, -, Y⟩ := X
  exact OG.pre (fun _ k => XS.astoreN Y.here hx rfl (hb hby hd) rfl hv hl k) g
theorem OG.iconst (X : OS B mL own nm rt Z n0 p l e R s m args below meth c T h cells slots) {i : Int} {z : Int32} (hd : decode B pc = .ok (.iconst i, 1)) (hz : Int32.ofInt i = z) (g : OG p e below s n0 rc rs Q (T.setTop (mkF m (pc + 1) Ls (.int z :: st)))) : OG p e below s n0 rc rs Q (T.setTop (mkF m pc Ls st)) := by
  obtain ⟨⟨hx, hby, -⟩, -, locs, -, Y⟩ := X
  subst hz
  exact OG.pre (fun _ k => XS.iconst Y.here hx rfl (hb hby hd) k) g
theorem OG.bipush (X : OS B mL own nm rt Z n0 p l e R s m args below meth c T h cells slots) {i : Int} {z : Int32} (hd : decode B pc = .ok (.bipush i, 2)) (hz : (Int8.ofInt i).toInt32 = z) (g : OG p e below s n0 rc rs Q (T.setTop (mkF m (pc + 2) Ls (.int z :: st)))) : OG p e below s n0 rc rs Q (T.setTop (mkF m pc Ls st)) := by
  obtain ⟨⟨hx, hby, -⟩, -, locs, -, Y⟩ := X
  subst hz
  exact OG.pre (fun _ k => XS.bipush Y.here hx rfl (hb hby hd) k) g
theorem OG.sipush (X : OS B mL own nm rt Z n0 p l e R s m args below meth c T h cells slots) {i : Int} {z : Int32} (hd : decode B pc = .ok (.sipush i, 3)) (hz : (Int16.ofInt i).toInt32 = z) (g : OG p e below s n0 rc rs Q (T.setTop (mkF m (pc + 3) Ls (.int z :: st)))) : OG p e below s n0 rc rs Q (T.setTop (mkF m pc Ls st)) := by
  obtain ⟨⟨hx, hby, -⟩, -, locs, -, Y⟩ := X
  subst hz
  exact OG.pre (fun _ k => XS.sipush Y.here hx rfl (hb hby hd) k) g
theorem OG.lconst (X : OS B mL own nm rt Z n0 p l e R s m args below meth c T h cells slots) {k : Fin 2} {z : Int64} (hd : decode B pc = .ok (.lconst k, 1)) (hz : Int64.ofNat k = z) (g : OG p e below s n0 rc rs Q (T.setTop (mkF m (pc + 1) Ls (.long z :: st)))) : OG p e below s n0 rc rs Q (T.setTop (mkF m pc Ls st)) := by
  obtain ⟨⟨hx, hby, -⟩, -, locs, -, Y⟩ := X
  subst hz
  exact OG.pre (fun _ q => XS.lconst Y.here hx rfl (hb hby hd) q) g
theorem OG.aconstNull (X : OS B mL own nm rt Z n0 p l e R s m args below meth c T h cells slots)  (hd : decode B pc = .ok (.aconst_null, 1))  (g : OG p e below s n0 rc rs Q (T.setTop (mkF m (pc + 1) Ls (.null :: st)))) : OG p e below s n0 rc rs Q (T.setTop (mkF m pc Ls st)) := by
  obtain ⟨⟨hx, hby, -⟩, -, locs, -, Y⟩ := X
  exact OG.pre (fun _ k => XS.aconstNull Y.here hx rfl (hb hby hd)  k) g
theorem OG.iadd (X : OS B mL own nm rt Z n0 p l e R s m args below meth c T h cells slots) {x y : Int32} (hd : decode B pc = .ok (.iadd, 1))  (g : OG p e below s n0 rc rs Q (T.setTop (mkF m (pc + 1) Ls (.int (x + y) :: st)))) : OG p e below s n0 rc rs Q (T.setTop (mkF m pc Ls (.int y :: .int x :: st))) := by
  obtain ⟨⟨hx, hby, -⟩, -, locs, -, Y⟩ := X
  exact OG.pre (fun _ k => XS.iadd Y.here hx rfl (hb hby hd) rfl k) g
theorem OG.isub (X : OS B mL own nm rt Z n0 p l e R s m args below meth c T h cells slots) {x y : Int32} (hd : decode B pc = .ok (.isub, 1))  (g : OG p e below s n0 rc rs Q (T.setTop (mkF m (pc + 1) Ls (.int (x - y) :: st)))) : OG p e below s n0 rc rs Q (T.setTop (mkF m pc Ls (.int y :: .int x :: st))) := by
  obtain ⟨⟨hx, hby, -⟩, -, locs, -, Y⟩ := X
  exact OG.pre (fun _ k => XS.isub Y.here hx rfl (hb hby hd) rfl k) g
theorem OG.imul (X : OS B mL own nm rt Z n0 p l e R s m args below meth c T h cells slots) {x y : Int32} (hd : decode B pc = .ok (.imul, 1))  (g : OG p e below s n0 rc rs Q (T.setTop (mkF m (pc + 1) Ls (.int (x * y) :: st)))) : OG p e below s n0 rc rs Q (T.setTop (mkF m pc Ls (.int y :: .int x :: st))) := by
  obtain ⟨⟨hx, hby, -⟩, -, locs, -, Y⟩ := X
  exact OG.pre (fun _ k => XS.imul Y.here hx rfl (hb hby hd) rfl k) g
theorem OG.iand (X : OS B mL own nm rt Z n0 p l e R s m args below meth c T h cells slots) {x y : Int32} (hd : decode B pc = .ok (.iand, 1))  (g : OG p e below s n0 rc rs Q (T.setTop (mkF m (pc + 1) Ls (.int (x &&& y) :: st)))) : OG p e below s n0 rc rs Q (T.setTop (mkF m pc Ls (.int y :: .int x :: st))) := by
  obtain ⟨⟨hx, hby, -⟩, -, locs, -, Y⟩ := X
  exact OG.pre (fun _ k => XS.iand Y.here hx rfl (hb hby hd) rfl k) g
theorem OG.ior (X : OS B mL own nm rt Z n0 p l e R s m args below meth c T h cells slots) {x y : Int32} (hd : decode B pc = .ok (.ior, 1))  (g : OG p e below s n0 rc rs Q (T.setTop (mkF m (pc + 1) Ls (.int (x ||| y) :: st)))) : OG p e below s n0 rc rs Q (T.setTop (mkF m pc Ls (.int y :: .int x :: st))) := by
  obtain ⟨⟨hx, hby, -⟩, -, locs, -, Y⟩ := X
  exact OG.pre (fun _ k => XS.ior Y.here hx rfl (hb hby hd) rfl k) g
theorem OG.ixor (X : OS B mL own nm rt Z n0 p l e R s m args below meth c T h cells slots) {x y : Int32} (hd : decode B pc = .ok (.ixor, 1))  (g : OG p e below s n0 rc rs Q (T.setTop (mkF m (pc + 1) Ls (.int (x ^^^ y) :: st)))) : OG p e below s n0 rc rs Q (T.setTop (mkF m pc Ls (.int y :: .int x :: st))) := by
  obtain ⟨⟨hx, hby, -⟩, -, locs, -, Y⟩ := X
  exact OG.pre (fun _ k => XS.ixor Y.here hx rfl (hb hby hd) rfl k) g
theorem OG.ishl (X : OS B mL own nm rt Z n0 p l e R s m args below meth c T h cells slots) {x y : Int32} (hd : decode B pc = .ok (.ishl, 1))  (g : OG p e below s n0 rc rs Q (T.setTop (mkF m (pc + 1) Ls (.int (x <<< (y &&& 31)) :: st)))) : OG p e below s n0 rc rs Q (T.setTop (mkF m pc Ls (.int y :: .int x :: st))) := by
  obtain ⟨⟨hx, hby, -⟩, -, locs, -, Y⟩ := X
  exact OG.pre (fun _ k => XS.ishl Y.here hx rfl (hb hby hd) rfl k) g
theorem OG.ishr (X : OS B mL own nm rt Z n0 p l e R s m args below meth c T h cells slots) {x y : Int32} (hd : decode B pc = .ok (.ishr, 1))  (g : OG p e below s n0 rc rs Q (T.setTop (mkF m (pc + 1) Ls (.int (x >>> (y &&& 31)) :: st)))) : OG p e below s n0 rc rs Q (T.setTop (mkF m pc Ls (.int y :: .int x :: st))) := by
  obtain ⟨⟨hx, hby, -⟩, -, locs, -, Y⟩ := X
  exact OG.pre (fun _ k => XS.ishr Y.here hx rfl (hb hby hd) rfl k) g
theorem OG.iushr (X : OS B mL own nm rt Z n0 p l e R s m args below meth c T h cells slots) {x y : Int32} (hd : decode B pc = .ok (.iushr, 1))  (g : OG p e below s n0 rc rs Q (T.setTop (mkF m (pc + 1) Ls (.int ((x.toUInt32 >>> (y &&& 31).toUInt32).toInt32) :: st)))) : OG p e below s n0 rc rs Q (T.setTop (mkF m pc Ls (.int y :: .int x :: st))) := by
  obtain ⟨⟨hx, hby, -⟩, -, locs, -, Y⟩ := X
  exact OG.pre (fun _ k => XS.iushr Y.here hx rfl (hb hby hd) rfl k) g
theorem OG.ladd (X : OS B mL own nm rt Z n0 p l e R s m args below meth c T h cells slots) {x y : Int64} (hd : decode B pc = .ok (.ladd, 1))  (g : OG p e below s n0 rc rs Q (T.setTop (mkF m (pc + 1) Ls (.long (x + y) :: st)))) : OG p e below s n0 rc rs Q (T.setTop (mkF m pc Ls (.long y :: .long x :: st))) := by
  obtain ⟨⟨hx, hby, -⟩, -, locs, -, Y⟩ := X
  exact OG.pre (fun _ k => XS.ladd Y.here hx rfl (hb hby hd) rfl k) g
theorem OG.lsub (X : OS B mL own nm rt Z n0 p l e R s m args below meth c T h cells slots) {x y : Int64} (hd : decode B pc = .ok (.lsub, 1))  (g : OG p e below s n0 rc rs Q (T.setTop (mkF m (pc + 1) Ls (.long (x - y) :: st)))) : OG p e below s n0 rc rs Q (T.setTop (mkF m pc Ls (.long y :: .long x :: st))) := by
  obtain ⟨⟨hx, hby, -⟩, -, locs, -, Y⟩ := X
  exact OG.pre (fun _ k => XS.lsub Y.here hx rfl (hb hby hd) rfl k) g
theorem OG.lmul (X : OS B mL own nm rt Z n0 p l e R s m args below meth c T h cells slots) {x y : Int64} (hd : decode B pc = .ok (.lmul, 1))  (g : OG p e below s n0 rc rs Q (T.setTop (mkF m (pc + 1) Ls (.long (x * y) :: st)))) : OG p e below s n0 rc rs Q (T.setTop (mkF m pc Ls (.long y :: .long x :: st))) := by
  obtain ⟨⟨hx, hby, -⟩, -, locs, -, Y⟩ := X
  exact OG.pre (fun _ k => XS.lmul Y.here hx rfl (hb hby hd) rfl k) g
theorem OG.land (X : OS B mL own nm rt Z n0 p l e R s m args below meth c T h cells slots) {x y : Int64} (hd : decode B pc = .ok (.land, 1))  (g : OG p e below s n0 rc rs Q (T.setTop (mkF m (pc + 1) Ls (.long (x &&& y) :: st)))) : OG p e below s n0 rc rs Q (T.setTop (mkF m pc Ls (.long y :: .long x :: st))) := by
  obtain ⟨⟨hx, hby, -⟩, -, locs, -, Y⟩ := X
  exact OG.pre (fun _ k => XS.land Y.here hx rfl (hb hby hd) rfl k) g
theorem OG.lor (X : OS B mL own nm rt Z n0 p l e R s m args below meth c T h cells slots) {x y : Int64} (hd : decode B pc = .ok (.lor, 1))  (g : OG p e below s n0 rc rs Q (T.setTop (mkF m (pc + 1) Ls (.long (x ||| y) :: st)))) : OG p e below s n0 rc rs Q (T.setTop (mkF m pc Ls (.long y :: .long x :: st))) := by
  obtain ⟨⟨hx, hby, -⟩, -, locs, -, Y⟩ := X
  exact OG.pre (fun _ k => XS.lor Y.here hx rfl (hb hby hd) rfl k) g
theorem OG.lxor (X : OS B mL own nm rt Z n0 p l e R s m args below meth c T h cells slots) {x y : Int64} (hd : decode B pc = .ok (.lxor, 1))  (g : OG p e below s n0 rc rs Q (T.setTop (mkF m (pc + 1) Ls (.long (x ^^^ y) :: st)))) : OG p e below s n0 rc rs Q (T.setTop (mkF m pc Ls (.long y :: .long x :: st))) := by
  obtain ⟨⟨hx, hby, -⟩, -, locs, -, Y⟩ := X
  exact OG.pre (fun _ k => XS.lxor Y.here hx rfl (hb hby hd) rfl k) g
theorem OG.lshl (X : OS B mL own nm rt Z n0 p l e R s m args below meth c T h cells slots) {x : Int64} {y : Int32} (hd : decode B pc = .ok (.lshl, 1))  (g : OG p e below s n0 rc rs Q (T.setTop (mkF m (pc + 1) Ls (.long (x <<< (y &&& 0x3f).toInt64) :: st)))) : OG p e below s n0 rc rs Q (T.setTop (mkF m pc Ls (.int y :: .long x :: st))) := by
  obtain ⟨⟨hx, hby, -⟩, -, locs, -, Y⟩ := X
  exact OG.pre (fun _ k => XS.lshl Y.here hx rfl (hb hby hd) rfl k) g
theorem OG.lshr (X : OS B mL own nm rt Z n0 p l e R s m args below meth c T h cells slots) {x : Int64} {y : Int32} (hd : decode B pc = .ok (.lshr, 1))  (g : OG p e below s n0 rc rs Q (T.setTop (mkF m (pc + 1) Ls (.long (x >>> (y &&& 0x3f).toInt64) :: st)))) : OG p e below s n0 rc rs Q (T.setTop (mkF m pc Ls (.int y :: .long x :: st))) := by
  obtain ⟨⟨hx, hby, -⟩, -, locs, -, Y⟩ := X
  exact OG.pre (fun _ k => XS.lshr Y.here hx rfl (hb hby hd) rfl k) g
theorem OG.lushr (X : OS B mL own nm rt Z n0 p l e R s m args below meth c T h cells slots) {x : Int64} {y : Int32} (hd : decode B pc = .ok (.lushr, 1))  (g : OG p e below s n0 rc rs Q (T.setTop (mkF m (pc + 1) Ls (.long ((x.toUInt64 >>> (y &&& 0x3f).toInt64.toUInt64).toInt64) :: st)))) : OG p e below s n0 rc rs Q (T.setTop (mkF m pc Ls (.int y :: .long x :: st))) := by
  obtain ⟨⟨hx, hby, -⟩, -, locs, -, Y⟩ := X
  exact OG.pre (fun _ k => XS.lushr Y.here hx rfl (hb hby hd) rfl k) g
theorem OG.idiv (X : OS B mL own nm rt Z n0 p l e R s m args below meth c T h cells slots) {x y : Int32} (hd : decode B pc = .ok (.idiv, 1)) (hy : y ≠ 0) (g : OG p e below s n0 rc rs Q (T.setTop (mkF m (pc + 1) Ls (.int (x / y) :: st)))) : OG p e below s n0 rc rs Q (T.setTop (mkF m pc Ls (.int y :: .int x :: st))) := by
  obtain ⟨⟨hx, hby, -⟩, -, locs, -, Y⟩ := X
  exact OG.pre (fun _ k => XS.idiv Y.here hx rfl (hb hby hd) rfl hy k) g
theorem OG.ldiv (X : OS B mL own nm rt Z n0 p l e R s m args below meth c T h cells slots) {x y : Int64} (hd : decode B pc = .ok (.ldiv, 1)) (hy : y ≠ 0) (g : OG p e below s n0 rc rs Q (T.setTop (mkF m (pc + 1) Ls (.long (x / y) :: st)))) : OG p e below s n0 rc rs Q (T.setTop (mkF m pc Ls (.long y :: .long x :: st))) := by
  obtain ⟨⟨hx, hby, -⟩, -, locs, -, Y⟩ := X
  exact OG.pre (fun _ k => XS.ldiv Y.here hx rfl (hb hby hd) rfl hy k) g
theorem OG.irem (X : OS B mL own nm rt Z n0 p l e R s m args below meth c T h cells slots) {x y : Int32} (hd : decode B pc = .ok (.irem, 1)) (hy : y ≠ 0) (g : OG p e below s n0 rc rs Q (T.setTop (mkF m (pc + 1) Ls (.int (x % y) :: st)))) : OG p e below s n0 rc rs Q (T.setTop (mkF m pc Ls (.int y :: .int x :: st))) := by
  obtain ⟨⟨hx, hby, -⟩, -, locs, -, Y⟩ := X
  exact OG.pre (fun _ k => iremM Y hx rfl (hb hby hd) rfl hy k) g
theorem OG.lrem (X : OS B mL own nm rt Z n0 p l e R s m args below meth c T h cells slots) {x y : Int64} (hd : decode B pc = .ok (.lrem, 1)) (hy : y ≠ 0) (g : OG p e below s n0 rc rs Q (T.setTop (mkF m (pc + 1) Ls (.long (x - x / y * y) :: st)))) : OG p e below s n0 rc rs Q (T.setTop (mkF m pc Ls (.long y :: .long x :: st))) := by
  obtain ⟨⟨hx, hby, -⟩, -, locs, -, Y⟩ := X
  exact OG.pre (fun _ k => XS.lrem Y.here hx rfl (hb hby hd) rfl hy k) g
theorem OG.ineg (X : OS B mL own nm rt Z n0 p l e R s m args below meth c T h cells slots) {x : Int32} (hd : decode B pc = .ok (.ineg, 1))  (g : OG p e below s n0 rc rs Q (T.setTop (mkF m (pc + 1) Ls (.int (-x) :: st)))) : OG p e below s n0 rc rs Q (T.setTop (mkF m pc Ls (.int x :: st))) := by
  obtain ⟨⟨hx, hby, -⟩, -, locs, -, Y⟩ := X
  exact OG.pre (fun _ k => XS.ineg Y.here hx rfl (hb hby hd) rfl k) g
theorem OG.lneg (X : OS B mL own nm rt Z n0 p l e R s m args below meth c T h cells slots) {x : Int64} (hd : decode B pc = .ok (.lneg, 1))  (g : OG p e below s n0 rc rs Q (T.setTop (mkF m (pc + 1) Ls (.long (-x) :: st)))) : OG p e below s n0 rc rs Q (T.setTop (mkF m pc Ls (.long x :: st))) := by
  obtain ⟨⟨hx, hby, -⟩, -, locs, -, Y⟩ := X
  exact OG.pre (fun _ k => XS.lneg Y.here hx rfl (hb hby hd) rfl k) g
theorem OG.i2l (X : OS B mL own nm rt Z n0 p l e R s m args below meth c T h cells slots) {x : Int32} (hd : decode B pc = .ok (.i2l, 1))  (g : OG p e below s n0 rc rs Q (T.setTop (mkF m (pc + 1) Ls (.long (x.toInt64) :: st)))) : OG p e below s n0 rc rs Q (T.setTop (mkF m pc Ls (.int x :: st))) := by
  obtain ⟨⟨hx, hby, -⟩, -, locs, -, Y⟩ := X
  exact OG.pre (fun _ k => XS.i2l Y.here hx rfl (hb hby hd) rfl k) g
theorem OG.l2i (X : OS B mL own nm rt Z n0 p l e R s m args below meth c T h cells slots) {x : Int64} (hd : decode B pc = .ok (.l2i, 1))  (g : OG p e below s n0 rc rs Q (T.setTop (mkF m (pc + 1) Ls (.int (x.toInt32) :: st)))) : OG p e below s n0 rc rs Q (T.setTop (mkF m pc Ls (.long x :: st))) := by
  obtain ⟨⟨hx, hby, -⟩, -, locs, -, Y⟩ := X
  exact OG.pre (fun _ k => XS.l2i Y.here hx rfl (hb hby hd) rfl k) g
theorem OG.i2b (X : OS B mL own nm rt Z n0 p l e R s m args below meth c T h cells slots) {x : Int32} (hd : decode B pc = .ok (.i2b, 1))  (g : OG p e below s n0 rc rs Q (T.setTop (mkF m (pc + 1) Ls (.int (x.toInt8.toInt32) :: st)))) : OG p e below s n0 rc rs Q (T.setTop (mkF m pc Ls (.int x :: st))) := by
  obtain ⟨⟨hx, hby, -⟩, -, locs, -, Y⟩ := X
  exact OG.pre (fun _ k => XS.i2b Y.here hx rfl (hb hby hd) rfl k) g
theorem OG.i2s (X : OS B mL own nm rt Z n0 p l e R s m args below meth c T h cells slots) {x : Int32} (hd : decode B pc = .ok (.i2s, 1))  (g : OG p e below s n0 rc rs Q (T.setTop (mkF m (pc + 1) Ls (.int (x.toInt16.toInt32) :: st)))) : OG p e below s n0 rc rs Q (T.setTop (mkF m pc Ls (.int x :: st))) := by
  obtain ⟨⟨hx, hby, -⟩, -, locs, -, Y⟩ := X
  exact OG.pre (fun _ k => XS.i2s Y.here hx rfl (hb hby hd) rfl k) g
theorem OG.i2c (X : OS B mL own nm rt Z n0 p l e R s m args below meth c T h cells slots) {x : Int32} (hd : decode B pc = .ok (.i2c, 1))  (g : OG p e below s n0 rc rs Q (T.setTop (mkF m (pc + 1) Ls (.int (x.toUInt32.toUInt16.toUInt32.toInt32) :: st)))) : OG p e below s n0 rc rs Q (T.setTop (mkF m pc Ls (.int x :: st))) := by
  obtain ⟨⟨hx, hby, -⟩, -, locs, -, Y⟩ := X
  exact OG.pre (fun _ k => XS.i2c Y.here hx rfl (hb hby hd) rfl k) g
theorem OG.lcmp (X : OS B mL own nm rt Z n0 p l e R s m args below meth c T h cells slots) {x y : Int64} (hd : decode B pc = .ok (.lcmp, 1))  (g : OG p e below s n0 rc rs Q (T.setTop (mkF m (pc + 1) Ls (.int (lcmpW x y) :: st)))) : OG p e below s n0 rc rs Q (T.setTop (mkF m pc Ls (.long y :: .long x :: st))) := by
  obtain ⟨⟨hx, hby, -⟩, -, locs, -, Y⟩ := X
  exact OG.pre (fun _ k => XS.lcmp Y.here hx rfl (hb hby hd) rfl k) g
theorem OG.dup (X : OS B mL own nm rt Z n0 p l e R s m args below meth c T h cells slots) {x : Value} (hd : decode B pc = .ok (.dup, 1)) (hc : x.category = 1) (g : OG p e below s n0 rc rs Q (T.setTop (mkF m (pc + 1) Ls (x :: x :: st)))) : OG p e below s n0 rc rs Q (T.setTop (mkF m pc Ls (x :: st))) := by
  obtain ⟨⟨hx, hby, -⟩, -, locs, -, Y⟩ := X
  exact OG.pre (fun _ k => XS.dup Y.here hx rfl (hb hby hd) rfl hc k) g
theorem OG.pop (X : OS B mL own nm rt Z n0 p l e R s m args below meth c T h cells slots) {x : Value} (hd : decode B pc = .ok (.pop, 1)) (hc : x.category = 1) (g : OG p e below s n0 rc rs Q (T.setTop (mkF m (pc + 1) Ls st))) : OG p e below s n0 rc rs Q (T.setTop (mkF m pc Ls (x :: st))) := by
  obtain ⟨⟨hx, hby, -⟩, -, locs, -, Y⟩ := X
  exact OG.pre (fun _ k => XS.pop Y.here hx rfl (hb hby hd) rfl hc k) g
theorem OG.dupX1 (X : OS B mL own nm rt Z n0 p l e R s m args below meth c T h cells slots) {x y : Value} (hd : decode B pc = .ok (.dup_x1, 1)) (hc : x.category = 1) (hc' : y.category = 1) (g : OG p e below s n0 rc rs Q (T.setTop (mkF m (pc + 1) Ls (x :: y :: x :: st)))) : OG p e below s n0 rc rs Q (T.setTop (mkF m pc Ls (x :: y :: st))) := by
  obtain ⟨⟨hx, hby, -⟩, -, locs, -, Y⟩ := X
  exact OG.pre (fun _ k => XS.dupX1 Y.here hx rfl (hb hby hd) rfl hc hc' k) g
theorem OG.dup2 (X : OS B mL own nm rt Z n0 p l e R s m args below meth c T h cells slots) {x y : Value} (hd : decode B pc = .ok (.dup2, 1)) (hc : x.category = 1) (hc' : y.category = 1) (g : OG p e below s n0 rc rs Q (T.setTop (mkF m (pc + 1) Ls (x :: y :: x :: y :: st)))) : OG p e below s n0 rc rs Q (T.setTop (mkF m pc Ls (x :: y :: st))) := by
  obtain ⟨⟨hx, hby, -⟩, -, locs, -, Y⟩ := X
  exact OG.pre (fun _ k => Jvm.Free.XT.dup2 Y.here hx rfl (hb hby hd) rfl hc hc' k) g
theorem OG.iinc (X : OS B mL own nm rt Z n0 p l e R s m args below meth c T h cells slots) {k : Nat} {i : Int} {x z : Int32} {l' : Array Slot} (hd : decode B pc = .ok (.iinc k i, 3)) (hl : Ls[k]? = some (.val (.int x))) (hz : Int32.ofInt i = z) (hl' : storeLocals Ls k (.int (x + z)) = some l') (g : OG p e below s n0 rc rs Q (T.setTop (mkF m (pc + 3) l' st))) : OG p e below s n0 rc rs Q (T.setTop (mkF m pc Ls st)) := by
  obtain ⟨⟨hx, hby, -⟩, -, locs, -, Y⟩ := X
  subst hz
  exact OG.pre (fun _ q => XS.iinc Y.here hx rfl (hb hby hd) hl hl' q) g
theorem OG.goto (X : OS B mL own nm rt Z n0 p l e R s m args below meth c T h cells slots) {o : Int} {pc' : Nat} (hd : decode B pc = .ok (.goto o, 3)) (hp : 0 ≤ (pc : Int) + o ∧ ((pc : Int) + o).toNat = pc') (g : OG p e below s n0 rc rs Q (T.setTop (mkF m pc' Ls st))) : OG p e below s n0 rc rs Q (T.setTop (mkF m pc Ls st)) := by
  obtain ⟨⟨hx, hby, -⟩, -, locs, -, Y⟩ := X
  exact OG.pre (fun _ q => XS.goto Y.here hx rfl (pc0 := pc) rfl (hb hby hd) hp.1 hp.2 q) g
theorem OG.icmp_lt_t (X : OS B mL own nm rt Z n0 p l e R s m args below meth c T h cells slots) {x y : Int32} {o : Int} {pc' : Nat} (hd : decode B pc = .ok (.if_icmp .lt o, 3)) (hp : 0 ≤ (pc : Int) + o ∧ ((pc : Int) + o).toNat = pc') (hq : x < y) (g : OG p e below s n0 rc rs Q (T.setTop (mkF m pc' Ls st))) : OG p e below s n0 rc rs Q (T.setTop (mkF m pc Ls (.int y :: .int x :: st))) := by
  obtain ⟨⟨hx, hby, -⟩, -, locs, -, Y⟩ := X
  exact OG.pre (fun _ q => XS.icmpYes Y.here hx rfl (pc0 := pc) rfl (hb hby hd) rfl (tlt hq).1 hp.1 hp.2 q) g
theorem OG.icmp_lt_f (X : OS B mL own nm rt Z n0 p l e R s m args below meth c T h cells slots) {x y : Int32} {o : Int} (hd : decode B pc = .ok (.if_icmp .lt o, 3)) (hq : ¬ x < y) (g : OG p e below s n0 rc rs Q (T.setTop (mkF m (pc + 3) Ls st))) : OG p e below s n0 rc rs Q (T.setTop (mkF m pc Ls (.int y :: .int x :: st))) := by
  obtain ⟨⟨hx, hby, -⟩, -, locs, -, Y⟩ := X
  exact OG.pre (fun _ q => XS.icmpNo Y.here hx rfl (hb hby hd) rfl (flt hq).1 q) g
theorem OG.icmp_lt (X : OS B mL own nm rt Z n0 p l e R s m args below meth c T h cells slots) {x y : Int32} {o : Int} {pc' : Nat} (hd : decode B pc = .ok (.if_icmp .lt o, 3)) (hp : 0 ≤ (pc : Int) + o ∧ ((pc : Int) + o).toNat = pc') (g1 : x < y → OG p e below s n0 rc rs Q (T.setTop (mkF m pc' Ls st))) (g2 : ¬ x < y → OG p e below s n0 rc rs Q (T.setTop (mkF m (pc + 3) Ls st))) : OG p e below s n0 rc rs Q (T.setTop (mkF m pc Ls (.int y :: .int x :: st))) :=
  if hq : x < y then OG.icmp_lt_t X hd hp hq (g1 hq) else OG.icmp_lt_f X hd hq (g2 hq)
theorem OG.if_lt_t (X : OS B mL own nm rt Z n0 p l e R s m args below meth c T h cells slots) {x : Int32} {o : Int} {pc' : Nat} (hd : decode B pc = .ok (.ifCond .lt o, 3)) (hp : 0 ≤ (pc : Int) + o ∧ ((pc : Int) + o).toNat = pc') (hq : x < 0) (g : OG p e below s n0 rc rs Q (T.setTop (mkF m pc' Ls st))) : OG p e below s n0 rc rs Q (T.setTop (mkF m pc Ls (.int x :: st))) := by
  obtain ⟨⟨hx, hby, -⟩, -, locs, -, Y⟩ := X
  exact OG.pre (fun _ q => XS.ifYes Y.here hx rfl (pc0 := pc) rfl (hb hby hd) rfl ((if0 _ _).trans (tlt hq).1) hp.1 hp.2 q) g
theorem OG.if_lt_f (X : OS B mL own nm rt Z n0 p l e R s m args below meth c T h cells slots) {x : Int32} {o : Int} (hd : decode B pc = .ok (.ifCond .lt o, 3)) (hq : ¬ x < 0) (g : OG p e below s n0 rc rs Q (T.setTop (mkF m (pc + 3) Ls st))) : OG p e below s n0 rc rs Q (T.setTop (mkF m pc Ls (.int x :: st))) := by
  obtain ⟨⟨hx, hby, -⟩, -, locs, -, Y⟩ := X
  exact OG.pre (fun _ q => XS.ifNo Y.here hx rfl (hb hby hd) rfl ((if0 _ _).trans (flt hq).1) q) g
theorem OG.if_lt (X : OS B mL own nm rt Z n0 p l e R s m args below meth c T h cells slots) {x : Int32} {o : Int} {pc' : Nat} (hd : decode B pc = .ok (.ifCond .lt o, 3)) (hp : 0 ≤ (pc : Int) + o ∧ ((pc : Int) + o).toNat = pc') (g1 : x < 0 → OG p e below s n0 rc rs Q (T.setTop (mkF m pc' Ls st))) (g2 : ¬ x < 0 → OG p e below s n0 rc rs Q (T.setTop (mkF m (pc + 3) Ls st))) : OG p e below s n0 rc rs Q (T.setTop (mkF m pc Ls (.int x :: st))) :=
  if hq : x < 0 then OG.if_lt_t X hd hp hq (g1 hq) else OG.if_lt_f X hd hq (g2 hq)
theorem OG.ifl_lt_t (X : OS B mL own nm rt Z n0 p l e R s m args below meth c T h cells slots) {x y : Int64} {o : Int} {pc' : Nat} (hd : decode B pc = .ok (.ifCond .lt o, 3)) (hp : 0 ≤ (pc : Int) + o ∧ ((pc : Int) + o).toNat = pc') (hq : x < y) (g : OG p e below s n0 rc rs Q (T.setTop (mkF m pc' Ls st))) : OG p e below s n0 rc rs Q (T.setTop (mkF m pc Ls (.int (lcmpW x y) :: st))) := by
  obtain ⟨⟨hx, hby, -⟩, -, locs, -, Y⟩ := X
  exact OG.pre (fun _ q => XS.ifYes Y.here hx rfl (pc0 := pc) rfl (hb hby hd) rfl ((if0 _ _).trans (tlt ((lw_lt x y).mpr hq)).1) hp.1 hp.2 q) g
theorem OG.ifl_lt_f (X : OS B mL own nm rt Z n0 p l e R s m args below meth c T h cells slots) {x y : Int64} {o : Int} (hd : decode B pc = .ok (.ifCond .lt o, 3)) (hq : ¬ x < y) (g : OG p e below s n0 rc rs Q (T.setTop (mkF m (pc + 3) Ls st))) : OG p e below s n0 rc rs Q (T.setTop (mkF m pc Ls (.int (lcmpW x y) :: st))) := by
  obtain ⟨⟨hx, hby, -⟩, -, locs, -, Y⟩ := X
  exact OG.pre (fun _ q => XS.ifNo Y.here hx rfl (hb hby hd) rfl ((if0 _ _).trans (flt (fun q => hq ((lw_lt x y).mp q))).1) q) g
theorem OG.ifl_lt (X : OS B mL own nm rt Z n0 p l e R s m args below meth c T h cells slots) {x y : Int64} {o : Int} {pc' : Nat} (hd : decode B pc = .ok (.ifCond .lt o, 3)) (hp : 0 ≤ (pc : Int) + o ∧ ((pc : Int) + o).toNat = pc') (g1 : x < y → OG p e below s n0 rc rs Q (T.setTop (mkF m pc' Ls st))) (g2 : ¬ x < y → OG p e below s n0 rc rs Q (T.setTop (mkF m (pc + 3) Ls st))) : OG p e below s n0 rc rs Q (T.setTop (mkF m pc Ls (.int (lcmpW x y) :: st))) :=
  if hq : x < y then OG.ifl_lt_t X hd hp hq (g1 hq) else OG.ifl_lt_f X hd hq (g2 hq)
theorem OG.icmp_ge_t (X : OS B mL own nm rt Z n0 p l e R s m args below meth c T h cells slots) {x y : Int32} {o : Int} {pc' : Nat} (hd : decode B pc = .ok (.if_icmp .ge o, 3)) (hp : 0 ≤ (pc : Int) + o ∧ ((pc : Int) + o).toNat = pc') (hq : ¬ x < y) (g : OG p e below s n0 rc rs Q (T.setTop (mkF m pc' Ls st))) : OG p e below s n0 rc rs Q (T.setTop (mkF m pc Ls (.int y :: .int x :: st))) := by
  obtain ⟨⟨hx, hby, -⟩, -, locs, -, Y⟩ := X
  exact OG.pre (fun _ q => XS.icmpYes Y.here hx rfl (pc0 := pc) rfl (hb hby hd) rfl (flt hq).2.1 hp.1 hp.2 q) g
theorem OG.icmp_ge_f (X : OS B mL own nm rt Z n0 p l e R s m args below meth c T h cells slots) {x y : Int32} {o : Int} (hd : decode B pc = .ok (.if_icmp .ge o, 3)) (hq : x < y) (g : OG p e below s n0 rc rs Q (T.setTop (mkF m (pc + 3) Ls st))) : OG p e below s n0 rc rs Q (T.setTop (mkF m pc Ls (.int y :: .int x :: st))) := by
  obtain ⟨⟨hx, hby, -⟩, -, locs, -, Y⟩ := X
  exact OG.pre (fun _ q => XS.icmpNo Y.here hx rfl (hb hby hd) rfl (tlt hq).2.1 q) g
theorem OG.icmp_ge (X : OS B mL own nm rt Z n0 p l e R s m args below meth c T h cells slots) {x y : Int32} {o : Int} {pc' : Nat} (hd : decode B pc = .ok (.if_icmp .ge o, 3)) (hp : 0 ≤ (pc : Int) + o ∧ ((pc : Int) + o).toNat = pc') (g1 : ¬ x < y → OG p e below s n0 rc rs Q (T.setTop (mkF m pc' Ls st))) (g2 : x < y → OG p e below s n0 rc rs Q (T.setTop (mkF m (pc + 3) Ls st))) : OG p e below s n0 rc rs Q (T.setTop (mkF m pc Ls (.int y :: .int x :: st))) :=
  if hq : x < y then OG.icmp_ge_f X hd hq (g2 hq) else OG.icmp_ge_t X hd hp hq (g1 hq)
theorem OG.if_ge_t (X : OS B mL own nm rt Z n0 p l e R s m args below meth c T h cells slots) {x : Int32} {o : Int} {pc' : Nat} (hd : decode B pc = .ok (.ifCond .ge o, 3)) (hp : 0 ≤ (pc : Int) + o ∧ ((pc : Int) + o).toNat = pc') (hq : ¬ x < 0) (g : OG p e below s n0 rc rs Q (T.setTop (mkF m pc' Ls st))) : OG p e below s n0 rc rs Q (T.setTop (mkF m pc Ls (.int x :: st))) := by
  obtain ⟨⟨hx, hby, -⟩, -, locs, -, Y⟩ := X
  exact OG.pre (fun _ q => XS.ifYes Y.here hx rfl (pc0 := pc) rfl (hb hby hd) rfl ((if0 _ _).trans (flt hq).2.1) hp.1 hp.2 q) g
theorem OG.if_ge_f (X : OS B mL own nm rt Z n0 p l e R s m args below meth c T h cells slots) {x : Int32} {o : Int} (hd : decode B pc = .ok (.ifCond .ge o, 3)) (hq : x < 0) (g : OG p e below s n0 rc rs Q (T.setTop (mkF m (pc + 3) Ls st))) : OG p e below s n0 rc rs Q (T.setTop (mkF m pc Ls (.int x :: st))) := by
  obtain ⟨⟨hx, hby, -⟩, -, locs, -, Y⟩ := X
  exact OG.pre (fun _ q => XS.ifNo Y.here hx rfl (hb hby hd) rfl ((if0 _ _).trans (tlt hq).2.1) q) g
theorem OG.if_ge (X : OS B mL own nm rt Z n0 p l e R s m args below meth c T h cells slots) {x : Int32} {o : Int} {pc' : Nat} (hd : decode B pc = .ok (.ifCond .ge o, 3)) (hp : 0 ≤ (pc : Int) + o ∧ ((pc : Int) + o).toNat = pc') (g1 : ¬ x < 0 → OG p e below s n0 rc rs Q (T.setTop (mkF m pc' Ls st))) (g2 : x < 0 → OG p e below s n0 rc rs Q (T.setTop (mkF m (pc + 3) Ls st))) : OG p e below s n0 rc rs Q (T.setTop (mkF m pc Ls (.int x :: st))) :=
  if hq : x < 0 then OG.if_ge_f X hd hq (g2 hq) else OG.if_ge_t X hd hp hq (g1 hq)
theorem OG.ifl_ge_t (X : OS B mL own nm rt Z n0 p l e R s m args below meth c T h cells slots) {x y : Int64} {o : Int} {pc' : Nat} (hd : decode B pc = .ok (.ifCond .ge o, 3)) (hp : 0 ≤ (pc : Int) + o ∧ ((pc : Int) + o).toNat = pc') (hq : ¬ x < y) (g : OG p e below s n0 rc rs Q (T.setTop (mkF m pc' Ls st))) : OG p e below s n0 rc rs Q (T.setTop (mkF m pc Ls (.int (lcmpW x y) :: st))) := by
  obtain ⟨⟨hx, hby, -⟩, -, locs, -, Y⟩ := X
  exact OG.pre (fun _ q => XS.ifYes Y.here hx rfl (pc0 := pc) rfl (hb hby hd) rfl ((if0 _ _).trans (flt (fun q => hq ((lw_lt x y).mp q))).2.1) hp.1 hp.2 q) g
theorem OG.ifl_ge_f (X : OS B mL own nm rt Z n0 p l e R s m args below meth c T h cells slots) {x y : Int64} {o : Int} (hd : decode B pc = .ok (.ifCond .ge o, 3)) (hq : x < y) (g : OG p e below s n0 rc rs Q (T.setTop (mkF m (pc + 3) Ls st))) : OG p e below s n0 rc rs Q (T.setTop (mkF m pc Ls (.int (lcmpW x y) :: st))) := by
  obtain ⟨⟨hx, hby, -⟩, -, locs, -, Y⟩ := X
  exact OG.pre (fun _ q => XS.ifNo Y.here hx rfl (hb hby hd) rfl ((if0 _ _).trans (tlt ((lw_lt x y).mpr hq)).2.1) q) g
theorem OG.ifl_ge (X : OS B mL own nm rt Z n0 p l e R s m args below meth c T h cells slots) {x y : Int64} {o : Int} {pc' : Nat} (hd : decode B pc = .ok (.ifCond .ge o, 3)) (hp : 0 ≤ (pc : Int) + o ∧ ((pc : Int) + o).toNat = pc') (g1 : ¬ x < y → OG p e below s n0 rc rs Q (T.setTop (mkF m pc' Ls st))) (g2 : x < y → OG p e below s n0 rc rs Q (T.setTop (mkF m (pc + 3) Ls st))) : OG p e below s n0 rc rs Q (T.setTop (mkF m pc Ls (.int (lcmpW x y) :: st))) :=
  if hq : x < y then OG.ifl_ge_f X hd hq (g2 hq) else OG.ifl_ge_t X hd hp hq (g1 hq)
theorem OG.icmp_gt_t (X : OS B mL own nm rt Z n0 p l e R s m args below meth c T h cells slots) {x y : Int32} {o : Int} {pc' : Nat} (hd : decode B pc = .ok (.if_icmp .gt o, 3)) (hp : 0 ≤ (pc : Int) + o ∧ ((pc : Int) + o).toNat = pc') (hq : y < x) (g : OG p e below s n0 rc rs Q (T.setTop (mkF m pc' Ls st))) : OG p e below s n0 rc rs Q (T.setTop (mkF m pc Ls (.int y :: .int x :: st))) := by
  obtain ⟨⟨hx, hby, -⟩, -, locs, -, Y⟩ := X
  exact OG.pre (fun _ q => XS.icmpYes Y.here hx rfl (pc0 := pc) rfl (hb hby hd) rfl (tlt hq).2.2.1 hp.1 hp.2 q) g
theorem OG.icmp_gt_f (X : OS B mL own nm rt Z n0 p l e R s m args below meth c T h cells slots) {x y : Int32} {o : Int} (hd : decode B pc = .ok (.if_icmp .gt o, 3)) (hq : ¬ y < x) (g : OG p e below s n0 rc rs Q (T.setTop (mkF m (pc + 3) Ls st))) : OG p e below s n0 rc rs Q (T.setTop (mkF m pc Ls (.int y :: .int x :: st))) := by
  obtain ⟨⟨hx, hby, -⟩, -, locs, -, Y⟩ := X
  exact OG.pre (fun _ q => XS.icmpNo Y.here hx rfl (hb hby hd) rfl (flt hq).2.2.1 q) g
theorem OG.icmp_gt (X : OS B mL own nm rt Z n0 p l e R s m args below meth c T h cells slots) {x y : Int32} {o : Int} {pc' : Nat} (hd : decode B pc = .ok (.if_icmp .gt o, 3)) (hp : 0 ≤ (pc : Int) + o ∧ ((pc : Int) + o).toNat = pc') (g1 : y < x → OG p e below s n0 rc rs Q (T.setTop (mkF m pc' Ls st))) (g2 : ¬ y < x → OG p e below s n0 rc rs Q (T.setTop (mkF m (pc + 3) Ls st))) : OG p e below s n0 rc rs Q (T.setTop (mkF m pc Ls (.int y :: .int x :: st))) :=
  if hq : y < x then OG.icmp_gt_t X hd hp hq (g1 hq) else OG.icmp_gt_f X hd hq (g2 hq)
theorem OG.if_gt_t (X : OS B mL own nm rt Z n0 p l e R s m args below meth c T h cells slots) {x : Int32} {o : Int} {pc' : Nat} (hd : decode B pc = .ok (.ifCond .gt o, 3)) (hp : 0 ≤ (pc : Int) + o ∧ ((pc : Int) + o).toNat = pc') (hq : 0 < x) (g : OG p e below s n0 rc rs Q (T.setTop (mkF m pc' Ls st))) : OG p e below s n0 rc rs Q (T.setTop (mkF m pc Ls (.int x :: st))) := by
  obtain ⟨⟨hx, hby, -⟩, -, locs, -, Y⟩ := X
  exact OG.pre (fun _ q => XS.ifYes Y.here hx rfl (pc0 := pc) rfl (hb hby hd) rfl ((if0 _ _).trans (tlt hq).2.2.1) hp.1 hp.2 q) g
theorem OG.if_gt_f (X : OS B mL own nm rt Z n0 p l e R s m args below meth c T h cells slots) {x : Int32} {o : Int} (hd : decode B pc = .ok (.ifCond .gt o, 3)) (hq : ¬ 0 < x) (g : OG p e below s n0 rc rs Q (T.setTop (mkF m (pc + 3) Ls st))) : OG p e below s n0 rc rs Q (T.setTop (mkF m pc Ls (.int x :: st))) := by
  obtain ⟨⟨hx, hby, -⟩, -, locs, -, Y⟩ := X
  exact OG.pre (fun _ q => XS.ifNo Y.here hx rfl (hb hby hd) rfl ((if0 _ _).trans (flt hq).2.2.1) q) g
theorem OG.if_gt (X : OS B mL own nm rt Z n0 p l e R s m args below meth c T h cells slots) {x : Int32} {o : Int} {pc' : Nat} (hd : decode B pc = .ok (.ifCond .gt o, 3)) (hp : 0 ≤ (pc : Int) + o ∧ ((pc : Int) + o).toNat = pc') (g1 : 0 < x → OG p e below s n0 rc rs Q (T.setTop (mkF m pc' Ls st))) (g2 : ¬ 0 < x → OG p e below s n0 rc rs Q (T.setTop (mkF m (pc + 3) Ls st))) : OG p e below s n0 rc rs Q (T.setTop (mkF m pc Ls (.int x :: st))) :=
  if hq : 0 < x then OG.if_gt_t X hd hp hq (g1 hq) else OG.if_gt_f X hd hq (g2 hq)
theorem OG.ifl_gt_t (X : OS B mL own nm rt Z n0 p l e R s m args below meth c T h cells slots) {x y : Int64} {o : Int} {pc' : Nat} (hd : decode B pc = .ok (.ifCond .gt o, 3)) (hp : 0 ≤ (pc : Int) + o ∧ ((pc : Int) + o).toNat = pc') (hq : y < x) (g : OG p e below s n0 rc rs Q (T.setTop (mkF m pc' Ls st))) : OG p e below s n0 rc rs Q (T.setTop (mkF m pc Ls (.int (lcmpW x y) :: st))) := by
  obtain ⟨⟨hx, hby, -⟩, -, locs, -, Y⟩ := X
  exact OG.pre (fun _ q => XS.ifYes Y.here hx rfl (pc0 := pc) rfl (hb hby hd) rfl ((if0 _ _).trans (tlt ((lw_gt x y).mpr hq)).2.2.1) hp.1 hp.2 q) g
theorem OG.ifl_gt_f (X : OS B mL own nm rt Z n0 p l e R s m args below meth c T h cells slots) {x y : Int64} {o : Int} (hd : decode B pc = .ok (.ifCond .gt o, 3)) (hq : ¬ y < x) (g : OG p e below s n0 rc rs Q (T.setTop (mkF m (pc + 3) Ls st))) : OG p e below s n0 rc rs Q (T.setTop (mkF m pc Ls (.int (lcmpW x y) :: st))) := by
  obtain ⟨⟨hx, hby, -⟩, -, locs, -, Y⟩ := X
  exact OG.pre (fun _ q => XS.ifNo Y.here hx rfl (hb hby hd) rfl ((if0 _ _).trans (flt (fun q => hq ((lw_gt x y).mp q))).2.2.1) q) g
theorem OG.ifl_gt (X : OS B mL own nm rt Z n0 p l e R s m args below meth c T h cells slots) {x y : Int64} {o : Int} {pc' : Nat} (hd : decode B pc = .ok (.ifCond .gt o, 3)) (hp : 0 ≤ (pc : Int) + o ∧ ((pc : Int) + o).toNat = pc') (g1 : y < x → OG p e below s n0 rc rs Q (T.setTop (mkF m pc' Ls st))) (g2 : ¬ y < x → OG p e below s n0 rc rs Q (T.setTop (mkF m (pc + 3) Ls st))) : OG p e below s n0 rc rs Q (T.setTop (mkF m pc Ls (.int (lcmpW x y) :: st))) :=
  if hq : y < x then OG.ifl_gt_t X hd hp hq (g1 hq) else OG.ifl_gt_f X hd hq (g2 hq)
theorem OG.icmp_le_t (X : OS B mL own nm rt Z n0 p l e R s m args below meth c T h cells slots) {x y : Int32} {o : Int} {pc' : Nat} (hd : decode B pc = .ok (.if_icmp .le o, 3)) (hp : 0 ≤ (pc : Int) + o ∧ ((pc : Int) + o).toNat = pc') (hq : ¬ y < x) (g : OG p e below s n0 rc rs Q (T.setTop (mkF m pc' Ls st))) : OG p e below s n0 rc rs Q (T.setTop (mkF m pc Ls (.int y :: .int x :: st))) := by
  obtain ⟨⟨hx, hby, -⟩, -, locs, -, Y⟩ := X
  exact OG.pre (fun _ q => XS.icmpYes Y.here hx rfl (pc0 := pc) rfl (hb hby hd) rfl (flt hq).2.2.2 hp.1 hp.2 q) g
theorem OG.icmp_le_f (X : OS B mL own nm rt Z n0 p l e R s m args below meth c T h cells slots) {x y : Int32} {o : Int} (hd : decode B pc = .ok (.if_icmp .le o, 3)) (hq : y < x) (g : OG p e below s n0 rc rs Q (T.setTop (mkF m (pc + 3) Ls st))) : OG p e below s n0 rc rs Q (T.setTop (mkF m pc Ls (.int y :: .int x :: st))) := by
  obtain ⟨⟨hx, hby, -⟩, -, locs, -, Y⟩ := X
  exact OG.pre (fun _ q => XS.icmpNo Y.here hx rfl (hb hby hd) rfl (tlt hq).2.2.2 q) g
theorem OG.icmp_le (X : OS B mL own nm rt Z n0 p l e R s m args below meth c T h cells slots) {x y : Int32} {o : Int} {pc' : Nat} (hd : decode B pc = .ok (.if_icmp .le o, 3)) (hp : 0 ≤ (pc : Int) + o ∧ ((pc : Int) + o).toNat = pc') (g1 : ¬ y < x → OG p e below s n0 rc rs Q (T.setTop (mkF m pc' Ls st))) (g2 : y < x → OG p e below s n0 rc rs Q (T.setTop (mkF m (pc + 3) Ls st))) : OG p e below s n0 rc rs Q (T.setTop (mkF m pc Ls (.int y :: .int x :: st))) :=
  if hq : y < x then OG.icmp_le_f X hd hq (g2 hq) else OG.icmp_le_t X hd hp hq (g1 hq)
theorem OG.if_le_t (X : OS B mL own nm rt Z n0 p l e R s m args below meth c T h cells slots) {x : Int32} {o : Int} {pc' : Nat} (hd : decode B pc = .ok (.ifCond .le o, 3)) (hp : 0 ≤ (pc : Int) + o ∧ ((pc : Int) + o).toNat = pc') (hq : ¬ 0 < x) (g : OG p e below s n0 rc rs Q (T.setTop (mkF m pc' Ls st))) : OG p e below s n0 rc rs Q (T.setTop (mkF m pc Ls (.int x :: st))) := by
  obtain ⟨⟨hx, hby, -⟩, -, locs, -, Y⟩ := X
  exact OG.pre (fun _ q => XS.ifYes Y.here hx rfl (pc0 := pc) rfl (hb hby hd) rfl ((if0 _ _).trans (flt hq).2.2.2) hp.1 hp.2 q) g
theorem OG.if_le_f (X : OS B mL own nm rt Z n0 p l e R s m args below meth c T h cells slots) {x : Int32} {o : Int} (hd : decode B pc = .ok (.ifCond .le o, 3)) (hq : 0 < x) (g : OG p e below s n0 rc rs Q (T.setTop (mkF m (pc + 3) Ls st))) : OG p e below s n0 rc rs Q (T.setTop (mkF m pc Ls (.int x :: st))) := by
  obtain ⟨⟨hx, hby, -⟩, -, locs, -, Y⟩ := X
  exact OG.pre (fun _ q => XS.ifNo Y.here hx rfl (hb hby hd) rfl ((if0 _ _).trans (tlt hq).2.2.2) q) g
theorem OG.if_le (X : OS B mL own nm rt Z n0 p l e R s m args below meth c T h cells slots) {x : Int32} {o : Int} {pc' : Nat} (hd : decode B pc = .ok (.ifCond .le o, 3)) (hp : 0 ≤ (pc : Int) + o ∧ ((pc : Int) + o).toNat = pc') (g1 : ¬ 0 < x → OG p e below s n0 rc rs Q (T.setTop (mkF m pc' Ls st))) (g2 : 0 < x → OG p e below s n0 rc rs Q (T.setTop (mkF m (pc + 3) Ls st))) : OG p e below s n0 rc rs Q (T.setTop (mkF m pc Ls (.int x :: st))) :=
  if hq : 0 < x then OG.if_le_f X hd hq (g2 hq) else OG.if_le_t X hd hp hq (g1 hq)
theorem OG.ifl_le_t (X : OS B mL own nm rt Z n0 p l e R s m args below meth c T h cells slots) {x y : Int64} {o : Int} {pc' : Nat} (hd : decode B pc = .ok (.ifCond .le o, 3)) (hp : 0 ≤ (pc : Int) + o ∧ ((pc : Int) + o).toNat = pc') (hq : ¬ y < x) (g : OG p e below s n0 rc rs Q (T.setTop (mkF m pc' Ls st))) : OG p e below s n0 rc rs Q (T.setTop (mkF m pc Ls (.int (lcmpW x y) :: st))) := by
  obtain ⟨⟨hx, hby, -⟩, -, locs, -, Y⟩ := X
  exact OG.pre (fun _ q => XS.ifYes Y.here hx rfl (pc0 := pc) rfl (hb hby hd) rfl ((if0 _ _).trans (flt (fun q => hq ((lw_gt x y).mp q))).2.2.2) hp.1 hp.2 q) g
theorem OG.ifl_le_f (X : OS B mL own nm rt Z n0 p l e R s m args below meth c T h cells slots) {x y : Int64} {o : Int} (hd : decode B pc = .ok (.ifCond .le o, 3)) (hq : y < x) (g : OG p e below s n0 rc rs Q (T.setTop (mkF m (pc + 3) Ls st))) : OG p e below s n0 rc rs Q (T.setTop (mkF m pc Ls (.int (lcmpW x y) :: st))) := by
  obtain ⟨⟨hx, hby, -⟩, -, locs, -, Y⟩ := X
  exact OG.pre (fun _ q => XS.ifNo Y.here hx rfl (hb hby hd) rfl ((if0 _ _).trans (tlt ((lw_gt x y).mpr hq)).2.2.2) q) g
theorem OG.ifl_le (X : OS B mL own nm rt Z n0 p l e R s m args below meth c T h cells slots) {x y : Int64} {o : Int} {pc' : Nat} (hd : decode B pc = .ok (.ifCond .le o, 3)) (hp : 0 ≤ (pc : Int) + o ∧ ((pc : Int) + o).toNat = pc') (g1 : ¬ y < x → OG p e below s n0 rc rs Q (T.setTop (mkF m pc' Ls st))) (g2 : y < x → OG p e below s n0 rc rs Q (T.setTop (mkF m (pc + 3) Ls st))) : OG p e below s n0 rc rs Q (T.setTop (mkF m pc Ls (.int (lcmpW x y) :: st))) :=
  if hq : y < x then OG.ifl_le_f X hd hq (g2 hq) else OG.ifl_le_t X hd hp hq (g1 hq)
theorem OG.icmp_eq_t (X : OS B mL own nm rt Z n0 p l e R s m args below meth c T h cells slots) {x y : Int32} {o : Int} {pc' : Nat} (hd : decode B pc = .ok (.if_icmp .eq o, 3)) (hp : 0 ≤ (pc : Int) + o ∧ ((pc : Int) + o).toNat = pc') (hq : x = y) (g : OG p e below s n0 rc rs Q (T.setTop (mkF m pc' Ls st))) : OG p e below s n0 rc rs Q (T.setTop (mkF m pc Ls (.int y :: .int x :: st))) := by
  obtain ⟨⟨hx, hby, -⟩, -, locs, -, Y⟩ := X
  exact OG.pre (fun _ q => XS.icmpYes Y.here hx rfl (pc0 := pc) rfl (hb hby hd) rfl (teq hq).1 hp.1 hp.2 q) g
theorem OG.icmp_eq_f (X : OS B mL own nm rt Z n0 p l e R s m args below meth c T h cells slots) {x y : Int32} {o : Int} (hd : decode B pc = .ok (.if_icmp .eq o, 3)) (hq : ¬ x = y) (g : OG p e below s n0 rc rs Q (T.setTop (mkF m (pc + 3) Ls st))) : OG p e below s n0 rc rs Q (T.setTop (mkF m pc Ls (.int y :: .int x :: st))) := by
  obtain ⟨⟨hx, hby, -⟩, -, locs, -, Y⟩ := X
  exact OG.pre (fun _ q => XS.icmpNo Y.here hx rfl (hb hby hd) rfl (feq hq).1 q) g
theorem OG.icmp_eq (X : OS B mL own nm rt Z n0 p l e R s m args below meth c T h cells slots) {x y : Int32} {o : Int} {pc' : Nat} (hd : decode B pc = .ok (.if_icmp .eq o, 3)) (hp : 0 ≤ (pc : Int) + o ∧ ((pc : Int) + o).toNat = pc') (g1 : x = y → OG p e below s n0 rc rs Q (T.setTop (mkF m pc' Ls st))) (g2 : ¬ x = y → OG p e below s n0 rc rs Q (T.setTop (mkF m (pc + 3) Ls st))) : OG p e below s n0 rc rs Q (T.setTop (mkF m pc Ls (.int y :: .int x :: st))) :=
  if hq : x = y then OG.icmp_eq_t X hd hp hq (g1 hq) else OG.icmp_eq_f X hd hq (g2 hq)
theorem OG.if_eq_t (X : OS B mL own nm rt Z n0 p l e R s m args below meth c T h cells slots) {x : Int32} {o : Int} {pc' : Nat} (hd : decode B pc = .ok (.ifCond .eq o, 3)) (hp : 0 ≤ (pc : Int) + o ∧ ((pc : Int) + o).toNat = pc') (hq : x = 0) (g : OG p e below s n0 rc rs Q (T.setTop (mkF m pc' Ls st))) : OG p e below s n0 rc rs Q (T.setTop (mkF m pc Ls (.int x :: st))) := by
  obtain ⟨⟨hx, hby, -⟩, -, locs, -, Y⟩ := X
  exact OG.pre (fun _ q => XS.ifYes Y.here hx rfl (pc0 := pc) rfl (hb hby hd) rfl ((if0 _ _).trans (teq hq).1) hp.1 hp.2 q) g
theorem OG.if_eq_f (X : OS B mL own nm rt Z n0 p l e R s m args below meth c T h cells slots) {x : Int32} {o : Int} (hd : decode B pc = .ok (.ifCond .eq o, 3)) (hq : ¬ x = 0) (g : OG p e below s n0 rc rs Q (T.setTop (mkF m (pc + 3) Ls st))) : OG p e below s n0 rc rs Q (T.setTop (mkF m pc Ls (.int x :: st))) := by
  obtain ⟨⟨hx, hby, -⟩, -, locs, -, Y⟩ := X
  exact OG.pre (fun _ q => XS.ifNo Y.here hx rfl (hb hby hd) rfl ((if0 _ _).trans (feq hq).1) q) g
theorem OG.if_eq (X : OS B mL own nm rt Z n0 p l e R s m args below meth c T h cells slots) {x : Int32} {o : Int} {pc' : Nat} (hd : decode B pc = .ok (.ifCond .eq o, 3)) (hp : 0 ≤ (pc : Int) + o ∧ ((pc : Int) + o).toNat = pc') (g1 : x = 0 → OG p e below s n0 rc rs Q (T.setTop (mkF m pc' Ls st))) (g2 : ¬ x = 0 → OG p e below s n0 rc rs Q (T.setTop (mkF m (pc + 3) Ls st))) : OG p e below s n0 rc rs Q (T.setTop (mkF m pc Ls (.int x :: st))) :=
  if hq : x = 0 then OG.if_eq_t X hd hp hq (g1 hq) else OG.if_eq_f X hd hq (g2 hq)
theorem OG.ifl_eq_t (X : OS B mL own nm rt Z n0 p l e R s m args below meth c T h cells slots) {x y : Int64} {o : Int} {pc' : Nat} (hd : decode B pc = .ok (.ifCond .eq o, 3)) (hp : 0 ≤ (pc : Int) + o ∧ ((pc : Int) + o).toNat = pc') (hq : x = y) (g : OG p e below s n0 rc rs Q (T.setTop (mkF m pc' Ls st))) : OG p e below s n0 rc rs Q (T.setTop (mkF m pc Ls (.int (lcmpW x y) :: st))) := by
  obtain ⟨⟨hx, hby, -⟩, -, locs, -, Y⟩ := X
  exact OG.pre (fun _ q => XS.ifYes Y.here hx rfl (pc0 := pc) rfl (hb hby hd) rfl ((if0 _ _).trans (teq ((lw_eq x y).mpr hq)).1) hp.1 hp.2 q) g
theorem OG.ifl_eq_f (X : OS B mL own nm rt Z n0 p l e R s m args below meth c T h cells slots) {x y : Int64} {o : Int} (hd : decode B pc = .ok (.ifCond .eq o, 3)) (hq : ¬ x = y) (g : OG p e below s n0 rc rs Q (T.setTop (mkF m (pc + 3) Ls st))) : OG p e below s n0 rc rs Q (T.setTop (mkF m pc Ls (.int (lcmpW x y) :: st))) := by
  obtain ⟨⟨hx, hby, -⟩, -, locs, -, Y⟩ := X
  exact OG.pre (fun _ q => XS.ifNo Y.here hx rfl (hb hby hd) rfl ((if0 _ _).trans (feq (fun q => hq ((lw_eq x y).mp q))).1) q) g
theorem OG.ifl_eq (X : OS B mL own nm rt Z n0 p l e R s m args below meth c T h cells slots) {x y : Int64} {o : Int} {pc' : Nat} (hd : decode B pc = .ok (.ifCond .eq o, 3)) (hp : 0 ≤ (pc : Int) + o ∧ ((pc : Int) + o).toNat = pc') (g1 : x = y → OG p e below s n0 rc rs Q (T.setTop (mkF m pc' Ls st))) (g2 : ¬ x = y → OG p e below s n0 rc rs Q (T.setTop (mkF m (pc + 3) Ls st))) : OG p e below s n0 rc rs Q (T.setTop (mkF m pc Ls (.int (lcmpW x y) :: st))) :=
  if hq : x = y then OG.ifl_eq_t X hd hp hq (g1 hq) else OG.ifl_eq_f X hd hq (g2 hq)
theorem OG.icmp_ne_t (X : OS B mL own nm rt Z n0 p l e R s m args below meth c T h cells slots) {x y : Int32} {o : Int} {pc' : Nat} (hd : decode B pc = .ok (.if_icmp .ne o, 3)) (hp : 0 ≤ (pc : Int) + o ∧ ((pc : Int) + o).toNat = pc') (hq : ¬ x = y) (g : OG p e below s n0 rc rs Q (T.setTop (mkF m pc' Ls st))) : OG p e below s n0 rc rs Q (T.setTop (mkF m pc Ls (.int y :: .int x :: st))) := by
  obtain ⟨⟨hx, hby, -⟩, -, locs, -, Y⟩ := X
  exact OG.pre (fun _ q => XS.icmpYes Y.here hx rfl (pc0 := pc) rfl (hb hby hd) rfl (feq hq).2 hp.1 hp.2 q) g
theorem OG.icmp_ne_f (X : OS B mL own nm rt Z n0 p l e R s m args below meth c T h cells slots) {x y : Int32} {o : Int} (hd : decode B pc = .ok (.if_icmp .ne o, 3)) (hq : x = y) (g : OG p e below s n0 rc rs Q (T.setTop (mkF m (pc + 3) Ls st))) : OG p e below s n0 rc rs Q (T.setTop (mkF m pc Ls (.int y :: .int x :: st))) := by
  obtain ⟨⟨hx, hby, -⟩, -, locs, -, Y⟩ := X
  exact OG.pre (fun _ q => XS.icmpNo Y.here hx rfl (hb hby hd) rfl (teq hq).2 q) g
theorem OG.icmp_ne (X : OS B mL own nm rt Z n0 p l e R s m args below meth c T h cells slots) {x y : Int32} {o : Int} {pc' : Nat} (hd : decode B pc = .ok (.if_icmp .ne o, 3)) (hp : 0 ≤ (pc : Int) + o ∧ ((pc : Int) + o).toNat = pc') (g1 : ¬ x = y → OG p e below s n0 rc rs Q (T.setTop (mkF m pc' Ls st))) (g2 : x = y → OG p e below s n0 rc rs Q (T.setTop (mkF m (pc + 3) Ls st))) : OG p e below s n0 rc rs Q (T.setTop (mkF m pc Ls (.int y :: .int x :: st))) :=
  if hq : x = y then OG.icmp_ne_f X hd hq (g2 hq) else OG.icmp_ne_t X hd hp hq (g1 hq)
theorem OG.if_ne_t (X : OS B mL own nm rt Z n0 p l e R s m args below meth c T h cells slots) {x : Int32} {o : Int} {pc' : Nat} (hd : decode B pc = .ok (.ifCond .ne o, 3)) (hp : 0 ≤ (pc : Int) + o ∧ ((pc : Int) + o).toNat = pc') (hq : ¬ x = 0) (g : OG p e below s n0 rc rs Q (T.setTop (mkF m pc' Ls st))) : OG p e below s n0 rc rs Q (T.setTop (mkF m pc Ls (.int x :: st))) := by
  obtain ⟨⟨hx, hby, -⟩, -, locs, -, Y⟩ := X
  exact OG.pre (fun _ q => XS.ifYes Y.here hx rfl (pc0 := pc) rfl (hb hby hd) rfl ((if0 _ _).trans (feq hq).2) hp.1 hp.2 q) g
theorem OG.if_ne_f (X : OS B mL own nm rt Z n0 p l e R s m args below meth c T h cells slots) {x : Int32} {o : Int} (hd : decode B pc = .ok (.ifCond .ne o, 3)) (hq : x = 0) (g : OG p e below s n0 rc rs Q (T.setTop (mkF m (pc + 3) Ls st))) : OG p e below s n0 rc rs Q (T.setTop (mkF m pc Ls (.int x :: st))) := by
  obtain ⟨⟨hx, hby, -⟩, -, locs, -, Y⟩ := X
  exact OG.pre (fun _ q => XS.ifNo Y.here hx rfl (hb hby hd) rfl ((if0 _ _).trans (teq hq).2) q) g
theorem OG.if_ne (X : OS B mL own nm rt Z n0 p l e R s m args below meth c T h cells slots) {x : Int32} {o : Int} {pc' : Nat} (hd : decode B pc = .ok (.ifCond .ne o, 3)) (hp : 0 ≤ (pc : Int) + o ∧ ((pc : Int) + o).toNat = pc') (g1 : ¬ x = 0 → OG p e below s n0 rc rs Q (T.setTop (mkF m pc' Ls st))) (g2 : x = 0 → OG p e below s n0 rc rs Q (T.setTop (mkF m (pc + 3) Ls st))) : OG p e below s n0 rc rs Q (T.setTop (mkF m pc Ls (.int x :: st))) :=
  if hq : x = 0 then OG.if_ne_f X hd hq (g2 hq) else OG.if_ne_t X hd hp hq (g1 hq)
theorem OG.ifl_ne_t (X : OS B mL own nm rt Z n0 p l e R s m args below meth c T h cells slots) {x y : Int64} {o : Int} {pc' : Nat} (hd : decode B pc = .ok (.ifCond .ne o, 3)) (hp : 0 ≤ (pc : Int) + o ∧ ((pc : Int) + o).toNat = pc') (hq : ¬ x = y) (g : OG p e below s n0 rc rs Q (T.setTop (mkF m pc' Ls st))) : OG p e below s n0 rc rs Q (T.setTop (mkF m pc Ls (.int (lcmpW x y) :: st))) := by
  obtain ⟨⟨hx, hby, -⟩, -, locs, -, Y⟩ := X
  exact OG.pre (fun _ q => XS.ifYes Y.here hx rfl (pc0 := pc) rfl (hb hby hd) rfl ((if0 _ _).trans (feq (fun q => hq ((lw_eq x y).mp q))).2) hp.1 hp.2 q) g
theorem OG.ifl_ne_f (X : OS B mL own nm rt Z n0 p l e R s m args below meth c T h cells slots) {x y : Int64} {o : Int} (hd : decode B pc = .ok (.ifCond .ne o, 3)) (hq : x = y) (g : OG p e below s n0 rc rs Q (T.setTop (mkF m (pc + 3) Ls st))) : OG p e below s n0 rc rs Q (T.setTop (mkF m pc Ls (.int (lcmpW x y) :: st))) := by
  obtain ⟨⟨hx, hby, -⟩, -, locs, -, Y⟩ := X
  exact OG.pre (fun _ q => XS.ifNo Y.here hx rfl (hb hby hd) rfl ((if0 _ _).trans (teq ((lw_eq x y).mpr hq)).2) q) g
theorem OG.ifl_ne (X : OS B mL own nm rt Z n0 p l e R s m args below meth c T h cells slots) {x y : Int64} {o : Int} {pc' : Nat} (hd : decode B pc = .ok (.ifCond .ne o, 3)) (hp : 0 ≤ (pc : Int) + o ∧ ((pc : Int) + o).toNat = pc') (g1 : ¬ x = y → OG p e below s n0 rc rs Q (T.setTop (mkF m pc' Ls st))) (g2 : x = y → OG p e below s n0 rc rs Q (T.setTop (mkF m (pc + 3) Ls st))) : OG p e below s n0 rc rs Q (T.setTop (mkF m pc Ls (.int (lcmpW x y) :: st))) :=
  if hq : x = y then OG.ifl_ne_f X hd hq (g2 hq) else OG.ifl_ne_t X hd hp hq (g1 hq)
theorem OG.ifnullYes (X : OS B mL own nm rt Z n0 p l e R s m args below meth c T h cells slots)  {o : Int} {pc' : Nat} (hd : decode B pc = .ok (.ifnull o, 3)) (hp : 0 ≤ (pc : Int) + o ∧ ((pc : Int) + o).toNat = pc') (g : OG p e below s n0 rc rs Q (T.setTop (mkF m pc' Ls st))) : OG p e below s n0 rc rs Q (T.setTop (mkF m pc Ls (.null :: st))) := by
  obtain ⟨⟨hx, hby, -⟩, -, locs, -, Y⟩ := X
  exact OG.pre (fun _ q => XS.ifnullYes Y.here hx rfl (pc0 := pc) rfl (hb hby hd) rfl hp.1 hp.2 q) g
theorem OG.ifnonnullYes (X : OS B mL own nm rt Z n0 p l e R s m args below meth c T h cells slots) {a : Addr} {o : Int} {pc' : Nat} (hd : decode B pc = .ok (.ifnonnull o, 3)) (hp : 0 ≤ (pc : Int) + o ∧ ((pc : Int) + o).toNat = pc') (g : OG p e below s n0 rc rs Q (T.setTop (mkF m pc' Ls st))) : OG p e below s n0 rc rs Q (T.setTop (mkF m pc Ls (.ref a :: st))) := by
  obtain ⟨⟨hx, hby, -⟩, -, locs, -, Y⟩ := X
  exact OG.pre (fun _ q => XS.ifnonnullYes Y.here hx rfl (pc0 := pc) rfl (hb hby hd) rfl hp.1 hp.2 q) g
theorem OG.ifnullNo (X : OS B mL own nm rt Z n0 p l e R s m args below meth c T h cells slots) {a : Addr} {o : Int} (hd : decode B pc = .ok (.ifnull o, 3)) (g : OG p e below s n0 rc rs Q (T.setTop (mkF m (pc + 3) Ls st))) : OG p e below s n0 rc rs Q (T.setTop (mkF m pc Ls (.ref a :: st))) := by
  obtain ⟨⟨hx, hby, -⟩, -, locs, -, Y⟩ := X
  exact OG.pre (fun _ q => XS.ifnullNo Y.here hx rfl (hb hby hd) rfl q) g
theorem OG.ifnonnullNo (X : OS B mL own nm rt Z n0 p l e R s m args below meth c T h cells slots)  {o : Int} (hd : decode B pc = .ok (.ifnonnull o, 3)) (g : OG p e below s n0 rc rs Q (T.setTop (mkF m (pc + 3) Ls st))) : OG p e below s n0 rc rs Q (T.setTop (mkF m pc Ls (.null :: st))) := by
  obtain ⟨⟨hx, hby, -⟩, -, locs, -, Y⟩ := X
  exact OG.pre (fun _ q => XS.ifnonnullNo Y.here hx rfl (hb hby hd) rfl q) g
theorem OG.acmp_eq_t (X : OS B mL own nm rt Z n0 p l e R s m args below meth c T h cells slots) {x y : Addr} {o : Int} {pc' : Nat} (hd : decode B pc = .ok (.if_acmp .eq o, 3)) (hp : 0 ≤ (pc : Int) + o ∧ ((pc : Int) + o).toNat = pc') (hq : x = y) (g : OG p e below s n0 rc rs Q (T.setTop (mkF m pc' Ls st))) : OG p e below s n0 rc rs Q (T.setTop (mkF m pc Ls (.ref y :: .ref x :: st))) := by
  obtain ⟨⟨hx, hby, -⟩, -, locs, -, Y⟩ := X
  exact OG.pre (fun _ q => RoadKit.acmp Y hx rfl rfl rfl (pc0 := pc) (pc' := pc') (same := true) rfl (hb hby hd) rfl (decide_eq_true (congrArg Value.ref hq)) hp.1 (by simp [acV, hp.2]) q) g
theorem OG.acmp_eq_f (X : OS B mL own nm rt Z n0 p l e R s m args below meth c T h cells slots) {x y : Addr} {o : Int} {pc' : Nat} (hd : decode B pc = .ok (.if_acmp .eq o, 3)) (hp : 0 ≤ (pc : Int) + o ∧ ((pc : Int) + o).toNat = pc') (hq : ¬ x = y) (g : OG p e below s n0 rc rs Q (T.setTop (mkF m (pc + 3) Ls st))) : OG p e below s n0 rc rs Q (T.setTop (mkF m pc Ls (.ref y :: .ref x :: st))) := by
  obtain ⟨⟨hx, hby, -⟩, -, locs, -, Y⟩ := X
  exact OG.pre (fun _ q => RoadKit.acmp Y hx rfl rfl rfl (pc0 := pc) (pc' := (pc + 3)) (same := false) rfl (hb hby hd) rfl (decide_eq_false fun q => hq (Value.ref.inj q)) hp.1 (by simp [acV]) q) g
theorem OG.acmp_ne_f (X : OS B mL own nm rt Z n0 p l e R s m args below meth c T h cells slots) {x y : Addr} {o : Int} {pc' : Nat} (hd : decode B pc = .ok (.if_acmp .ne o, 3)) (hp : 0 ≤ (pc : Int) + o ∧ ((pc : Int) + o).toNat = pc') (hq : x = y) (g : OG p e below s n0 rc rs Q (T.setTop (mkF m (pc + 3) Ls st))) : OG p e below s n0 rc rs Q (T.setTop (mkF m pc Ls (.ref y :: .ref x :: st))) := by
  obtain ⟨⟨hx, hby, -⟩, -, locs, -, Y⟩ := X
  exact OG.pre (fun _ q => RoadKit.acmp Y hx rfl rfl rfl (pc0 := pc) (pc' := (pc + 3)) (same := true) rfl (hb hby hd) rfl (decide_eq_true (congrArg Value.ref hq)) hp.1 (by simp [acV]) q) g
theorem OG.acmp_ne_t (X : OS B mL own nm rt Z n0 p l e R s m args below meth c T h cells slots) {x y : Addr} {o : Int} {pc' : Nat} (hd : decode B pc = .ok (.if_acmp .ne o, 3)) (hp : 0 ≤ (pc : Int) + o ∧ ((pc : Int) + o).toNat = pc') (hq : ¬ x = y) (g : OG p e below s n0 rc rs Q (T.setTop (mkF m pc' Ls st))) : OG p e below s n0 rc rs Q (T.setTop (mkF m pc Ls (.ref y :: .ref x :: st))) := by
  obtain ⟨⟨hx, hby, -⟩, -, locs, -, Y⟩ := X
  exact OG.pre (fun _ q => RoadKit.acmp Y hx rfl rfl rfl (pc0 := pc) (pc' := pc') (same := false) rfl (hb hby hd) rfl (decide_eq_false fun q => hq (Value.ref.inj q)) hp.1 (by simp [acV, hp.2]) q) g
theorem OG.acmp_eq (X : OS B mL own nm rt Z n0 p l e R s m args below meth c T h cells slots) {x y : Addr} {o : Int} {pc' : Nat} (hd : decode B pc = .ok (.if_acmp .eq o, 3)) (hp : 0 ≤ (pc : Int) + o ∧ ((pc : Int) + o).toNat = pc') (g1 : x = y → OG p e below s n0 rc rs Q (T.setTop (mkF m pc' Ls st))) (g2 : ¬ x = y → OG p e below s n0 rc rs Q (T.setTop (mkF m (pc + 3) Ls st))) : OG p e below s n0 rc rs Q (T.setTop (mkF m pc Ls (.ref y :: .ref x :: st))) :=
  if hq : x = y then OG.acmp_eq_t X hd hp hq (g1 hq) else OG.acmp_eq_f X hd hp hq (g2 hq)
theorem OG.acmp_ne (X : OS B mL own nm rt Z n0 p l e R s m args below meth c T h cells slots) {x y : Addr} {o : Int} {pc' : Nat} (hd : decode B pc = .ok (.if_acmp .ne o, 3)) (hp : 0 ≤ (pc : Int) + o ∧ ((pc : Int) + o).toNat = pc') (g1 : x = y → OG p e below s n0 rc rs Q (T.setTop (mkF m (pc + 3) Ls st))) (g2 : ¬ x = y → OG p e below s n0 rc rs Q (T.setTop (mkF m pc' Ls st))) : OG p e below s n0 rc rs Q (T.setTop (mkF m pc Ls (.ref y :: .ref x :: st))) :=
  if hq : x = y then OG.acmp_ne_f X hd hp hq (g1 hq) else OG.acmp_ne_t X hd hp hq (g2 hq)
theorem OG.retI {z : Int32} (X : OS B mL own nm (some .int) Z n0 p l e R s m args below meth c T h cells slots) (hd : decode B pc = .ok (.ireturn, 1))  (hc : cells ≤ rc) (hs : slots ≤ rs) (hQ : Q (some (.int z)) h) : OG p e below s n0 rc rs Q (T.setTop (mkF m pc Ls (.int z :: st))) := by
  obtain ⟨⟨hx, hby, -, -, -, hrt, hlk, -⟩, eT, locs, N, Y⟩ := X
  obtain ⟨fs, hr, hrun, hended, hW, hsame⟩ := Y.leave (v := (some (.int z))) (fun q => by first | rfl | (rw [hrt] at q; cases q)) hlk
  refine ⟨_, _, ?_, hrun, hended, _, _, rfl, ⟨?_, N⟩, ⟨_, rfl⟩, hW, hsame.mono hc hs⟩
  · exact Jvm.RoadKit.retI Y hx hrt (hb hby hd) hr
  · show Q _ T.heap
    rw [eT]; exact hQ
theorem OG.retN {z : Int32} {t : FieldType} (X : OS B mL own nm (some t) Z n0 p l e R s m args below meth c T h cells slots) (hd : decode B pc = .ok (.ireturn, 1)) (ht : t = .boolean ∨ t = .byte ∨ t = .char ∨ t = .short) (hc : cells ≤ rc) (hs : slots ≤ rs) (hQ : Q (some (.int (nar t z))) h) : OG p e below s n0 rc rs Q (T.setTop (mkF m pc Ls (.int z :: st))) := by
  obtain ⟨⟨hx, hby, -, -, -, hrt, hlk, -⟩, eT, locs, N, Y⟩ := X
  obtain ⟨fs, hr, hrun, hended, hW, hsame⟩ := Y.leave (v := (some (.int (nar t z)))) (fun q => by first | rfl | (rw [hrt] at q; cases q)) hlk
  refine ⟨_, _, ?_, hrun, hended, _, _, rfl, ⟨?_, N⟩, ⟨_, rfl⟩, hW, hsame.mono hc hs⟩
  · exact Jvm.RoadKit.retN Y hx (t := t) hrt ht (hb hby hd) hr
  · show Q _ T.heap
    rw [eT]; exact hQ
theorem OG.retJ {z : Int64} (X : OS B mL own nm (some .long) Z n0 p l e R s m args below meth c T h cells slots) (hd : decode B pc = .ok (.lreturn, 1))  (hc : cells ≤ rc) (hs : slots ≤ rs) (hQ : Q (some (.long z)) h) : OG p e below s n0 rc rs Q (T.setTop (mkF m pc Ls (.long z :: st))) := by
  obtain ⟨⟨hx, hby, -, -, -, hrt, hlk, -⟩, eT, locs, N, Y⟩ := X
  obtain ⟨fs, hr, hrun, hended, hW, hsame⟩ := Y.leave (v := (some (.long z))) (fun q => by first | rfl | (rw [hrt] at q; cases q)) hlk
  refine ⟨_, _, ?_, hrun, hended, _, _, rfl, ⟨?_, N⟩, ⟨_, rfl⟩, hW, hsame.mono hc hs⟩
  · exact Jvm.RoadKit.retOut (t := .long) Y hx hrt rfl (Or.inr (Or.inl ⟨rfl, rfl, _, rfl⟩)) (hb hby hd) hr
  · show Q _ T.heap
    rw [eT]; exact hQ
theorem OG.retA {w : Value} {t : FieldType} (X : OS B mL own nm (some t) Z n0 p l e R s m args below meth c T h cells slots) (hd : decode B pc = .ok (.areturn, 1)) (ht : t.isReference = true) (hw : w.isRef = true) (hc : cells ≤ rc) (hs : slots ≤ rs) (hQ : Q (some w) h) : OG p e below s n0 rc rs Q (T.setTop (mkF m pc Ls (w :: st))) := by
  obtain ⟨⟨hx, hby, -, -, -, hrt, hlk, -⟩, eT, locs, N, Y⟩ := X
  obtain ⟨fs, hr, hrun, hended, hW, hsame⟩ := Y.leave (v := (some w)) (fun q => by first | rfl | (rw [hrt] at q; cases q)) hlk
  refine ⟨_, _, ?_, hrun, hended, _, _, rfl, ⟨?_, N⟩, ⟨_, rfl⟩, hW, hsame.mono hc hs⟩
  · exact Jvm.RoadKit.retOut (t := t) Y hx hrt (by rcases ref_cases hw with rfl | ⟨z, rfl⟩ <;> cases t <;> rfl) (Or.inr (Or.inr (Or.inr (Or.inr ⟨rfl, ht, hw⟩)))) (hb hby hd) hr
  · show Q _ T.heap
    rw [eT]; exact hQ
theorem OG.retV  (X : OS B mL own nm none Z n0 p l e R s m args below meth c T h cells slots) (hd : decode B pc = .ok (.return_, 1))  (hc : cells ≤ rc) (hs : slots ≤ rs) (hQ : Q none h) : OG p e below s n0 rc rs Q (T.setTop (mkF m pc Ls [])) := by
  obtain ⟨⟨hx, hby, -, -, -, hrt, hlk, -⟩, eT, locs, N, Y⟩ := X
  obtain ⟨fs, hr, hrun, hended, hW, hsame⟩ := Y.leave (v := none) (fun q => by first | rfl | (rw [hrt] at q; cases q)) hlk
  refine ⟨_, _, ?_, hrun, hended, _, _, rfl, ⟨?_, N⟩, ⟨_, rfl⟩, hW, hsame.mono hc hs⟩
  · exact Y.returnOut hx hrt (hb hby hd) hr
  · show Q _ T.heap
    rw [eT]; exact hQ
theorem OG.ldcInt (X : OS B mL own nm rt Z n0 p l e R s m args below meth c T h cells slots) {index : Nat} {v : Int32} (w : (Cond.constant own index v).before a0 Z = true) (hd : decode B pc = .ok (.ldc index, 2)) (g : OG p e below s n0 rc rs Q (T.setTop (mkF m (pc + 2) Ls (.int v :: st)))) : OG p e below s n0 rc rs Q (T.setTop (mkF m pc Ls st)) := by
  obtain ⟨⟨hx, hby, -, hown, -, -, -, hZ⟩, -, locs, -, Y⟩ := X
  exact OG.pre (fun _ k => Y.ldcInt hx hown (mvT hZ w) (g := mkF m pc Ls st) rfl (hb hby hd) _ k) g
theorem OG.ldcwInt (X : OS B mL own nm rt Z n0 p l e R s m args below meth c T h cells slots) {index : Nat} {v : Int32} (w : (Cond.constant own index v).before a0 Z = true) (hd : decode B pc = .ok (.ldc_w index, 3)) (g : OG p e below s n0 rc rs Q (T.setTop (mkF m (pc + 3) Ls (.int v :: st)))) : OG p e below s n0 rc rs Q (T.setTop (mkF m pc Ls st)) := by
  obtain ⟨⟨hx, hby, -, hown, -, -, -, hZ⟩, -, locs, -, Y⟩ := X
  exact OG.pre (fun _ k => Y.ldcwInt hx hown (mvT hZ w) (g := mkF m pc Ls st) rfl (hb hby hd) _ k) g
theorem OG.ldc2Long (X : OS B mL own nm rt Z n0 p l e R s m args below meth c T h cells slots) {index : Nat} {v : Int64} (w : (Cond.constantLong own index v).before a0 Z = true) (hd : decode B pc = .ok (.ldc2_w index, 3)) (g : OG p e below s n0 rc rs Q (T.setTop (mkF m (pc + 3) Ls (.long v :: st)))) : OG p e below s n0 rc rs Q (T.setTop (mkF m pc Ls st)) := by
  obtain ⟨⟨hx, hby, -, hown, -, -, -, hZ⟩, -, locs, -, Y⟩ := X
  exact OG.pre (fun _ k => Y.ldc2Long hx hown (mvT hZ w) (g := mkF m pc Ls st) rfl (hb hby hd) _ k) g
theorem OG.getF (X : OS B mL own nm rt Z n0 p l e R s m args below meth c T h cells slots) {R0 O n d host : String} {index : Nat} (w : (Cond.fieldLink own index R0 n d).before a0 Z = true ∨ (Cond.fieldLinkNest own index R0 n d host).before a0 Z = true) (via : Via Z R0 O n d) {a : Addr} {v : Value} (F : Fld Z h a O n d v) (hd : decode B pc = .ok (.getfield index, 3)) (g : ∀ T', OS B mL own nm rt Z n0 p l e R s m args below meth c T' h cells slots → OG p e below s n0 rc rs Q (T'.setTop (mkF m (pc + 3) Ls (v :: st)))) : OG p e below s n0 rc rs Q (T.setTop (mkF m pc Ls (.ref a :: st))) := by
  obtain ⟨h0, eT, locs, N, Y⟩ := X
  have h0' := h0
  obtain ⟨hx, hby, -, hown, -, -, -, hZ⟩ := h0'
  obtain ⟨T', Y', e', stp⟩ := RoadKit.getF Y hx hZ hown w via eT F (g := mkF m pc Ls (.ref a :: st)) rfl rfl (hb hby hd)
  exact OG.pre stp (g T' ⟨h0, e', locs, N, Y'⟩)
theorem OG.getS (X : OS B mL own nm rt Z n0 p l e R s m args below meth c T h cells slots) {R0 O n d host : String} {index : Nat} (w : (Cond.fieldLink own index R0 n d).before a0 Z = true ∨ (Cond.fieldLinkNest own index R0 n d host).before a0 Z = true) (via : Via Z R0 O n d) {v : Value} (F : Sta Z h O n d v) (hd : decode B pc = .ok (.getstatic index, 3)) (g : ∀ T', OS B mL own nm rt Z n0 p l e R s m args below meth c T' h cells slots → OG p e below s n0 rc rs Q (T'.setTop (mkF m (pc + 3) Ls (v :: st)))) : OG p e below s n0 rc rs Q (T.setTop (mkF m pc Ls st)) := by
  obtain ⟨h0, eT, locs, N, Y⟩ := X
  have h0' := h0
  obtain ⟨hx, hby, -, hown, -, -, -, hZ⟩ := h0'
  obtain ⟨T', Y', e', stp⟩ := RoadKit.getS2 Y hx hZ hown w via eT F (g := mkF m pc Ls st) rfl (hb hby hd)
  exact OG.pre stp (g T' ⟨h0, e', locs, N, Y'⟩)
theorem OG.putF (X : OS B mL own nm rt Z n0 p l e R s m args below meth c T h cells slots) {R0 O n d host C : String} {index kk : Nat} {ty : FieldType} (w : (Cond.fieldLink own index R0 n d).before a0 Z = true ∨ (Cond.fieldLinkNest own index R0 n d host).before a0 Z = true) (via : Via Z R0 O n d) {a : Addr} {v old : Value} (F : Fld Z h a O n d old) (E : Exa Z h a C) (L : (Cond.lays C O n d).before a0 Z = true ∨ ((Cond.laysFinal C O n d).before a0 Z = true ∧ own = O ∧ nm = "<init>")) (wi : (Cond.instantiable C kk).before a0 Z = true) (hty : parseFieldDescriptor d = some ty) (hn : narrow ty v = v) (hf : fits ty v = true) (hd : decode B pc = .ok (.putfield index, 3)) (ge : n0 ≤ a) (g : ∀ T' h', OS B mL own nm rt Z n0 p l e R s m args below meth c T' h' cells slots → Wr h h' a (slotOf Z O n d) v → OG p e below s n0 rc rs Q (T'.setTop (mkF m (pc + 3) Ls st))) : OG p e below s n0 rc rs Q (T.setTop (mkF m pc Ls (v :: .ref a :: st))) := by
  obtain ⟨h0, eT, locs, N, Y⟩ := X
  have h0' := h0
  obtain ⟨hx, hby, -, hown, hnm, -, -, hZ⟩ := h0'
  obtain ⟨T', h', Y', e', W, stp⟩ := RoadKit.putF Y hx hZ hown w via eT F E (L.imp id fun q => ⟨q.1, q.2.1, hnm.trans q.2.2⟩) wi hty hn hf (g := mkF m pc Ls (v :: .ref a :: st)) rfl rfl (hb hby hd)
  exact OG.pre stp (g T' h' ⟨h0, e', _, Fr.snoc Y' N ge, Y'⟩ W)
theorem OG.putFN (X : OS B mL own nm rt Z n0 p l e R s m args below meth c T h cells slots) {R0 O n d C : String} {index kk : Nat} {ty : FieldType} (w : (Cond.fieldLink own index R0 n d).before a0 Z = true) (via : Via Z R0 O n d) {a : Addr} {v v' old : Value} (F : Fld Z h a O n d old) (E : Exa Z h a C) (L : (Cond.lays C O n d).before a0 Z = true ∨ ((Cond.laysFinal C O n d).before a0 Z = true ∧ own = O ∧ nm = "<init>")) (wi : (Cond.instantiable C kk).before a0 Z = true) (hty : parseFieldDescriptor d = some ty) (hn : narrow ty v = v') (hf : fits ty v' = true) (hd : decode B pc = .ok (.putfield index, 3)) (ge : n0 ≤ a) (g : ∀ T' h', OS B mL own nm rt Z n0 p l e R s m args below meth c T' h' cells slots → Wr h h' a (slotOf Z O n d) v' → OG p e below s n0 rc rs Q (T'.setTop (mkF m (pc + 3) Ls st))) : OG p e below s n0 rc rs Q (T.setTop (mkF m pc Ls (v :: .ref a :: st))) := by
  obtain ⟨h0, eT, locs, N, Y⟩ := X
  have h0' := h0
  obtain ⟨hx, hby, -, hown, hnm, -, -, hZ⟩ := h0'
  obtain ⟨T', h', Y', e', W, stp⟩ := RoadKit.putFN Y hx hZ hown w via eT F E (L.imp id fun q => ⟨q.1, q.2.1, hnm.trans q.2.2⟩) wi hty hn hf (g := mkF m pc Ls (v :: .ref a :: st)) rfl rfl (hb hby hd)
  exact OG.pre stp (g T' h' ⟨h0, e', _, Fr.snoc Y' N ge, Y'⟩ W)
theorem OG.newO (X : OS B mL own nm rt Z n0 p l e R s m args below meth c T h cells slots) {C : String} {index n : Nat} (w : (Cond.classLink own index C).before a0 Z = true) (wi : (Cond.instantiable C n).before a0 Z = true) (wz : (Cond.initialized C).before a0 Z = true) (hd : decode B pc = .ok (.new index, 3)) (hc : cells + 1 ≤ R.cells) (hl : slots + n ≤ R.slots) (g : ∀ T' h' a, a = h.size → OS B mL own nm rt Z n0 p l e R s m args below meth c T' h' (cells + 1) (slots + n) → Ext h h' → Exa Z h' a C → (∀ {O nm d : String} {ty : FieldType}, Laid Z a0 C O nm d → parseFieldDescriptor d = some ty → Fld Z h' a O nm d (defaultValue ty)) → OG p e below s n0 rc rs Q (T'.setTop (mkF m (pc + 3) Ls (.ref a :: st)))) : OG p e below s n0 rc rs Q (T.setTop (mkF m pc Ls st)) := by
  obtain ⟨h0, eT, locs, N, Y⟩ := X
  have h0' := h0
  obtain ⟨hx, hby, -, hown, hnm, -, -, hZ⟩ := h0'
  obtain ⟨T', h', Y', e', E', A', D', -, stp⟩ := RoadKit.newO Y hx hZ hown w wi wz eT (g := mkF m pc Ls st) rfl (hb hby hd) hc hl
  exact OG.pre stp (g T' h' _ rfl ⟨h0, e', _, N, Y'⟩ E' A' D')
theorem OG.newP (X : OS B mL own nm rt Z n0 p l e R s m args below meth c T h cells slots) {aty : ArrayType} (w : (Cond.arrayClass (newarray.typeOf aty)).before a0 Z = true) {n : Int32} (hd : decode B pc = .ok (.newarray aty, 2)) (hn : ¬ n < 0) {cap : Nat} (hcap : n.toNatClampNeg ≤ cap) (hb8 : cap * 8 ≤ 536870912) (hc : cells + 1 ≤ R.cells) (hl : slots + cap ≤ R.slots) (g : ∀ T' h' a, a = h.size → OS B mL own nm rt Z n0 p l e R s m args below meth c T' h' (cells + 1) (slots + cap) → Ext h h' → (∃ cA, Arr Z h' a (newA cA (newarray.typeOf aty) n) (newarray.typeOf aty)) → OG p e below s n0 rc rs Q (T'.setTop (mkF m (pc + 2) Ls (.ref a :: st)))) : OG p e below s n0 rc rs Q (T.setTop (mkF m pc Ls (.int n :: st))) := by
  obtain ⟨h0, eT, locs, N, Y⟩ := X
  have h0' := h0
  obtain ⟨hx, hby, -, hown, hnm, -, -, hZ⟩ := h0'
  obtain ⟨T', h', cA, Y', e', E', A', stp⟩ := RoadKit.newP Y hx hZ w eT (g := mkF m pc Ls (.int n :: st)) rfl (hb hby hd) rfl hn hcap hb8 hc hl
  exact OG.pre stp (g T' h' _ rfl ⟨h0, e', _, N, Y'⟩ E' ⟨cA, A'⟩)
/-- an array of ints, bytes, chars, booleans: its length and what it holds -/
def Ia (Z : State) (h : Heap) (a : Addr) (ty : FieldType) (n : Nat) (f : Nat → Int32) : Prop := ∃ cl : Cell, Arr Z h a cl ty ∧ cl.slots.size = n ∧ n < 2 ^ 31 ∧ ∀ i, i < n → cl.slots[i]? = some (.int (f i))
variable {a b : Addr} {h' : Heap} {ty : FieldType} {n : Nat} {f : Nat → Int32} {sl : Nat} {v : Value} {wl : List Addr}
theorem Ia.lt (F : Ia Z h a ty n f) : a < h.size := by obtain ⟨c, A, -⟩ := F; exact A.lt
theorem Ia.ext (F : Ia Z h a ty n f) (E : Ext h h') : Ia Z h' a ty n f := by obtain ⟨c, A, r⟩ := F; exact ⟨c, A.ext E, r⟩
theorem Ia.other (F : Ia Z h b ty n f) (W : Wr h h' a sl v) (q : b ≠ a) : Ia Z h' b ty n f := by obtain ⟨c, A, r⟩ := F; exact ⟨c, A.other W q, r⟩
theorem Ia.keep (F : Ia Z h a ty n f) (K : Keep h h' wl) (q : a ∉ wl) : Ia Z h' a ty n f := by obtain ⟨c, A, r⟩ := F; exact ⟨c, ⟨K.2.1 a c A.1 q, A.2⟩, r⟩
theorem Ia.congr {f' : Nat → Int32} (F : Ia Z h a ty n f) (q : ∀ i, i < n → f i = f' i) : Ia Z h a ty n f' := by obtain ⟨c, A, r1, r2, r3⟩ := F; exact ⟨c, A, r1, r2, fun i hi => by rw [← q i hi]; exact r3 i hi⟩
theorem Ia.len (F : Ia Z h a ty n f) : n < 2 ^ 31 := by obtain ⟨c, A, r1, r2, r3⟩ := F; exact r2
theorem Ia.new {cA : ClassId} {k : Int32} (A : Arr Z h a (newA cA ty k) ty) (q : ¬ k < 0) (hk : k.toNatClampNeg = n) (hty : defaultValue ty = .int 0) : Ia Z h a ty n (fun _ => 0) := by
  subst hk
  refine ⟨_, A, sz_new _ _ _, ?_, fun i hi => ?_⟩
  · have := k.toInt_lt; simp only [Int32.toNatClampNeg]; omega
  · simp [newA, hi, hty]
theorem Ia.set {j : Nat} {x : Int32} (F : Ia Z h a ty n f) (W : Wr h h' a j (.int x)) : Ia Z h' a ty n (fun i => if i = j then x else f i) := by
  obtain ⟨c, A, r1, r2, r3⟩ := F
  refine ⟨_, A.same W, by rw [sz_set]; exact r1, r2, fun i hi => ?_⟩
  by_cases q : i = j
  · subst q; simp [Cell.setSlot, r1, hi]
  · have := r3 i hi
    simp only [Cell.setSlot, if_neg q]
    rw [Array.getElem?_setIfInBounds_ne (fun u => q u.symm)]; exact this
theorem idx32 {j : Int32} {n : Nat} (h1 : 0 ≤ j.toInt) (h2 : j.toInt < n) : ¬ (j < 0 ∨ n ≤ j.toNatClampNeg) := by
  have e0 : (0 : Int32).toInt = 0 := rfl
  simp only [Int32.lt_iff_toInt_lt, Int32.toNatClampNeg, e0]; omega
theorem len32 {n : Nat} (h : n < 2 ^ 31) : n.toInt32.toInt = n := Int32.toInt_ofNat_small h
theorem OG.iaload (X : OS B mL own nm rt Z n0 p l e R s m args below meth c T h cells slots) {a : Addr} {n : Nat} {f : Nat → Int32} (F : Ia Z h a .int n f) {j : Int32} (hj : 0 ≤ j.toInt ∧ j.toInt < n) (hd : decode B pc = .ok (.iaload, 1)) (g : OG p e below s n0 rc rs Q (T.setTop (mkF m (pc + 1) Ls (.int (f j.toInt.toNat) :: st)))) : OG p e below s n0 rc rs Q (T.setTop (mkF m pc Ls (.int j :: .ref a :: st))) := by
  obtain ⟨⟨hx, hby, -, -, -, -, -, hZ⟩, eT, locs, -, Y⟩ := X
  obtain ⟨cl, A, r1, r2, r3⟩ := F
  have hi := idx32 hj.1 hj.2
  have hq : j.toInt.toNat < n := by omega
  exact OG.pre (fun _ k => Y.iaload hx (j := j) (v := .int (f j.toInt.toNat)) (by rw [eT]; exact A.1) (State.isArrayOf_alike hZ.alike A.2.1) A.2.2 (by rw [r1]; exact hi) (r3 _ hq) (g := mkF m pc Ls (.int j :: .ref a :: st)) rfl rfl (hb hby hd) _ k) g
theorem OG.baload (X : OS B mL own nm rt Z n0 p l e R s m args below meth c T h cells slots) {a : Addr} {n : Nat} {f : Nat → Int32} (F : Ia Z h a .byte n f) {j : Int32} (hj : 0 ≤ j.toInt ∧ j.toInt < n) (hd : decode B pc = .ok (.baload, 1)) (g : OG p e below s n0 rc rs Q (T.setTop (mkF m (pc + 1) Ls (.int (f j.toInt.toNat) :: st)))) : OG p e below s n0 rc rs Q (T.setTop (mkF m pc Ls (.int j :: .ref a :: st))) := by
  obtain ⟨⟨hx, hby, -, -, -, -, -, hZ⟩, eT, locs, -, Y⟩ := X
  obtain ⟨cl, A, r1, r2, r3⟩ := F
  have hi := idx32 hj.1 hj.2
  have hq : j.toInt.toNat < n := by omega
  exact OG.pre (fun _ k => Y.baloadBytes hx (j := j) (v := .int (f j.toInt.toNat)) (by rw [eT]; exact A.1) (State.isArrayOf_alike hZ.alike A.2.1) A.2.2 (by rw [r1]; exact hi) (r3 _ hq) (g := mkF m pc Ls (.int j :: .ref a :: st)) rfl rfl (hb hby hd) _ k) g
theorem OG.zaload (X : OS B mL own nm rt Z n0 p l e R s m args below meth c T h cells slots) {a : Addr} {n : Nat} {f : Nat → Int32} (F : Ia Z h a .boolean n f) {j : Int32} (hj : 0 ≤ j.toInt ∧ j.toInt < n) (hd : decode B pc = .ok (.baload, 1)) (g : OG p e below s n0 rc rs Q (T.setTop (mkF m (pc + 1) Ls (.int (f j.toInt.toNat) :: st)))) : OG p e below s n0 rc rs Q (T.setTop (mkF m pc Ls (.int j :: .ref a :: st))) := by
  obtain ⟨⟨hx, hby, -, -, -, -, -, hZ⟩, eT, locs, -, Y⟩ := X
  obtain ⟨cl, A, r1, r2, r3⟩ := F
  have hi := idx32 hj.1 hj.2
  have hq : j.toInt.toNat < n := by omega
  exact OG.pre (fun _ k => Y.baloadBooleans hx (j := j) (v := .int (f j.toInt.toNat)) (by rw [eT]; exact A.1) (State.isArrayOf_alike hZ.alike A.2.1) A.2.2 (by rw [r1]; exact hi) (r3 _ hq) (g := mkF m pc Ls (.int j :: .ref a :: st)) rfl rfl (hb hby hd) _ k) g
theorem OG.caload (X : OS B mL own nm rt Z n0 p l e R s m args below meth c T h cells slots) {a : Addr} {n : Nat} {f : Nat → Int32} (F : Ia Z h a .char n f) {j : Int32} (hj : 0 ≤ j.toInt ∧ j.toInt < n) (hd : decode B pc = .ok (.caload, 1)) (g : OG p e below s n0 rc rs Q (T.setTop (mkF m (pc + 1) Ls (.int (f j.toInt.toNat) :: st)))) : OG p e below s n0 rc rs Q (T.setTop (mkF m pc Ls (.int j :: .ref a :: st))) := by
  obtain ⟨⟨hx, hby, -, -, -, -, -, hZ⟩, eT, locs, -, Y⟩ := X
  obtain ⟨cl, A, r1, r2, r3⟩ := F
  have hi := idx32 hj.1 hj.2
  have hq : j.toInt.toNat < n := by omega
  exact OG.pre (fun _ k => Y.caload hx (j := j) (v := .int (f j.toInt.toNat)) (by rw [eT]; exact A.1) (State.isArrayOf_alike hZ.alike A.2.1) A.2.2 (by rw [r1]; exact hi) (r3 _ hq) (g := mkF m pc Ls (.int j :: .ref a :: st)) rfl rfl (hb hby hd) _ k) g
theorem OG.saload (X : OS B mL own nm rt Z n0 p l e R s m args below meth c T h cells slots) {a : Addr} {n : Nat} {f : Nat → Int32} (F : Ia Z h a .short n f) {j : Int32} (hj : 0 ≤ j.toInt ∧ j.toInt < n) (hd : decode B pc = .ok (.saload, 1)) (g : OG p e below s n0 rc rs Q (T.setTop (mkF m (pc + 1) Ls (.int (f j.toInt.toNat) :: st)))) : OG p e below s n0 rc rs Q (T.setTop (mkF m pc Ls (.int j :: .ref a :: st))) := by
  obtain ⟨⟨hx, hby, -, -, -, -, -, hZ⟩, eT, locs, -, Y⟩ := X
  obtain ⟨cl, A, r1, r2, r3⟩ := F
  have hi := idx32 hj.1 hj.2
  have hq : j.toInt.toNat < n := by omega
  exact OG.pre (fun _ k => Y.saload hx (j := j) (v := .int (f j.toInt.toNat)) (by rw [eT]; exact A.1) (State.isArrayOf_alike hZ.alike A.2.1) A.2.2 (by rw [r1]; exact hi) (r3 _ hq) (g := mkF m pc Ls (.int j :: .ref a :: st)) rfl rfl (hb hby hd) _ k) g
theorem OG.arraylength (X : OS B mL own nm rt Z n0 p l e R s m args below meth c T h cells slots) {a : Addr} {ty : FieldType} {n : Nat} {f : Nat → Int32} (F : Ia Z h a ty n f) {z : Int32} (hz : z.toInt = n) (hd : decode B pc = .ok (.arraylength, 1)) (g : OG p e below s n0 rc rs Q (T.setTop (mkF m (pc + 1) Ls (.int z :: st)))) : OG p e below s n0 rc rs Q (T.setTop (mkF m pc Ls (.ref a :: st))) := by
  obtain ⟨⟨hx, hby, -, -, -, -, -, hZ⟩, eT, locs, -, Y⟩ := X
  obtain ⟨cl, A, r1, r2, r3⟩ := F
  have ez : cl.slots.size.toInt32 = z := by rw [← Int32.toInt_inj, r1, len32 r2, hz]
  exact OG.pre (fun _ k => Y.arraylength hx (by rw [eT]; exact A.1) (State.isArrayOf_alike hZ.alike A.2.1) (g := mkF m pc Ls (.ref a :: st)) rfl rfl (hb hby hd) _ (by rw [ez]; exact k)) g
theorem OG.iastore (X : OS B mL own nm rt Z n0 p l e R s m args below meth c T h cells slots) {a : Addr} {n : Nat} {f : Nat → Int32} (F : Ia Z h a .int n f) {j x : Int32} (hj : 0 ≤ j.toInt ∧ j.toInt < n) (hd : decode B pc = .ok (.iastore, 1)) (ge : n0 ≤ a) (g : ∀ T' h', OS B mL own nm rt Z n0 p l e R s m args below meth c T' h' cells slots → Wr h h' a j.toInt.toNat (.int (x)) → Ia Z h' a .int n (fun i => if i = j.toInt.toNat then x else f i) → OG p e below s n0 rc rs Q (T'.setTop (mkF m (pc + 1) Ls st))) : OG p e below s n0 rc rs Q (T.setTop (mkF m pc Ls (.int x :: .int j :: .ref a :: st))) := by
  obtain ⟨h0, eT, locs, N, Y⟩ := X
  have h0' := h0
  obtain ⟨hx, hby, -, hown, hnm, -, -, hZ⟩ := h0'
  have F' := F
  obtain ⟨cl, A, r1, r2, r3⟩ := F'
  obtain ⟨T', h', Y', e', W, stp⟩ := RoadKit.stI Y hx hZ eT A (j := j) (by rw [r1]; exact idx32 hj.1 hj.2) (g := mkF m pc Ls (.int x :: .int j :: .ref a :: st)) rfl rfl (hb hby hd)
  exact OG.pre stp (g T' h' ⟨h0, e', _, Fr.snoc Y' N ge, Y'⟩ W (F.set W))
theorem OG.bastore (X : OS B mL own nm rt Z n0 p l e R s m args below meth c T h cells slots) {a : Addr} {n : Nat} {f : Nat → Int32} (F : Ia Z h a .byte n f) {j x : Int32} (hj : 0 ≤ j.toInt ∧ j.toInt < n) (hd : decode B pc = .ok (.bastore, 1)) (ge : n0 ≤ a) (g : ∀ T' h', OS B mL own nm rt Z n0 p l e R s m args below meth c T' h' cells slots → Wr h h' a j.toInt.toNat (.int (x.toInt8.toInt32)) → Ia Z h' a .byte n (fun i => if i = j.toInt.toNat then x.toInt8.toInt32 else f i) → OG p e below s n0 rc rs Q (T'.setTop (mkF m (pc + 1) Ls st))) : OG p e below s n0 rc rs Q (T.setTop (mkF m pc Ls (.int x :: .int j :: .ref a :: st))) := by
  obtain ⟨h0, eT, locs, N, Y⟩ := X
  have h0' := h0
  obtain ⟨hx, hby, -, hown, hnm, -, -, hZ⟩ := h0'
  have F' := F
  obtain ⟨cl, A, r1, r2, r3⟩ := F'
  obtain ⟨T', h', Y', e', W, stp⟩ := RoadKit.stB Y hx hZ eT A (j := j) (by rw [r1]; exact idx32 hj.1 hj.2) (g := mkF m pc Ls (.int x :: .int j :: .ref a :: st)) rfl rfl (hb hby hd)
  exact OG.pre stp (g T' h' ⟨h0, e', _, Fr.snoc Y' N ge, Y'⟩ W (F.set W))
theorem OG.castore (X : OS B mL own nm rt Z n0 p l e R s m args below meth c T h cells slots) {a : Addr} {n : Nat} {f : Nat → Int32} (F : Ia Z h a .char n f) {j x : Int32} (hj : 0 ≤ j.toInt ∧ j.toInt < n) (hd : decode B pc = .ok (.castore, 1)) (ge : n0 ≤ a) (g : ∀ T' h', OS B mL own nm rt Z n0 p l e R s m args below meth c T' h' cells slots → Wr h h' a j.toInt.toNat (.int (x.toUInt32.toUInt16.toUInt32.toInt32)) → Ia Z h' a .char n (fun i => if i = j.toInt.toNat then x.toUInt32.toUInt16.toUInt32.toInt32 else f i) → OG p e below s n0 rc rs Q (T'.setTop (mkF m (pc + 1) Ls st))) : OG p e below s n0 rc rs Q (T.setTop (mkF m pc Ls (.int x :: .int j :: .ref a :: st))) := by
  obtain ⟨h0, eT, locs, N, Y⟩ := X
  have h0' := h0
  obtain ⟨hx, hby, -, hown, hnm, -, -, hZ⟩ := h0'
  have F' := F
  obtain ⟨cl, A, r1, r2, r3⟩ := F'
  obtain ⟨T', h', Y', e', W, stp⟩ := RoadKit.stC Y hx hZ eT A (j := j) (by rw [r1]; exact idx32 hj.1 hj.2) (g := mkF m pc Ls (.int x :: .int j :: .ref a :: st)) rfl rfl (hb hby hd)
  exact OG.pre stp (g T' h' ⟨h0, e', _, Fr.snoc Y' N ge, Y'⟩ W (F.set W))
theorem OG.zastore (X : OS B mL own nm rt Z n0 p l e R s m args below meth c T h cells slots) {a : Addr} {n : Nat} {f : Nat → Int32} (F : Ia Z h a .boolean n f) {j x : Int32} (hj : 0 ≤ j.toInt ∧ j.toInt < n) (hd : decode B pc = .ok (.bastore, 1)) (ge : n0 ≤ a) (g : ∀ T' h', OS B mL own nm rt Z n0 p l e R s m args below meth c T' h' cells slots → Wr h h' a j.toInt.toNat (.int (x &&& 1)) → Ia Z h' a .boolean n (fun i => if i = j.toInt.toNat then x &&& 1 else f i) → OG p e below s n0 rc rs Q (T'.setTop (mkF m (pc + 1) Ls st))) : OG p e below s n0 rc rs Q (T.setTop (mkF m pc Ls (.int x :: .int j :: .ref a :: st))) := by
  obtain ⟨h0, eT, locs, N, Y⟩ := X
  have h0' := h0
  obtain ⟨hx, hby, -, hown, hnm, -, -, hZ⟩ := h0'
  have F' := F
  obtain ⟨cl, A, r1, r2, r3⟩ := F'
  obtain ⟨T', h', Y', e', W, stp⟩ := RoadKit.stZ Y hx hZ eT A (j := j) (by rw [r1]; exact idx32 hj.1 hj.2) (g := mkF m pc Ls (.int x :: .int j :: .ref a :: st)) rfl rfl (hb hby hd)
  exact OG.pre stp (g T' h' ⟨h0, e', _, Fr.snoc Y' N ge, Y'⟩ W (F.set W))
theorem OG.callS (X : OS B mL own nm rt Z n0 p l e R s m args below meth c T h cells slots) {y : MethodName} {index : Nat} {Bc : ByteArray} {mc : Nat} {rtc : Option FieldType} {rmc : Room} {asc : Array Value} {Qc : Option Value → Heap → Prop} (w1 : (Cond.methodLink own index y).before a0 Z = true) (w2 : (Cond.static y).before a0 Z = true) (hy : y.cls ≠ "java/lang/invoke/MethodHandle" ∧ y.cls ≠ "java/lang/invoke/VarHandle") (hM : OM l y Bc mc rtc rmc [] Z asc h n0 Qc) (wc : (Cond.code y Bc mc rtc).before a0 Z = true) (wz : (Cond.initialized y.cls).before a0 Z = true) (hfr : rmc.frames + 1 ≤ R.frames) {W : Nat} (hlo : W + (mc + 11) + rmc.locals ≤ R.locals) (hsz : Ls.size = mL) {argsL : List Value} {ps : List FieldType} {rr : Option FieldType} (hpd : parseMethodDescriptor y.desc = some ⟨ps, rr⟩) (hlen : argsL.length = ps.length) (hd : decode B pc = .ok (.invokestatic index, 3)) (has : argsL.toArray = asc) (hW : (st.map fun v => v.category).sum ≤ W) (hcl : cells + rmc.cells ≤ R.cells) (hsl : slots + rmc.slots ≤ R.slots) (g : ∀ v T' h', OS B mL own nm rt Z n0 p l e R s m args below meth c T' h' (cells + rmc.cells) (slots + rmc.slots) → Qc v h' → OG p e below s n0 rc rs Q (T'.setTop (mkF m (pc + 3) Ls (v.toList ++ st)))) : OG p e below s n0 rc rs Q (T.setTop (mkF m pc Ls (argsL.reverse ++ st))) := by
  obtain ⟨h0, eT, locs, N, Y⟩ := X
  have h0' := h0
  obtain ⟨hx, hby, hml, hown, hnm, -, -, hZ⟩ := h0'
  obtain ⟨_, _, ⟨T', L', k', n'⟩, -, Y', ⟨Lc, hQ, q2, q3, q4⟩, stp⟩ := Jvm.LawKit.callS Y hx (y := y) hown (mvT hZ w1) (mvT hZ w2) (mvT hZ wz) (mvT hZ wc) hy (backOf (W := W) (Z := Z) (h := h) (rm := rmc) (as' := asc) (Q := fun v hh L => Qc v hh ∧ Fr n0 L) hM hZ wc wz hfr hlo) (g := mkF m pc Ls (argsL.reverse ++ st)) rfl (by rw [hml]; exact hsz) (argsL := argsL) (rest := st) (lenOf hpd hlen) rfl (by show 2 * 0 + _ ≤ _; omega) (hb hby hd) (fun _ _ => ⟨has, eT, hcl, hsl⟩)
  dsimp only [Pt.U, Pt.locs, Pt.cells, Pt.slots] at Y' q2 q3 q4 stp hQ
  subst q2 q3 q4
  exact OG.pre stp (g _ T' _ ⟨h0, rfl, _, Fr.app N hQ.2, Y'⟩ hQ.1)

theorem OG.callC (X : OS B mL own nm rt Z n0 p l e R s m args below meth c T h cells slots) {y : MethodName} {index : Nat} {Bc : ByteArray} {mc : Nat} {rmc : Room} {asc : Array Value} {Qc : Option Value → Heap → Prop} (hy1 : y.name = "<init>") (w1 : (Cond.methodLink own index y).before a0 Z = true) (w2 : (Cond.instanceMethod y).before a0 Z = true) (hy : y.cls ≠ "java/lang/invoke/MethodHandle" ∧ y.cls ≠ "java/lang/invoke/VarHandle") {a : Addr} (hM : OM l y Bc mc none rmc [] Z asc h n0 Qc) (wc : (Cond.code y Bc mc none).before a0 Z = true) (wz : (Cond.initialized y.cls).before a0 Z = true) (hfr : rmc.frames + 1 ≤ R.frames) {W : Nat} (hlo : W + (mc + 11) + rmc.locals ≤ R.locals) (hsz : Ls.size = mL) {argsL : List Value} {ps : List FieldType} {rr : Option FieldType} (hpd : parseMethodDescriptor y.desc = some ⟨ps, rr⟩) (hlen : argsL.length = ps.length) (hd : decode B pc = .ok (.invokespecial index, 3)) (has : (Value.ref a :: argsL).toArray = asc) (hW : (st.map fun v => v.category).sum ≤ W) (hcl : cells + rmc.cells ≤ R.cells) (hsl : slots + rmc.slots ≤ R.slots) (g : ∀ v T' h', OS B mL own nm rt Z n0 p l e R s m args below meth c T' h' (cells + rmc.cells) (slots + rmc.slots) → Qc v h' → OG p e below s n0 rc rs Q (T'.setTop (mkF m (pc + 3) Ls (v.toList ++ st)))) : OG p e below s n0 rc rs Q (T.setTop (mkF m pc Ls (argsL.reverse ++ .ref a :: st))) := by
  obtain ⟨h0, eT, locs, N, Y⟩ := X
  have h0' := h0
  obtain ⟨hx, hby, hml, hown, hnm, -, -, hZ⟩ := h0'
  obtain ⟨_, _, ⟨T', L', k', n'⟩, -, Y', ⟨Lc, hQ, q2, q3, q4⟩, stp⟩ := Y.specialBack hx (y := y) hy1 hown (mvT hZ w1) (mvT hZ w2) (mvT hZ wc) hy (backOf (W := W) (Z := Z) (h := h) (rm := rmc) (as' := asc) (Q := fun v hh L => Qc v hh ∧ Fr n0 L) hM hZ wc wz hfr hlo) (g := mkF m pc Ls (argsL.reverse ++ .ref a :: st)) rfl (by rw [hml]; exact hsz) (Steps.refl _) (a := a) (argsL := argsL) (rest := st) (lenOf hpd hlen) rfl (by show 2 * 0 + _ ≤ _; omega) (hb hby hd) (fun _ _ => ⟨has, eT, hcl, hsl⟩)
  dsimp only [Pt.U, Pt.locs, Pt.cells, Pt.slots] at Y' q2 q3 q4 stp hQ
  subst q2 q3 q4
  exact OG.pre (fun _ k => stp.trans k) (g _ T' _ ⟨h0, rfl, _, Fr.app N hQ.2, Y'⟩ hQ.1)

theorem OG.callV (X : OS B mL own nm rt Z n0 p l e R s m args below meth c T h cells slots) {y : MethodName} {index : Nat} {Bc : ByteArray} {mc : Nat} {rtc : Option FieldType} {rmc : Room} {asc : Array Value} {Qc : Option Value → Heap → Prop} {z : MethodName} {C : String} (w1 : (Cond.methodLink own index y).before a0 Z = true) (w2 : (Cond.declares y).before a0 Z = true) (w3 : NotFace s y) (w4 : (Cond.selects C y z).before a0 Z = true) (w5 : (Cond.instanceMethod z).before a0 Z = true) (hy : y.cls ≠ "java/lang/invoke/MethodHandle" ∧ y.cls ≠ "java/lang/invoke/VarHandle") {a : Addr} (E : Exa Z h a C) (hM : OM l z Bc mc rtc rmc [] Z asc h n0 Qc) (wc : (Cond.code z Bc mc rtc).before a0 Z = true) (wz : (Cond.initialized z.cls).before a0 Z = true) (hfr : rmc.frames + 1 ≤ R.frames) {W : Nat} (hlo : W + (mc + 11) + rmc.locals ≤ R.locals) (hsz : Ls.size = mL) {argsL : List Value} {ps : List FieldType} {rr : Option FieldType} (hpd : parseMethodDescriptor y.desc = some ⟨ps, rr⟩) (hlen : argsL.length = ps.length) (hd : decode B pc = .ok (.invokevirtual index, 3)) (has : (Value.ref a :: argsL).toArray = asc) (hW : (st.map fun v => v.category).sum ≤ W) (hcl : cells + rmc.cells ≤ R.cells) (hsl : slots + rmc.slots ≤ R.slots) (g : ∀ v T' h', OS B mL own nm rt Z n0 p l e R s m args below meth c T' h' (cells + rmc.cells) (slots + rmc.slots) → Qc v h' → OG p e below s n0 rc rs Q (T'.setTop (mkF m (pc + 3) Ls (v.toList ++ st)))) : OG p e below s n0 rc rs Q (T.setTop (mkF m pc Ls (argsL.reverse ++ .ref a :: st))) := by
  obtain ⟨h0, eT, locs, N, Y⟩ := X
  have h0' := h0
  obtain ⟨hx, hby, hml, hown, hnm, -, -, hZ⟩ := h0'
  obtain ⟨cq, kq, qa, qb, qc⟩ := isOf hZ eT E
  obtain ⟨_, _, ⟨T', L', k', n'⟩, -, Y', ⟨Lc, hQ, q2, q3, q4⟩, stp⟩ := Y.virtualBack hx (y := y) (z := z) hown (mvT hZ w1) (mvT hZ w2) w3 (mvT hZ w4) (mvT hZ w5) hy (backOf (W := W) (Z := Z) (h := h) (rm := rmc) (as' := asc) (Q := fun v hh L => Qc v hh ∧ Fr n0 L) hM hZ wc wz hfr hlo) qa qc (g := mkF m pc Ls (argsL.reverse ++ .ref a :: st)) rfl (by rw [hml]; exact hsz) (Steps.refl _) (argsL := argsL) (rest := st) (lenOf hpd hlen) rfl (by show 2 * 0 + _ ≤ _; omega) (hb hby hd) (fun _ _ => ⟨has, eT, hcl, hsl⟩)
  dsimp only [Pt.U, Pt.locs, Pt.cells, Pt.slots] at Y' q2 q3 q4 stp hQ
  subst q2 q3 q4
  exact OG.pre (fun _ k => stp.trans k) (g _ T' _ ⟨h0, rfl, _, Fr.app N hQ.2, Y'⟩ hQ.1)

theorem OG.initO (X : OS B mL own nm rt Z n0 p l e R s m args below meth c T h cells slots) {index : Nat} (w1 : (Cond.methodLink own index Lib.objectInit).before a0 Z = true) (w2 : (Cond.instanceMethod Lib.objectInit).before a0 Z = true) (w3 : (Cond.code Lib.objectInit ⟨#[0xb1]⟩ 1 none).before a0 Z = true) {a : Addr} (hd : decode B pc = .ok (.invokespecial index, 3)) (hsz : Ls.size = mL) (hf : 1 ≤ R.frames) {W : Nat} (hW : (st.map fun v => v.category).sum ≤ W) (hlo : W + 12 ≤ R.locals) (g : ∀ T', OS B mL own nm rt Z n0 p l e R s m args below meth c T' h cells slots → OG p e below s n0 rc rs Q (T'.setTop (mkF m (pc + 3) Ls st))) : OG p e below s n0 rc rs Q (T.setTop (mkF m pc Ls (.ref a :: st))) := by
  obtain ⟨h0, eT, locs, N, Y⟩ := X
  have h0' := h0
  obtain ⟨hx, hby, hml, hown, hnm, -, -, hZ⟩ := h0'
  obtain ⟨T', Y', e', stp⟩ := RoadKit.initO Y hx hZ hown w1 w2 w3 eT (g := mkF m pc Ls (.ref a :: st)) rfl (by rw [hml]; exact hsz) rfl (hb hby hd) hf (W := W) (by show 2 * 0 + _ ≤ _; omega) hlo
  exact OG.pre stp (g T' ⟨h0, e', _, N, Y'⟩)
theorem Ia.toArv (F : Ia Z h a .int n f) {z : Int32} (hz : z.toInt = n) : ∃ k, Arv Z h a k .int z ((List.range n).map fun i => .int (f i)) (.int 0) := by
  obtain ⟨c, A, r1, r2, r3⟩ := F
  refine ⟨c.cls, c, A, rfl, ?_, ?_, ?_, ?_⟩
  · rw [r1]; simp only [Int32.toNatClampNeg]; omega
  · rw [Int32.lt_iff_toInt_lt]; have : (0 : Int32).toInt = 0 := rfl
    omega
  · intro i hi; rw [r1] at hi; rw [r3 i hi]; simp [List.getD_eq_getElem?_getD, hi]
  · intro i hi; rw [r1] at hi; simp [List.getD_eq_getElem?_getD, hi, fits]
theorem Ia.ofArv {k : ClassId} {z : Int32} {vs : List Value} (W : Arv Z h a k .int z vs (.int 0)) (hz : z.toInt = n) (H : ∀ i, i < n → vs.getD i (.int 0) = .int (f i)) : Ia Z h a .int n f := by
  obtain ⟨c, A, -, S, -, Hs, -⟩ := W
  have hs : c.slots.size = n := by rw [S]; simp only [Int32.toNatClampNeg]; omega
  exact ⟨c, A, hs, by have := z.toInt_lt; omega, fun i hi => by rw [Hs i (by rw [hs]; exact hi), H i hi]⟩
theorem OG.arraycopyI (X : OS B mL own nm rt Z n0 p l e R s m args below meth c T h cells slots) {index : Nat} (w1 : (Cond.methodLink own index Jvm.Stand.acN).before a0 Z = true) (w2 : (Cond.native Jvm.Stand.acN).before a0 Z = true) (w3 : (Cond.static Jvm.Stand.acN).before a0 Z = true) (w4 : (Cond.initialized "java/lang/System").before a0 Z = true) {a b : Addr} {n n' : Nat} {f f' : Nat → Int32} (F : Ia Z h a .int n f) (G : Ia Z h b .int n' f') {nn : Int32} {q : Nat} (hq : nn.toInt = q) (h1 : q ≤ n) (h2 : q ≤ n') (ge : n0 ≤ b) (hd : decode B pc = .ok (.invokestatic index, 3)) (hsz : Ls.size = mL) (hf : 1 ≤ R.frames) {W : Nat} (hW : (st.map fun v => v.category).sum ≤ W) (hlo : W + 18 ≤ R.locals) (g : ∀ T' h', OS B mL own nm rt Z n0 p l e R s m args below meth c T' h' cells slots → Keep h h' [b] → Ia Z h' b .int n' (fun i => if i < q then f i else f' i) → OG p e below s n0 rc rs Q (T'.setTop (mkF m (pc + 3) Ls st))) : OG p e below s n0 rc rs Q (T.setTop (mkF m pc Ls (.int nn :: .int 0 :: .ref b :: .int 0 :: .ref a :: st))) := by
  obtain ⟨h0, eT, locs, N, Y⟩ := X
  have h0' := h0
  obtain ⟨hx, hby, hml, hown, hnm, -, -, hZ⟩ := h0'
  have la := F.len
  have lb := G.len
  obtain ⟨ka, VA⟩ := F.toArv (z := n.toInt32) (len32 la)
  obtain ⟨kb, VB⟩ := G.toArv (z := n'.toInt32) (len32 lb)
  have e0 : (0 : Int32).toNatClampNeg = 0 := rfl
  have eq : nn.toNatClampNeg = q := by simp only [Int32.toNatClampNeg]; omega
  have ea : n.toInt32.toNatClampNeg = n := by simp only [Int32.toNatClampNeg, len32 la]; omega
  have eb : n'.toInt32.toNatClampNeg = n' := by simp only [Int32.toNatClampNeg, len32 lb]; omega
  have hnn : ¬ nn < 0 := by rw [Int32.lt_iff_toInt_lt]; have : (0 : Int32).toInt = 0 := rfl; omega
  obtain ⟨T', h', L, Y', e', N', K, V, stp⟩ := cpA Y hx hZ hown w1 w2 w3 w4 eT VA VB (Or.inl ⟨rfl, rfl⟩) (sp := 0) (dp := 0) (nn := nn) (by decide) (by decide) hnn (by rw [e0, eq, ea]; omega) (by rw [e0, eq, eb]; omega) rfl (by rw [e0, eq]; simp; omega) N ge (g := mkF m pc Ls (.int nn :: .int 0 :: .ref b :: .int 0 :: .ref a :: st)) rfl (by rw [hml]; exact hsz) rfl (hb hby hd) hf (W := W) (by show 2 * 0 + _ ≤ _; omega) (by exact hlo)
  refine OG.pre stp (g T' h' ⟨h0, e', L, N', Y'⟩ K (Ia.ofArv V (len32 lb) (fun i hi => ?_)))
  rw [e0, eq]
  by_cases hi2 : i < q
  · simp [List.getD_eq_getElem?_getD, List.getElem?_append, hi2, Nat.lt_of_lt_of_le hi2 h1]
  · simp [List.getD_eq_getElem?_getD, List.getElem?_append, hi2, hi, show q + (i - q) = i by omega]
end OwnKit
end Jvm.RoadKit

namespace Jvm.Pilot.@@N@@
open Jvm Jvm.ClassFile Sem Op Lib Jvm.Free Jvm.Stand Jvm.LawKit Jvm.RoadKit Bundle Jvm.Pilot.@@N@@.Jvm.D
def fi (f : Nat → Int32) (o : Int32) : Int32 := f o.toInt.toNat &&& 255
def sz (f : Nat → Int32) (o : Int32) : Int32 := fi f o &&& 127
def lp (f : Nat → Int32) (o q : Int32) : Nat → Int32 → Int32 → Int32
  | 0, len, _ => len
  | k + 1, len, i => if q < i then len else lp f o q k ((len <<< ((8 : Int32) &&& 31)) ||| (f (o + i).toInt.toNat &&& 255)) (i + 1)
def LA (f : Nat → Int32) (o z : Int32) : Int32 := if o < z then (if fi f o < 128 then fi f o else if z < o + 1 + sz f o then -1 else lp f o (sz f o) 5 0 1) else -1
theorem own_fi (f : Nat → Int32) (o : Int32) : (fi f o).toInt = (f o.toInt.toNat).toInt % 256 := c_mask _ 255 8 (by decide) (by decide)
theorem own_sz (f : Nat → Int32) (o : Int32) : (sz f o).toInt = (fi f o).toInt % 128 := c_mask _ 127 7 (by decide) (by decide)
theorem own_add {o i : Int32} (h1 : 0 ≤ o.toInt ∧ o.toInt ≤ 100) (h2 : 0 ≤ i.toInt ∧ i.toInt ≤ 200) : (o + i).toInt = o.toInt + i.toInt := by
  have := c_iadd o i
  have := rng32 (o + i)
  omega
theorem own_ne0 {q : Int32} (h : 1 ≤ q.toInt ∧ q.toInt ≤ 4) : ¬ q = 0 := fun e => by
  rw [e] at h; revert h; decide
theorem own_le4 {q : Int32} (h : 1 ≤ q.toInt ∧ q.toInt ≤ 4) : ¬ 4 < q := by
  rw [Int32.lt_iff_toInt_lt]; have : (4 : Int32).toInt = 4 := rfl
  omega
theorem own_le {a b : Int32} (h : ¬ a < b) : b.toInt ≤ a.toInt := by
  rw [Int32.lt_iff_toInt_lt] at h; omega
theorem d1_0 : decode prog_46_method_3_code 0 = .ok (.aload_n 0, 1) := by decide +kernel
theorem d1_1 : decode prog_46_method_3_code 1 = .ok (.iload_n 1, 1) := by decide +kernel
theorem d1_2 : decode prog_46_method_3_code 2 = .ok (.baload, 1) := by decide +kernel
theorem d1_3 : decode prog_46_method_3_code 3 = .ok (.sipush 255, 3) := by decide +kernel
theorem d1_6 : decode prog_46_method_3_code 6 = .ok (.iand, 1) := by decide +kernel
theorem d1_7 : decode prog_46_method_3_code 7 = .ok (.istore_n 2, 1) := by decide +kernel
theorem d1_8 : decode prog_46_method_3_code 8 = .ok (.iload_n 2, 1) := by decide +kernel
theorem d1_9 : decode prog_46_method_3_code 9 = .ok (.sipush 128, 3) := by decide +kernel
theorem d1_12 : decode prog_46_method_3_code 12 = .ok (.if_icmp .ge 7, 3) := by decide +kernel
theorem d1_19 : decode prog_46_method_3_code 19 = .ok (.iconst 1, 1) := by decide +kernel
theorem d1_20 : decode prog_46_method_3_code 20 = .ok (.iload_n 2, 1) := by decide +kernel
theorem d1_21 : decode prog_46_method_3_code 21 = .ok (.bipush 127, 2) := by decide +kernel
theorem d1_23 : decode prog_46_method_3_code 23 = .ok (.iand, 1) := by decide +kernel
theorem d1_24 : decode prog_46_method_3_code 24 = .ok (.iadd, 1) := by decide +kernel
theorem d1_25 : decode prog_46_method_3_code 25 = .ok (.ireturn, 1) := by decide +kernel
theorem d1_15 : decode prog_46_method_3_code 15 = .ok (.iconst 1, 1) := by decide +kernel
theorem d1_16 : decode prog_46_method_3_code 16 = .ok (.goto 9, 3) := by decide +kernel
def F1 (o : Int32) (f : Nat → Int32) : Int32 := (if ((f o.toInt.toNat) &&& (255 : Int32)) < (128 : Int32) then (1 : Int32) else ((1 : Int32) + (((f o.toInt.toNat) &&& (255 : Int32)) &&& (127 : Int32))))
theorem pn_1 : plainName "com/example/resolvent/resolvent/ldap/Ber" = true := by first | (simp [plainName, overriddenIn]; done) | decide +kernel
theorem ef_1 (m : MethodId) (a : Addr) (o : Int32) : entryFrame m #[(.ref a), (.int o)] 3 = mkF m 0 #[.val (.ref a), .val (.int o), .unset] [] := by first | (simp [entryFrame, mkF, argsToLocals, Value.category]; done) | rfl
def Q1 (Z : State) (a : Addr) (o : Int32) (f : Nat → Int32) (h0 : Heap) : Option Value → Heap → Prop := fun v h => v = some (.int (F1 o f)) ∧ h = h0
abbrev room1 : Room := { frames := 0, cells := 0, slots := 0, locals := 0 }
set_option maxRecDepth 65536 in
set_option maxHeartbeats 40000000 in
theorem rm1 (l : Launch) (Z : State) (a0 : Array Value) (hw : ∀ d ∈ tables_1, d.before a0 Z = true) (ws : List Jvm.Cond) (a : Addr) (o : Int32) (f : Nat → Int32) (h0 : Heap) (n0 : Nat) (A_a : Ia Z h0 a .byte 7 f) (ho : 0 ≤ o.toInt ∧ o.toInt < (7 : Nat)) :
    OM l (⟨"com/example/resolvent/resolvent/ldap/Ber", "lengthSize", "([BI)I"⟩ : MethodName) prog_46_method_3_code 3 (some .int) room1 ws Z #[(.ref a), (.int o)] h0 n0 (Q1 Z a o f h0) := by
  refine OM.of (plainFor_of_name pn_1) (fun m => ef_1 m a o) ?_
  intro p e s m below meth c T X
  refine OG.aloadN X d1_0 rfl rfl ?_
  refine OG.iloadN X d1_1 rfl ?_
  refine OG.baload X A_a ho d1_2 ?_
  refine OG.sipush X d1_3 (z := (255 : Int32)) rfl ?_
  refine OG.iand X d1_6 ?_
  refine OG.istoreN X d1_7 (l' := #[.val (.ref a), .val (.int o), .val (.int ((f o.toInt.toNat) &&& (255 : Int32)))]) rfl ?_
  refine OG.iloadN X d1_8 rfl ?_
  refine OG.sipush X d1_9 (z := (128 : Int32)) rfl ?_
  refine OG.icmp_ge X d1_12 (pc' := 19) (by decide) ?_ ?_
  · intro c12
    refine OG.iconst X d1_19 (z := (1 : Int32)) rfl ?_
    refine OG.iloadN X d1_20 rfl ?_
    refine OG.bipush X d1_21 (z := (127 : Int32)) rfl ?_
    refine OG.iand X d1_23 ?_
    refine OG.iadd X d1_24 ?_
    exact OG.retI X d1_25 (by decide) (by decide) ⟨by rw [F1, if_neg c12]; try rfl, rfl⟩
  · intro c12
    refine OG.iconst X d1_15 (z := (1 : Int32)) rfl ?_
    refine OG.goto X d1_16 (pc' := 25) (by decide) ?_
    exact OG.retI X d1_25 (by decide) (by decide) ⟨by rw [F1, if_pos c12]; try rfl, rfl⟩
theorem pn_2 : plainName "com/example/resolvent/resolvent/ldap/Ber" = true := by first | (simp [plainName, overriddenIn]; done) | decide +kernel
theorem ef_2 (m : MethodId) (a : Addr) (o : Int32) (z : Int32) : entryFrame m #[(.ref a), (.int o), (.int z)] 7 = mkF m 0 #[.val (.ref a), .val (.int o), .val (.int z), .unset, .unset, .unset, .unset] [] := by first | (simp [entryFrame, mkF, argsToLocals, Value.category]; done) | rfl
def Q2 (Z : State) (a : Addr) (o : Int32) (z : Int32) (f : Nat → Int32) (h0 : Heap) : Option Value → Heap → Prop := fun v h => v = some (.int (LA f o z)) ∧ h = h0
theorem d2_0 : decode prog_46_method_2_code 0 = .ok (.iload_n 1, 1) := by decide +kernel
theorem d2_1 : decode prog_46_method_2_code 1 = .ok (.iload_n 2, 1) := by decide +kernel
theorem d2_2 : decode prog_46_method_2_code 2 = .ok (.if_icmp .lt 5, 3) := by decide +kernel
theorem d2_7 : decode prog_46_method_2_code 7 = .ok (.aload_n 0, 1) := by decide +kernel
theorem d2_8 : decode prog_46_method_2_code 8 = .ok (.iload_n 1, 1) := by decide +kernel
theorem d2_9 : decode prog_46_method_2_code 9 = .ok (.baload, 1) := by decide +kernel
theorem d2_10 : decode prog_46_method_2_code 10 = .ok (.sipush 255, 3) := by decide +kernel
theorem d2_13 : decode prog_46_method_2_code 13 = .ok (.iand, 1) := by decide +kernel
theorem d2_14 : decode prog_46_method_2_code 14 = .ok (.istore_n 3, 1) := by decide +kernel
theorem d2_15 : decode prog_46_method_2_code 15 = .ok (.iload_n 3, 1) := by decide +kernel
theorem d2_16 : decode prog_46_method_2_code 16 = .ok (.sipush 128, 3) := by decide +kernel
theorem d2_19 : decode prog_46_method_2_code 19 = .ok (.if_icmp .ge 5, 3) := by decide +kernel
theorem d2_24 : decode prog_46_method_2_code 24 = .ok (.iload_n 3, 1) := by decide +kernel
theorem d2_25 : decode prog_46_method_2_code 25 = .ok (.bipush 127, 2) := by decide +kernel
theorem d2_27 : decode prog_46_method_2_code 27 = .ok (.iand, 1) := by decide +kernel
theorem d2_28 : decode prog_46_method_2_code 28 = .ok (.istore 4, 2) := by decide +kernel
theorem d2_30 : decode prog_46_method_2_code 30 = .ok (.iload 4, 2) := by decide +kernel
theorem d2_32 : decode prog_46_method_2_code 32 = .ok (.ifCond .eq 9, 3) := by decide +kernel
theorem d2_35 : decode prog_46_method_2_code 35 = .ok (.iload 4, 2) := by decide +kernel
theorem d2_37 : decode prog_46_method_2_code 37 = .ok (.iconst 4, 1) := by decide +kernel
theorem d2_38 : decode prog_46_method_2_code 38 = .ok (.if_icmp .le 19, 3) := by decide +kernel
theorem d2_57 : decode prog_46_method_2_code 57 = .ok (.iload_n 1, 1) := by decide +kernel
theorem d2_58 : decode prog_46_method_2_code 58 = .ok (.iconst 1, 1) := by decide +kernel
theorem d2_59 : decode prog_46_method_2_code 59 = .ok (.iadd, 1) := by decide +kernel
theorem d2_60 : decode prog_46_method_2_code 60 = .ok (.iload 4, 2) := by decide +kernel
theorem d2_62 : decode prog_46_method_2_code 62 = .ok (.iadd, 1) := by decide +kernel
theorem d2_63 : decode prog_46_method_2_code 63 = .ok (.iload_n 2, 1) := by decide +kernel
theorem d2_64 : decode prog_46_method_2_code 64 = .ok (.if_icmp .le 5, 3) := by decide +kernel
theorem d2_69 : decode prog_46_method_2_code 69 = .ok (.iconst 0, 1) := by decide +kernel
theorem d2_70 : decode prog_46_method_2_code 70 = .ok (.istore 5, 2) := by decide +kernel
theorem d2_72 : decode prog_46_method_2_code 72 = .ok (.iconst 1, 1) := by decide +kernel
theorem d2_73 : decode prog_46_method_2_code 73 = .ok (.istore 6, 2) := by decide +kernel
theorem d2_75 : decode prog_46_method_2_code 75 = .ok (.iload 6, 2) := by decide +kernel
theorem d2_77 : decode prog_46_method_2_code 77 = .ok (.iload 4, 2) := by decide +kernel
theorem d2_79 : decode prog_46_method_2_code 79 = .ok (.if_icmp .gt 27, 3) := by decide +kernel
theorem d2_106 : decode prog_46_method_2_code 106 = .ok (.iload 5, 2) := by decide +kernel
theorem d2_108 : decode prog_46_method_2_code 108 = .ok (.ifCond .ge 9, 3) := by decide +kernel
theorem d2_117 : decode prog_46_method_2_code 117 = .ok (.iload 5, 2) := by decide +kernel
theorem d2_119 : decode prog_46_method_2_code 119 = .ok (.ireturn, 1) := by decide +kernel
theorem d2_82 : decode prog_46_method_2_code 82 = .ok (.iload 5, 2) := by decide +kernel
theorem d2_84 : decode prog_46_method_2_code 84 = .ok (.bipush 8, 2) := by decide +kernel
theorem d2_86 : decode prog_46_method_2_code 86 = .ok (.ishl, 1) := by decide +kernel
theorem d2_87 : decode prog_46_method_2_code 87 = .ok (.aload_n 0, 1) := by decide +kernel
theorem d2_88 : decode prog_46_method_2_code 88 = .ok (.iload_n 1, 1) := by decide +kernel
theorem d2_89 : decode prog_46_method_2_code 89 = .ok (.iload 6, 2) := by decide +kernel
theorem d2_91 : decode prog_46_method_2_code 91 = .ok (.iadd, 1) := by decide +kernel
theorem d2_92 : decode prog_46_method_2_code 92 = .ok (.baload, 1) := by decide +kernel
theorem d2_93 : decode prog_46_method_2_code 93 = .ok (.sipush 255, 3) := by decide +kernel
theorem d2_96 : decode prog_46_method_2_code 96 = .ok (.iand, 1) := by decide +kernel
theorem d2_97 : decode prog_46_method_2_code 97 = .ok (.ior, 1) := by decide +kernel
theorem d2_98 : decode prog_46_method_2_code 98 = .ok (.istore 5, 2) := by decide +kernel
theorem d2_100 : decode prog_46_method_2_code 100 = .ok (.iinc 6 1, 3) := by decide +kernel
theorem d2_103 : decode prog_46_method_2_code 103 = .ok (.goto (-28), 3) := by decide +kernel
theorem d2_67 : decode prog_46_method_2_code 67 = .ok (.iconst (-1), 1) := by decide +kernel
theorem d2_68 : decode prog_46_method_2_code 68 = .ok (.ireturn, 1) := by decide +kernel
theorem d2_22 : decode prog_46_method_2_code 22 = .ok (.iload_n 3, 1) := by decide +kernel
theorem d2_23 : decode prog_46_method_2_code 23 = .ok (.ireturn, 1) := by decide +kernel
theorem d2_5 : decode prog_46_method_2_code 5 = .ok (.iconst (-1), 1) := by decide +kernel
theorem d2_6 : decode prog_46_method_2_code 6 = .ok (.ireturn, 1) := by decide +kernel
abbrev room2 : Room := { frames := 0, cells := 0, slots := 0, locals := 0 }
set_option maxRecDepth 65536 in
set_option maxHeartbeats 40000000 in
theorem rm2 (l : Launch) (Z : State) (a0 : Array Value) (hw : ∀ d ∈ tables_1, d.before a0 Z = true) (ws : List Jvm.Cond) (a : Addr) (o : Int32) (z : Int32) (f : Nat → Int32) (h0 : Heap) (n0 : Nat) (A_a : Ia Z h0 a .byte 7 f) (ho : 0 ≤ o.toInt ∧ o.toInt < (7 : Nat)) (hsz : ¬ fi f o < 128 → 1 ≤ (sz f o).toInt ∧ (sz f o).toInt ≤ 4) (ho4 : ¬ fi f o < 128 → o.toInt + (sz f o).toInt < (7 : Nat)) (hpos : ¬ fi f o < 128 → ¬ lp f o (sz f o) 5 0 1 < 0) :
    OM l (⟨"com/example/resolvent/resolvent/ldap/Ber", "lengthAt", "([BII)I"⟩ : MethodName) prog_46_method_2_code 7 (some .int) room2 ws Z #[(.ref a), (.int o), (.int z)] h0 n0 (Q2 Z a o z f h0) := by
  refine OM.of (plainFor_of_name pn_2) (fun m => ef_2 m a o z) ?_
  intro p e s m below meth c T X
  refine OG.iloadN X d2_0 rfl ?_
  refine OG.iloadN X d2_1 rfl ?_
  refine OG.icmp_lt X d2_2 (pc' := 7) (by decide) ?_ ?_
  · intro c2
    refine OG.aloadN X d2_7 rfl rfl ?_
    refine OG.iloadN X d2_8 rfl ?_
    refine OG.baload X A_a ho d2_9 ?_
    refine OG.sipush X d2_10 (z := (255 : Int32)) rfl ?_
    refine OG.iand X d2_13 ?_
    show OG p e below s n0 room2.cells room2.slots (Q2 Z a o z f h0) (T.setTop (mkF m 14 #[.val (.ref a), .val (.int o), .val (.int z), .unset, .unset, .unset, .unset] [(.int (fi f o))]))
    refine OG.istoreN X d2_14 (l' := #[.val (.ref a), .val (.int o), .val (.int z), .val (.int (fi f o)), .unset, .unset, .unset]) rfl ?_
    refine OG.iloadN X d2_15 rfl ?_
    refine OG.sipush X d2_16 (z := (128 : Int32)) rfl ?_
    refine OG.icmp_ge X d2_19 (pc' := 24) (by decide) ?_ ?_
    · intro c19
      refine OG.iloadN X d2_24 rfl ?_
      refine OG.bipush X d2_25 (z := (127 : Int32)) rfl ?_
      refine OG.iand X d2_27 ?_
      show OG p e below s n0 room2.cells room2.slots (Q2 Z a o z f h0) (T.setTop (mkF m 28 #[.val (.ref a), .val (.int o), .val (.int z), .val (.int (fi f o)), .unset, .unset, .unset] [(.int (sz f o))]))
      refine OG.istore X d2_28 (l' := #[.val (.ref a), .val (.int o), .val (.int z), .val (.int (fi f o)), .val (.int (sz f o)), .unset, .unset]) rfl ?_
      refine OG.iload X d2_30 rfl ?_
      refine OG.if_eq_f X d2_32 (own_ne0 (hsz c19)) ?_
      refine OG.iload X d2_35 rfl ?_
      refine OG.iconst X d2_37 (z := (4 : Int32)) rfl ?_
      refine OG.icmp_le_t X d2_38 (pc' := 57) (by decide) (own_le4 (hsz c19)) ?_
      refine OG.iloadN X d2_57 rfl ?_
      refine OG.iconst X d2_58 (z := (1 : Int32)) rfl ?_
      refine OG.iadd X d2_59 ?_
      refine OG.iload X d2_60 rfl ?_
      refine OG.iadd X d2_62 ?_
      refine OG.iloadN X d2_63 rfl ?_
      refine OG.icmp_le X d2_64 (pc' := 69) (by decide) ?_ ?_
      · intro c64
        refine OG.iconst X d2_69 (z := (0 : Int32)) rfl ?_
        refine OG.istore X d2_70 (l' := #[.val (.ref a), .val (.int o), .val (.int z), .val (.int (fi f o)), .val (.int (sz f o)), .val (.int (0 : Int32)), .unset]) rfl ?_
        refine OG.iconst X d2_72 (z := (1 : Int32)) rfl ?_
        refine OG.istore X d2_73 (l' := #[.val (.ref a), .val (.int o), .val (.int z), .val (.int (fi f o)), .val (.int (sz f o)), .val (.int (0 : Int32)), .val (.int (1 : Int32))]) rfl ?_
        have loop1 : ∀ (k : Nat) (Tloop1 : State) (len : Int32) (i : Int32), OS prog_46_method_2_code 7 "com/example/resolvent/resolvent/ldap/Ber" "lengthAt" (some .int) Z n0 p l e room2 s m #[(.ref a), (.int o), (.int z)] below meth c Tloop1 h0 0 0 → ((sz f o).toInt + 1 - i.toInt).toNat < k → 1 ≤ i.toInt ∧ i.toInt ≤ 5 → lp f o (sz f o) k len i = lp f o (sz f o) 5 0 1 → OG p e below s n0 room2.cells room2.slots (Q2 Z a o z f h0) (Tloop1.setTop (mkF m 75 #[.val (.ref a), .val (.int o), .val (.int z), .val (.int (fi f o)), .val (.int (sz f o)), .val (.int len), .val (.int i)] [])) := by
          intro k
          induction k with
          | zero => intro Tloop1 len i Xloop1 hk; exact absurd hk (Nat.not_lt_zero _)
          | succ k ih =>
            intro Tloop1 len i Xloop1 hk hi hv
            refine OG.iload Xloop1 d2_75 rfl ?_
            refine OG.iload Xloop1 d2_77 rfl ?_
            refine OG.icmp_gt Xloop1 d2_79 (pc' := 106) (by decide) ?_ ?_
            · intro c79
              have hlen : len = lp f o (sz f o) 5 0 1 := by rw [← hv, lp, if_pos c79]
              refine OG.iload Xloop1 d2_106 rfl ?_
              refine OG.if_ge_t Xloop1 d2_108 (pc' := 117) (by decide) (by rw [hlen]; exact hpos c19) ?_
              refine OG.iload Xloop1 d2_117 rfl ?_
              exact OG.retI Xloop1 d2_119 (by decide) (by decide) ⟨by rw [LA, if_pos c2, if_neg c19, if_neg c64, ← hlen], rfl⟩
            · intro c79
              refine OG.iload Xloop1 d2_82 rfl ?_
              refine OG.bipush Xloop1 d2_84 (z := (8 : Int32)) rfl ?_
              refine OG.ishl Xloop1 d2_86 ?_
              refine OG.aloadN Xloop1 d2_87 rfl rfl ?_
              refine OG.iloadN Xloop1 d2_88 rfl ?_
              refine OG.iload Xloop1 d2_89 rfl ?_
              refine OG.iadd Xloop1 d2_91 ?_
              refine OG.baload Xloop1 A_a (by have := own_le c79; have e := own_add (o := o) (i := i) (by omega) (by omega); have := ho4 c19; omega) d2_92 ?_
              refine OG.sipush Xloop1 d2_93 (z := (255 : Int32)) rfl ?_
              refine OG.iand Xloop1 d2_96 ?_
              refine OG.ior Xloop1 d2_97 ?_
              refine OG.istore Xloop1 d2_98 (l' := #[.val (.ref a), .val (.int o), .val (.int z), .val (.int (fi f o)), .val (.int (sz f o)), .val (.int ((len <<< ((8 : Int32) &&& 31)) ||| ((f (o + i).toInt.toNat) &&& (255 : Int32)))), .val (.int i)]) rfl ?_
              refine OG.iinc Xloop1 d2_100 rfl (z := (1 : Int32)) rfl (l' := #[.val (.ref a), .val (.int o), .val (.int z), .val (.int (fi f o)), .val (.int (sz f o)), .val (.int ((len <<< ((8 : Int32) &&& 31)) ||| ((f (o + i).toInt.toNat) &&& (255 : Int32)))), .val (.int (i + (1 : Int32)))]) rfl ?_
              refine OG.goto Xloop1 d2_103 (pc' := 75) (by decide) ?_
              exact ih Tloop1 ((len <<< ((8 : Int32) &&& 31)) ||| ((f (o + i).toInt.toNat) &&& (255 : Int32))) (i + (1 : Int32)) Xloop1 (by have := own_le c79; have e := own_add (o := i) (i := 1) (by omega) (by decide); have e1 : (1 : Int32).toInt = 1 := rfl; have := hsz c19; omega) (by have := own_le c79; have e := own_add (o := i) (i := 1) (by omega) (by decide); have e1 : (1 : Int32).toInt = 1 := rfl; have := hsz c19; omega) (by rw [← hv, lp, if_neg c79])
        exact loop1 5 T (0 : Int32) (1 : Int32) X (by have := hsz c19; have e1 : (1 : Int32).toInt = 1 := rfl; omega) (by decide) rfl
      · intro c64
        refine OG.iconst X d2_67 (z := (-1 : Int32)) rfl ?_
        exact OG.retI X d2_68 (by decide) (by decide) ⟨by rw [LA, if_pos c2, if_neg c19, if_pos c64], rfl⟩
    · intro c19
      refine OG.iloadN X d2_22 rfl ?_
      exact OG.retI X d2_23 (by decide) (by decide) ⟨by rw [LA, if_pos c2, if_pos c19], rfl⟩
  · intro c2
    refine OG.iconst X d2_5 (z := (-1 : Int32)) rfl ?_
    exact OG.retI X d2_6 (by decide) (by decide) ⟨by rw [LA, if_neg c2], rfl⟩
theorem own_byte {f : Nat → Int32} {j : Nat} : 0 ≤ (f j &&& 255).toInt ∧ (f j &&& 255).toInt < 256 := by
  have := c_and (f j) 255 (by decide)
  have e : (255 : Int32).toInt = 255 := rfl
  omega
theorem own_sh {len y : Int32} {M : Int} (h : 0 ≤ len.toInt ∧ len.toInt < M) (hM : M ≤ 8388608) (hy : 0 ≤ y.toInt ∧ y.toInt < 256) : 0 ≤ ((len <<< ((8 : Int32) &&& 31)) ||| y).toInt ∧ ((len <<< ((8 : Int32) &&& 31)) ||| y).toInt < M * 256 := by
  have h1 := c_ishl len 8 8 (by decide)
  have h2 := rng32 (len <<< ((8 : Int32) &&& 31))
  have h0 : ((2 ^ 8 : Nat) : Int) = 256 := by decide
  rw [h0] at h1
  have h3 : (len <<< ((8 : Int32) &&& 31)).toInt = len.toInt * 256 := by omega
  have h4 := c_or (len <<< ((8 : Int32) &&& 31)) y 8 (by decide) 256 (by decide) (by omega) hy.1 hy.2
  have h5 := rng32 ((len <<< ((8 : Int32) &&& 31)) ||| y)
  omega
theorem own_lpo {f : Nat → Int32} {o q : Int32} (hq : 1 ≤ q.toInt ∧ q.toInt ≤ 4) (h1 : (f (o + 1).toInt.toNat &&& 255).toInt < 128) : ¬ lp f o q 5 0 1 < 0 := by
  have hc : q = 1 ∨ q = 2 ∨ q = 3 ∨ q = 4 := by
    simp only [← Int32.toInt_inj]
    have e1 : (1 : Int32).toInt = 1 := rfl
    have e2 : (2 : Int32).toInt = 2 := rfl
    have e3 : (3 : Int32).toInt = 3 := rfl
    have e4 : (4 : Int32).toInt = 4 := rfl
    omega
  have a1 : (0 : Int32) <<< ((8 : Int32) &&& 31) ||| (f (o + 1).toInt.toNat &&& 255) = f (o + 1).toInt.toNat &&& 255 := by
    rw [show (0 : Int32) <<< ((8 : Int32) &&& 31) = 0 from by decide]; exact Int32.zero_or
  have b1 : 0 ≤ (f (o + 1).toInt.toNat &&& 255).toInt ∧ (f (o + 1).toInt.toNat &&& 255).toInt < 128 := ⟨own_byte.1, h1⟩
  have b2 := own_sh b1 (by decide) (own_byte (f := f) (j := (o + 2).toInt.toNat))
  have b3 := own_sh b2 (by decide) (own_byte (f := f) (j := (o + 3).toInt.toNat))
  have b4 := own_sh b3 (by decide) (own_byte (f := f) (j := (o + 4).toInt.toNat))
  have s1 : (1 : Int32) + 1 = 2 := rfl
  have s2 : (2 : Int32) + 1 = 3 := rfl
  have s3 : (3 : Int32) + 1 = 4 := rfl
  have s4 : (4 : Int32) + 1 = 5 := rfl
  have e0 : (0 : Int32).toInt = 0 := rfl
  rcases hc with rfl | rfl | rfl | rfl
  · rw [lp, if_neg (by decide), a1, s1, lp, if_pos (by decide), Int32.lt_iff_toInt_lt]; omega
  · rw [lp, if_neg (by decide), a1, s1, lp, if_neg (by decide), s2, lp, if_pos (by decide), Int32.lt_iff_toInt_lt]; omega
  · rw [lp, if_neg (by decide), a1, s1, lp, if_neg (by decide), s2, lp, if_neg (by decide), s3, lp, if_pos (by decide), Int32.lt_iff_toInt_lt]; omega
  · rw [lp, if_neg (by decide), a1, s1, lp, if_neg (by decide), s2, lp, if_neg (by decide), s3, lp, if_neg (by decide), s4, lp, if_pos (by decide), Int32.lt_iff_toInt_lt]; omega
theorem own_o {o q : Int32} (h : o = (q &&& 2147483647) % 2) : 0 ≤ o.toInt ∧ o.toInt ≤ 1 := by
  have h1 := c_and q 2147483647 (by decide)
  have h2 := c_irem (q &&& 2147483647) 2 2 rfl
  rw [← h] at h2
  omega
theorem own_o2 {o : Int32} (h : 0 ≤ o.toInt ∧ o.toInt ≤ 1) : o = 0 ∨ o = 1 := by
  simp only [← Int32.toInt_inj]
  have e0 : (0 : Int32).toInt = 0 := rfl
  have e1 : (1 : Int32).toInt = 1 := rfl
  omega
theorem own_ob {o : Int32} (h : 0 ≤ o.toInt ∧ o.toInt ≤ 1) (k : Int32) (hk : 0 ≤ k.toInt ∧ k.toInt ≤ 4) : 0 ≤ (o + k).toInt ∧ (o + k).toInt < (7 : Nat) := by
  rw [own_add (by omega) (by omega)]; omega
theorem own_i2b (x : Int32) : x.toInt8.toInt32.toInt8.toInt32 = x.toInt8.toInt32 := by
  rw [← Int32.toInt_inj]
  have h1 := c_i2b x
  have h2 := c_i2b x.toInt8.toInt32
  omega
theorem own_f1 (x : Int32) : 0 ≤ (x &&& 127).toInt8.toInt32.toInt8.toInt32.toInt ∧ (x &&& 127).toInt8.toInt32.toInt8.toInt32.toInt < 128 := by
  rw [own_i2b]
  have h1 := c_i2b (x &&& 127)
  have h2 := c_and x 127 (by decide)
  have e : (127 : Int32).toInt = 127 := rfl
  omega
theorem own_m (x : Int32) (h : 0 ≤ x.toInt ∧ x.toInt < 128) : (x &&& 255).toInt < 128 := by
  have := c_mask x 255 8 (by decide) (by decide)
  have h0 : ((2 ^ 8 : Nat) : Int) = 256 := by decide
  rw [h0] at this
  omega
theorem own_def {b d : Int32} (hd : d = if b < 0 then (if b < -127 then 0 else if -124 < b then 0 else 1) else 1) (h : ¬ d = 0) : 0 ≤ b.toInt ∨ (-127 ≤ b.toInt ∧ b.toInt ≤ -124) := by
  have e0 : (0 : Int32).toInt = 0 := rfl
  have e1 : (-127 : Int32).toInt = -127 := rfl
  have e2 : (-124 : Int32).toInt = -124 := rfl
  by_cases q : b < 0
  · rw [if_pos q] at hd
    by_cases q1 : b < -127
    · rw [if_pos q1] at hd; exact absurd hd h
    · rw [if_neg q1] at hd
      by_cases q2 : -124 < b
      · rw [if_pos q2] at hd; exact absurd hd h
      · rw [Int32.lt_iff_toInt_lt] at q1 q2; omega
  · rw [Int32.lt_iff_toInt_lt] at q; omega
theorem own_fsz {ff : Nat → Int32} {o b : Int32} (hb : b = ff o.toInt.toNat) : (fi ff o).toInt = b.toInt % 256 ∧ (sz ff o).toInt = b.toInt % 128 := by
  have h1 := own_fi ff o
  have h2 := own_sz ff o
  rw [← hb] at h1
  omega
theorem own_d1 {ff : Nat → Int32} {o b d : Int32} (hr : -128 ≤ b.toInt ∧ b.toInt < 128) (hb : b = ff o.toInt.toNat) (hd : d = if b < 0 then (if b < -127 then 0 else if -124 < b then 0 else 1) else 1) (h : ¬ d = 0) : ¬ fi ff o < 128 → 1 ≤ (sz ff o).toInt ∧ (sz ff o).toInt ≤ 4 := by
  intro q
  rw [Int32.lt_iff_toInt_lt] at q
  have e : (128 : Int32).toInt = 128 := rfl
  have h1 := own_fsz hb
  have h2 := own_def hd h
  have h3 : b.toInt < 128 ∨ 128 ≤ b.toInt := by omega
  have h4 := rng32 b
  by_cases p : 0 ≤ b.toInt
  · omega
  · omega
theorem own_d2 {ff : Nat → Int32} {o b d : Int32} (ho : 0 ≤ o.toInt ∧ o.toInt ≤ 1) (hr : -128 ≤ b.toInt ∧ b.toInt < 128) (hb : b = ff o.toInt.toNat) (hd : d = if b < 0 then (if b < -127 then 0 else if -124 < b then 0 else 1) else 1) (h : ¬ d = 0) : ¬ fi ff o < 128 → o.toInt + (sz ff o).toInt < (7 : Nat) := by
  intro q
  have := own_d1 hr hb hd h q
  omega
theorem own_s {ff : Nat → Int32} {o b : Int32} (hr : -128 ≤ b.toInt ∧ b.toInt < 128) (hb : b = ff o.toInt.toNat) : (F1 o ff).toInt = if b.toInt < 0 then b.toInt + 129 else 1 := by
  have h1 := own_fsz hb
  have e : (128 : Int32).toInt = 128 := rfl
  show (if fi ff o < 128 then (1 : Int32) else 1 + sz ff o).toInt = _
  by_cases q : fi ff o < 128
  · rw [if_pos q]; rw [Int32.lt_iff_toInt_lt] at q
    have : (1 : Int32).toInt = 1 := rfl
    rw [if_neg (by omega)]; exact this
  · rw [if_neg q]; rw [Int32.lt_iff_toInt_lt] at q
    have : (1 : Int32).toInt = 1 := rfl
    rw [if_pos (by omega), own_add (by decide) (by omega)]; omega
theorem own_eq1 {ff : Nat → Int32} {o b s ex : Int32} (hr : -128 ≤ b.toInt ∧ b.toInt < 128) (hb : b = ff o.toInt.toNat) (hs : s = F1 o ff) (he : ex = if b < 0 then b + 129 else 1) : s = ex := by
  have h1 := own_s hr hb
  have e0 : (0 : Int32).toInt = 0 := rfl
  have e9 : (129 : Int32).toInt = 129 := rfl
  rw [← Int32.toInt_inj, hs, h1, he]
  by_cases q : b < 0
  · have q' := q; rw [Int32.lt_iff_toInt_lt] at q'
    rw [if_pos q, if_pos (by omega)]
    have := c_iadd b 129
    have := rng32 (b + 129)
    omega
  · have q' := q; rw [Int32.lt_iff_toInt_lt] at q'
    rw [if_neg q, if_neg (by omega)]; rfl
theorem own_whole {ff : Nat → Int32} {o b d s : Int32} (ho : 0 ≤ o.toInt ∧ o.toInt ≤ 1) (hr : -128 ≤ b.toInt ∧ b.toInt < 128) (hb : b = ff o.toInt.toNat) (hs : s = F1 o ff) (hd : d = if b < 0 then (if b < -127 then 0 else if -124 < b then 0 else 1) else 1) (h : ¬ d = 0) (hf1 : (ff (o + 1).toInt.toNat &&& 255).toInt < 128) : (¬ b < 0 → LA ff o (o + s) = b) ∧ ¬ LA ff o (o + s) < 0 ∧ LA ff o (o + s - 1) = -1 := by
  have h1 := own_s hr hb
  rw [← hs] at h1
  have h2 := own_fsz hb
  have h3 := own_def hd h
  have e0 : (0 : Int32).toInt = 0 := rfl
  have e1 : (1 : Int32).toInt = 1 := rfl
  have e8 : (128 : Int32).toInt = 128 := rfl
  have hs2 : 1 ≤ s.toInt ∧ s.toInt ≤ 5 := by split at h1 <;> omega
  have a1 := own_add (o := o) (i := s) (by omega) (by omega)
  have a2 := own_add (o := o) (i := 1) (by omega) (by decide)
  have a4 : (o + s - 1).toInt = o.toInt + s.toInt - 1 := by
    have := c_isub (o + s) 1
    have := rng32 (o + s - 1)
    omega
  have lt1 : o < o + s := by rw [Int32.lt_iff_toInt_lt]; omega
  by_cases q : b < 0
  · have q' := q; rw [Int32.lt_iff_toInt_lt] at q'
    rw [if_pos (by omega)] at h1
    have f1 : ¬ fi ff o < 128 := by rw [Int32.lt_iff_toInt_lt]; omega
    have a3 := own_add (o := o + 1) (i := sz ff o) (by omega) (by omega)
    have lt2 : ¬ o + s < o + 1 + sz ff o := by rw [Int32.lt_iff_toInt_lt]; omega
    have lt3 : o < o + s - 1 := by rw [Int32.lt_iff_toInt_lt]; omega
    have lt4 : o + s - 1 < o + 1 + sz ff o := by rw [Int32.lt_iff_toInt_lt]; omega
    refine ⟨fun p => absurd q p, ?_, ?_⟩
    · rw [LA, if_pos lt1, if_neg f1, if_neg lt2]; exact own_lpo (own_d1 hr hb hd h f1) hf1
    · rw [LA, if_pos lt3, if_neg f1, if_pos lt4]
  · have q' := q; rw [Int32.lt_iff_toInt_lt] at q'
    rw [if_neg (by omega)] at h1
    have f1 : fi ff o < 128 := by rw [Int32.lt_iff_toInt_lt]; omega
    have eb : fi ff o = b := by rw [← Int32.toInt_inj]; omega
    have lt3 : ¬ o < o + s - 1 := by rw [Int32.lt_iff_toInt_lt]; omega
    refine ⟨fun _ => ?_, ?_, ?_⟩
    · rw [LA, if_pos lt1, if_pos f1, eb]
    · rw [LA, if_pos lt1, if_pos f1, eb]; exact q
    · rw [LA, if_neg lt3]
theorem pn_0 : plainName "com/example/resolvent/resolvent/ldap/BerLengthSizePinLaw" = true := by first | (simp [plainName, overriddenIn]; done) | decide +kernel
theorem ef_0 (m : MethodId) (i0 : Int32) (i1 : Int32) (i2 : Int32) : entryFrame m #[(.int i0), (.int i1), (.int i2)] maxLocals = mkF m 0 #[.val (.int i0), .val (.int i1), .val (.int i2), .unset, .unset, .unset, .unset, .unset, .unset, .unset, .unset, .unset] [] := by first | (simp [entryFrame, mkF, argsToLocals, Value.category, maxLocals]; done) | rfl
def Q0 (Z : State) (i0 : Int32) (i1 : Int32) (i2 : Int32)  (h0 : Heap) : Option Value → Heap → Prop := fun v h => v = some (.int 1)
theorem pd_0 : parseMethodDescriptor "([BI)I" = some ⟨[(.array .byte), .int], some .int⟩ := by decide +kernel
theorem pd_1 : parseMethodDescriptor "([BII)I" = some ⟨[(.array .byte), .int, .int], some .int⟩ := by decide +kernel
set_option maxRecDepth 65536 in
set_option maxHeartbeats 40000000 in
theorem rm0 (l : Launch) (Z : State) (a0 : Array Value) (hw : ∀ d ∈ tables_1, d.before a0 Z = true) (ws : List Jvm.Cond) (i0 : Int32) (i1 : Int32) (i2 : Int32)  (h0 : Heap) (n0 : Nat) (Z0 : n0 ≤ h0.size)  :
    OM l x code maxLocals ret room_1 ws Z #[(.int i0), (.int i1), (.int i2)] h0 n0 (Q0 Z i0 i1 i2  h0) := by
  refine OM.of (plainFor_of_name pn_0) (fun m => ef_0 m i0 i1 i2) ?_
  intro p e s m below meth c T X
  refine OG.iloadN X at_0 rfl ?_
  refine OG.ldcInt X (v := (2147483647 : Int32)) (hw _ (List.mem_of_getElem? (i := 0) rfl)) at_1 ?_
  refine OG.iand X at_3 ?_
  refine OG.iconst X at_4 (z := (2 : Int32)) rfl ?_
  refine OG.irem X at_5 (by decide) ?_
  refine OG.istoreNV X at_6 (l' := fun z => #[.val (.int i0), .val (.int i1), .val (.int i2), .val (.int z), .unset, .unset, .unset, .unset, .unset, .unset, .unset, .unset]) (fun _ => rfl) ?_
  intro o ho
  have ho2 := own_o ho
  refine OG.iloadN X at_7 rfl ?_
  refine OG.iconst X at_8 (z := (-1 : Int32)) rfl ?_
  refine OG.ixor X at_9 ?_
  refine OG.i2b X at_10 ?_
  refine OG.istoreV X at_11 (l' := fun z => #[.val (.int i0), .val (.int i1), .val (.int i2), .val (.int o), .val (.int z), .unset, .unset, .unset, .unset, .unset, .unset, .unset]) (fun _ => rfl) ?_
  intro fil hfil
  refine OG.bipush X at_13 (z := (7 : Int32)) rfl ?_
  refine OG.newP X (hw _ (List.mem_of_getElem? (i := 1) rfl)) at_15 (by decide) (cap := 7) (by decide) (by decide) (by decide) (by decide) ?_
  rintro T1 h2 b4 gb4 X1 E3 ⟨cAb4, Nb4⟩
  have g_b4 : n0 ≤ b4 := Nat.le_trans Z0 (Nat.le_of_eq gb4.symm)
  replace Z0 := Nat.le_trans Z0 E3.1
  have A_b4 : Ia Z h2 b4 .byte 7 (fun _ => 0) := Ia.new Nb4 (by decide) rfl rfl
  refine OG.astore X1 at_17 (l' := #[.val (.int i0), .val (.int i1), .val (.int i2), .val (.int o), .val (.int fil), .val (.ref b4), .unset, .unset, .unset, .unset, .unset, .unset]) rfl rfl ?_
  refine OG.aload X1 at_19 rfl rfl ?_
  refine OG.iconst X1 at_21 (z := (0 : Int32)) rfl ?_
  refine OG.iload X1 at_22 rfl ?_
  refine OG.bastore X1 A_b4 (by decide) at_24 g_b4 ?_
  intro T5 h6 X5 W7 A5
  replace Z0 := Nat.le_trans Z0 (Keep.of_wr W7).1
  replace A_b4 := A5
  refine OG.aload X5 at_25 rfl rfl ?_
  refine OG.iconst X5 at_27 (z := (1 : Int32)) rfl ?_
  refine OG.iload X5 at_28 rfl ?_
  refine OG.bastore X5 A_b4 (by decide) at_30 g_b4 ?_
  intro T8 h9 X8 W10 A8
  replace Z0 := Nat.le_trans Z0 (Keep.of_wr W10).1
  replace A_b4 := A8
  refine OG.aload X8 at_31 rfl rfl ?_
  refine OG.iconst X8 at_33 (z := (2 : Int32)) rfl ?_
  refine OG.iload X8 at_34 rfl ?_
  refine OG.bastore X8 A_b4 (by decide) at_36 g_b4 ?_
  intro T11 h12 X11 W13 A11
  replace Z0 := Nat.le_trans Z0 (Keep.of_wr W13).1
  replace A_b4 := A11
  refine OG.aload X11 at_37 rfl rfl ?_
  refine OG.iconst X11 at_39 (z := (3 : Int32)) rfl ?_
  refine OG.iload X11 at_40 rfl ?_
  refine OG.bastore X11 A_b4 (by decide) at_42 g_b4 ?_
  intro T14 h15 X14 W16 A14
  replace Z0 := Nat.le_trans Z0 (Keep.of_wr W16).1
  replace A_b4 := A14
  refine OG.aload X14 at_43 rfl rfl ?_
  refine OG.iconst X14 at_45 (z := (4 : Int32)) rfl ?_
  refine OG.iload X14 at_46 rfl ?_
  refine OG.bastore X14 A_b4 (by decide) at_48 g_b4 ?_
  intro T17 h18 X17 W19 A17
  replace Z0 := Nat.le_trans Z0 (Keep.of_wr W19).1
  replace A_b4 := A17
  refine OG.aload X17 at_49 rfl rfl ?_
  refine OG.iconst X17 at_51 (z := (5 : Int32)) rfl ?_
  refine OG.iload X17 at_52 rfl ?_
  refine OG.bastore X17 A_b4 (by decide) at_54 g_b4 ?_
  intro T20 h21 X20 W22 A20
  replace Z0 := Nat.le_trans Z0 (Keep.of_wr W22).1
  replace A_b4 := A20
  refine OG.aload X20 at_55 rfl rfl ?_
  refine OG.bipush X20 at_57 (z := (6 : Int32)) rfl ?_
  refine OG.iload X20 at_59 rfl ?_
  refine OG.bastore X20 A_b4 (by decide) at_61 g_b4 ?_
  intro T23 h24 X23 W25 A23
  replace Z0 := Nat.le_trans Z0 (Keep.of_wr W25).1
  replace A_b4 := A23
  refine OG.aload X23 at_62 rfl rfl ?_
  refine OG.iloadN X23 at_64 rfl ?_
  refine OG.iloadN X23 at_65 rfl ?_
  refine OG.i2b X23 at_66 ?_
  refine OG.bastore X23 A_b4 (by omega) at_67 g_b4 ?_
  intro T26 h27 X26 W28 A26
  replace Z0 := Nat.le_trans Z0 (Keep.of_wr W28).1
  replace A_b4 := A26
  refine OG.aload X26 at_68 rfl rfl ?_
  refine OG.iloadN X26 at_70 rfl ?_
  refine OG.iconst X26 at_71 (z := (1 : Int32)) rfl ?_
  refine OG.iadd X26 at_72 ?_
  refine OG.iloadN X26 at_73 rfl ?_
  refine OG.bipush X26 at_74 (z := (24 : Int32)) rfl ?_
  refine OG.iushr X26 at_76 ?_
  refine OG.bipush X26 at_77 (z := (127 : Int32)) rfl ?_
  refine OG.iand X26 at_79 ?_
  refine OG.i2b X26 at_80 ?_
  refine OG.bastore X26 A_b4 (own_ob ho2 1 (by decide)) at_81 g_b4 ?_
  intro T29 h30 X29 W31 A29
  replace Z0 := Nat.le_trans Z0 (Keep.of_wr W31).1
  replace A_b4 := A29
  refine OG.aload X29 at_82 rfl rfl ?_
  refine OG.iloadN X29 at_84 rfl ?_
  refine OG.iconst X29 at_85 (z := (2 : Int32)) rfl ?_
  refine OG.iadd X29 at_86 ?_
  refine OG.iloadN X29 at_87 rfl ?_
  refine OG.bipush X29 at_88 (z := (16 : Int32)) rfl ?_
  refine OG.iushr X29 at_90 ?_
  refine OG.i2b X29 at_91 ?_
  refine OG.bastore X29 A_b4 (own_ob ho2 2 (by decide)) at_92 g_b4 ?_
  intro T32 h33 X32 W34 A32
  replace Z0 := Nat.le_trans Z0 (Keep.of_wr W34).1
  replace A_b4 := A32
  refine OG.aload X32 at_93 rfl rfl ?_
  refine OG.iloadN X32 at_95 rfl ?_
  refine OG.iconst X32 at_96 (z := (3 : Int32)) rfl ?_
  refine OG.iadd X32 at_97 ?_
  refine OG.iloadN X32 at_98 rfl ?_
  refine OG.bipush X32 at_99 (z := (8 : Int32)) rfl ?_
  refine OG.iushr X32 at_101 ?_
  refine OG.i2b X32 at_102 ?_
  refine OG.bastore X32 A_b4 (own_ob ho2 3 (by decide)) at_103 g_b4 ?_
  intro T35 h36 X35 W37 A35
  replace Z0 := Nat.le_trans Z0 (Keep.of_wr W37).1
  replace A_b4 := A35
  refine OG.aload X35 at_104 rfl rfl ?_
  refine OG.iloadN X35 at_106 rfl ?_
  refine OG.iconst X35 at_107 (z := (4 : Int32)) rfl ?_
  refine OG.iadd X35 at_108 ?_
  refine OG.iloadN X35 at_109 rfl ?_
  refine OG.i2b X35 at_110 ?_
  refine OG.bastore X35 A_b4 (own_ob ho2 4 (by decide)) at_111 g_b4 ?_
  intro T38 h39 X38 W40 A38
  replace Z0 := Nat.le_trans Z0 (Keep.of_wr W40).1
  replace A_b4 := A38
  obtain ⟨ff, A_ff, hf0, hf1⟩ : ∃ ff, Ia Z h39 b4 .byte 7 ff ∧ ff o.toInt.toNat = i0.toInt8.toInt32 ∧ (ff (o + 1).toInt.toNat &&& 255).toInt < 128 := by
    refine ⟨_, A_b4, ?_, ?_⟩
    · rcases own_o2 ho2 with rfl | rfl <;> exact own_i2b i0
    · refine own_m _ ?_; rcases own_o2 ho2 with rfl | rfl <;> exact own_f1 _
  refine OG.aload X38 at_112 rfl rfl ?_
  refine OG.iloadN X38 at_114 rfl ?_
  refine OG.baload X38 A_ff (by omega) at_115 ?_
  refine OG.istoreV X38 at_116 (l' := fun z => #[.val (.int i0), .val (.int i1), .val (.int i2), .val (.int o), .val (.int fil), .val (.ref b4), .val (.int z), .unset, .unset, .unset, .unset, .unset]) (fun _ => rfl) ?_
  intro b hb
  have hbr : -128 ≤ b.toInt ∧ b.toInt < 128 := by rw [hb, hf0]; exact (c_i2b i0).2
  refine OG.iload X38 at_118 rfl ?_
  have hj41 : ∀ ex : Int32, ex = (if b < (0 : Int32) then (b + (129 : Int32)) else (1 : Int32)) → OG p e below s n0 room_1.cells room_1.slots (Q0 Z i0 i1 i2  h0) (T38.setTop (mkF m 133 #[.val (.int i0), .val (.int i1), .val (.int i2), .val (.int o), .val (.int fil), .val (.ref b4), .val (.int b), .unset, .unset, .unset, .unset, .unset] [(.int ex)])) := by
    intro ex hex
    refine OG.istore X38 at_133 (l' := #[.val (.int i0), .val (.int i1), .val (.int i2), .val (.int o), .val (.int fil), .val (.ref b4), .val (.int b), .val (.int ex), .unset, .unset, .unset, .unset]) rfl ?_
    refine OG.aload X38 at_135 rfl rfl ?_
    refine OG.iloadN X38 at_137 rfl ?_
    refine OG.callS X38 (hw _ (List.mem_of_getElem? (i := 2) rfl)) (hw _ (List.mem_of_getElem? (i := 3) rfl)) (by decide) (rm1 l Z a0 hw [] b4 o ff h39 n0 A_ff (by omega)) (hw _ (List.mem_of_getElem? (i := 5) rfl)) (hw _ (List.mem_of_getElem? (i := 4) rfl)) (by decide) (W := 0) (by decide) rfl (argsL := [(.ref b4), (.int o)]) pd_0 rfl at_138 rfl (Nat.le_of_eq rfl) (by decide) (by decide) ?_
    rintro _ T42 h43 X42 ⟨rfl, eh43⟩
    rw [eh43] at X42
    show OG p e below s n0 room_1.cells room_1.slots (Q0 Z i0 i1 i2  h0) (T42.setTop (mkF m 141 #[.val (.int i0), .val (.int i1), .val (.int i2), .val (.int o), .val (.int fil), .val (.ref b4), .val (.int b), .val (.int ex), .unset, .unset, .unset, .unset] [(.int (F1 o ff))]))
    refine OG.istoreV X42 at_141 (l' := fun z => #[.val (.int i0), .val (.int i1), .val (.int i2), .val (.int o), .val (.int fil), .val (.ref b4), .val (.int b), .val (.int ex), .val (.int z), .unset, .unset, .unset]) (fun _ => rfl) ?_
    intro sv hsv
    refine OG.iload X42 at_143 rfl ?_
    refine OG.iload X42 at_145 rfl ?_
    refine OG.icmp_eq_t X42 at_147 (pc' := 152) (by decide) (own_eq1 hbr hb hsv hex) ?_
    refine OG.iload X42 at_152 rfl ?_
    have hj44 : ∀ d : Int32, d = (if b < (0 : Int32) then (if b < (-127 : Int32) then (0 : Int32) else (if (-124 : Int32) < b then (0 : Int32) else (1 : Int32))) else (1 : Int32)) → OG p e below s n0 room_1.cells room_1.slots (Q0 Z i0 i1 i2  h0) (T42.setTop (mkF m 176 #[.val (.int i0), .val (.int i1), .val (.int i2), .val (.int o), .val (.int fil), .val (.ref b4), .val (.int b), .val (.int ex), .val (.int sv), .unset, .unset, .unset] [(.int d)])) := by
      intro d hd
      refine OG.istore X42 at_176 (l' := #[.val (.int i0), .val (.int i1), .val (.int i2), .val (.int o), .val (.int fil), .val (.ref b4), .val (.int b), .val (.int ex), .val (.int sv), .val (.int d), .unset, .unset]) rfl ?_
      refine OG.iload X42 at_178 rfl ?_
      refine OG.if_ne X42 at_180 (pc' := 185) (by decide) ?_ ?_
      · intro c180
        refine OG.aload X42 at_185 rfl rfl ?_
        refine OG.iloadN X42 at_187 rfl ?_
        refine OG.iloadN X42 at_188 rfl ?_
        refine OG.iload X42 at_189 rfl ?_
        refine OG.iadd X42 at_191 ?_
        refine OG.callS X42 (hw _ (List.mem_of_getElem? (i := 6) rfl)) (hw _ (List.mem_of_getElem? (i := 7) rfl)) (by decide) (rm2 l Z a0 hw [] b4 o (o + sv) ff h39 n0 A_ff (by omega) (own_d1 hbr hb hd c180) (own_d2 ho2 hbr hb hd c180) (fun q => own_lpo (own_d1 hbr hb hd c180 q) hf1)) (hw _ (List.mem_of_getElem? (i := 8) rfl)) (hw _ (List.mem_of_getElem? (i := 4) rfl)) (by decide) (W := 0) (by decide) rfl (argsL := [(.ref b4), (.int o), (.int (o + sv))]) pd_1 rfl at_192 rfl (Nat.le_of_eq rfl) (by decide) (by decide) ?_
        rintro _ T45 h46 X45 ⟨rfl, eh46⟩
        rw [eh46] at X45
        show OG p e below s n0 room_1.cells room_1.slots (Q0 Z i0 i1 i2  h0) (T45.setTop (mkF m 195 #[.val (.int i0), .val (.int i1), .val (.int i2), .val (.int o), .val (.int fil), .val (.ref b4), .val (.int b), .val (.int ex), .val (.int sv), .val (.int d), .unset, .unset] [(.int (LA ff o (o + sv)))]))
        refine OG.istoreV X45 at_195 (l' := fun z => #[.val (.int i0), .val (.int i1), .val (.int i2), .val (.int o), .val (.int fil), .val (.ref b4), .val (.int b), .val (.int ex), .val (.int sv), .val (.int d), .val (.int z), .unset]) (fun _ => rfl) ?_
        intro wh hwh
        refine OG.aload X45 at_197 rfl rfl ?_
        refine OG.iloadN X45 at_199 rfl ?_
        refine OG.iloadN X45 at_200 rfl ?_
        refine OG.iload X45 at_201 rfl ?_
        refine OG.iadd X45 at_203 ?_
        refine OG.iconst X45 at_204 (z := (1 : Int32)) rfl ?_
        refine OG.isub X45 at_205 ?_
        refine OG.callS X45 (hw _ (List.mem_of_getElem? (i := 6) rfl)) (hw _ (List.mem_of_getElem? (i := 7) rfl)) (by decide) (rm2 l Z a0 hw [] b4 o ((o + sv) - (1 : Int32)) ff h39 n0 A_ff (by omega) (own_d1 hbr hb hd c180) (own_d2 ho2 hbr hb hd c180) (fun q => own_lpo (own_d1 hbr hb hd c180 q) hf1)) (hw _ (List.mem_of_getElem? (i := 8) rfl)) (hw _ (List.mem_of_getElem? (i := 4) rfl)) (by decide) (W := 0) (by decide) rfl (argsL := [(.ref b4), (.int o), (.int ((o + sv) - (1 : Int32)))]) pd_1 rfl at_206 rfl (Nat.le_of_eq rfl) (by decide) (by decide) ?_
        rintro _ T47 h48 X47 ⟨rfl, eh48⟩
        rw [eh48] at X47
        show OG p e below s n0 room_1.cells room_1.slots (Q0 Z i0 i1 i2  h0) (T47.setTop (mkF m 209 #[.val (.int i0), .val (.int i1), .val (.int i2), .val (.int o), .val (.int fil), .val (.ref b4), .val (.int b), .val (.int ex), .val (.int sv), .val (.int d), .val (.int wh), .unset] [(.int (LA ff o ((o + sv) - (1 : Int32))))]))
        refine OG.istoreV X47 at_209 (l' := fun z => #[.val (.int i0), .val (.int i1), .val (.int i2), .val (.int o), .val (.int fil), .val (.ref b4), .val (.int b), .val (.int ex), .val (.int sv), .val (.int d), .val (.int wh), .val (.int z)]) (fun _ => rfl) ?_
        intro cut hcut
        refine OG.iload X47 at_211 rfl ?_
        refine OG.if_lt X47 at_213 (pc' := 225) (by decide) ?_ ?_
        · intro c213
          refine OG.iload X47 at_225 rfl ?_
          refine OG.if_lt X47 at_227 (pc' := 240) (by decide) ?_ ?_
          · intro c227
            refine OG.iconst X47 at_240 (z := (0 : Int32)) rfl ?_
            exact OG.retN X47 (t := .boolean) at_241 (by simp) (by decide) (by decide) (absurd c227 (by rw [hwh]; exact (own_whole ho2 hbr hb hsv hd c180 hf1).2.1))
          · intro c227
            refine OG.iload X47 at_230 rfl ?_
            refine OG.iconst X47 at_232 (z := (-1 : Int32)) rfl ?_
            refine OG.icmp_ne X47 at_233 (pc' := 240) (by decide) ?_ ?_
            · intro c233
              refine OG.iconst X47 at_240 (z := (0 : Int32)) rfl ?_
              exact OG.retN X47 (t := .boolean) at_241 (by simp) (by decide) (by decide) (absurd (hcut.trans (own_whole ho2 hbr hb hsv hd c180 hf1).2.2) c233)
            · intro c233
              refine OG.iconst X47 at_236 (z := (1 : Int32)) rfl ?_
              refine OG.goto X47 at_237 (pc' := 241) (by decide) ?_
              exact OG.retN X47 (t := .boolean) at_241 (by simp) (by decide) (by decide) rfl
        · intro c213
          refine OG.iload X47 at_216 rfl ?_
          refine OG.iload X47 at_218 rfl ?_
          refine OG.icmp_eq X47 at_220 (pc' := 225) (by decide) ?_ ?_
          · intro c220
            refine OG.iload X47 at_225 rfl ?_
            refine OG.if_lt X47 at_227 (pc' := 240) (by decide) ?_ ?_
            · intro c227
              refine OG.iconst X47 at_240 (z := (0 : Int32)) rfl ?_
              exact OG.retN X47 (t := .boolean) at_241 (by simp) (by decide) (by decide) (absurd c227 (by rw [hwh]; exact (own_whole ho2 hbr hb hsv hd c180 hf1).2.1))
            · intro c227
              refine OG.iload X47 at_230 rfl ?_
              refine OG.iconst X47 at_232 (z := (-1 : Int32)) rfl ?_
              refine OG.icmp_ne X47 at_233 (pc' := 240) (by decide) ?_ ?_
              · intro c233
                refine OG.iconst X47 at_240 (z := (0 : Int32)) rfl ?_
                exact OG.retN X47 (t := .boolean) at_241 (by simp) (by decide) (by decide) (absurd (hcut.trans (own_whole ho2 hbr hb hsv hd c180 hf1).2.2) c233)
              · intro c233
                refine OG.iconst X47 at_236 (z := (1 : Int32)) rfl ?_
                refine OG.goto X47 at_237 (pc' := 241) (by decide) ?_
                exact OG.retN X47 (t := .boolean) at_241 (by simp) (by decide) (by decide) rfl
          · intro c220
            refine OG.iconst X47 at_223 (z := (0 : Int32)) rfl ?_
            exact OG.retN X47 (t := .boolean) at_224 (by simp) (by decide) (by decide) (absurd (hwh.trans ((own_whole ho2 hbr hb hsv hd c180 hf1).1 c213)) c220)
      · intro c180
        refine OG.iconst X42 at_183 (z := (1 : Int32)) rfl ?_
        exact OG.retN X42 (t := .boolean) at_184 (by simp) (by decide) (by decide) rfl
    refine OG.if_ge X42 at_154 (pc' := 171) (by decide) ?_ ?_
    · intro c154
      refine OG.iconst X42 at_171 (z := (1 : Int32)) rfl ?_
      refine OG.goto X42 at_172 (pc' := 176) (by decide) ?_
      exact hj44 _ (by rw [if_neg c154])
    · intro c154
      refine OG.iload X42 at_157 rfl ?_
      refine OG.bipush X42 at_159 (z := (-127 : Int32)) rfl ?_
      refine OG.icmp_lt X42 at_161 (pc' := 175) (by decide) ?_ ?_
      · intro c161
        refine OG.iconst X42 at_175 (z := (0 : Int32)) rfl ?_
        exact hj44 _ (by rw [if_pos c154, if_pos c161])
      · intro c161
        refine OG.iload X42 at_164 rfl ?_
        refine OG.bipush X42 at_166 (z := (-124 : Int32)) rfl ?_
        refine OG.icmp_gt X42 at_168 (pc' := 175) (by decide) ?_ ?_
        · intro c168
          refine OG.iconst X42 at_175 (z := (0 : Int32)) rfl ?_
          exact hj44 _ (by rw [if_pos c154, if_neg c161, if_pos c168])
        · intro c168
          refine OG.iconst X42 at_171 (z := (1 : Int32)) rfl ?_
          refine OG.goto X42 at_172 (pc' := 176) (by decide) ?_
          exact hj44 _ (by rw [if_pos c154, if_neg c161, if_neg c168])
  refine OG.if_lt X38 at_120 (pc' := 127) (by decide) ?_ ?_
  · intro c120
    refine OG.iload X38 at_127 rfl ?_
    refine OG.sipush X38 at_129 (z := (129 : Int32)) rfl ?_
    refine OG.iadd X38 at_132 ?_
    exact hj41 _ (by rw [if_pos c120])
  · intro c120
    refine OG.iconst X38 at_123 (z := (1 : Int32)) rfl ?_
    refine OG.goto X38 at_124 (pc' := 133) (by decide) ?_
    exact hj41 _ (by rw [if_neg c120])
set_option maxRecDepth 65536 in
set_option maxHeartbeats 40000000 in
theorem comes_1 {Post : Tables → Env → Array Value → State → Outcome → State → Prop} (hpost : ∀ tb e args s v u, (limb_1_1.after args s (.returned v) u = true ∧ limb_1_2.after args s (.returned v) u = true ∧ True) → FrameEnd s (.returned v) u (Jvm.fieldLocs frame_1_writes args s ++ Jvm.arrayLocs frame_1_arrays args s ++ Jvm.staticLocs frame_1_statics s) 16 128 → Post tb e args s (.returned v) u) :
    ArmFor flags0 classFile x code maxLocals ret World_1 tables_1 room_1 Calls_1 rest_1 Pre_1 Post := by
  intro l hfl _ _ p e ha hc hk s m args below hf hA hF happ hP
  obtain ⟨hcalls, hrest, hpre⟩ := hP
  obtain ⟨-, -, -, hnamed, -, -, -, hat⟩ := (Spec.applies_iff hf).mp happ
  obtain ⟨hg, hn⟩ := and_e (Cond.before_iff.mp (show (Jvm.Cond.and given_1 narrow_1).before args s = true from hpre))
  obtain ⟨g1, g2⟩ := and_e hg
  obtain ⟨g3, g4⟩ := and_e g2
  obtain ⟨g5, g6⟩ := and_e g4
  obtain ⟨w0, w1, w2, rfl⟩ : ∃ w0 w1 w2 : Value, args = #[w0, w1, w2] := by
    have hs : args.size = 3 := by simpa [Cond.value, given_1] using g1
    obtain ⟨L⟩ := args
    match L, hs with
    | [w0, w1, w2], _ => exact ⟨w0, w1, w2, rfl⟩
  have hw := fun d (hd : d ∈ tables_1) => atoms_spec (ws := Jvm.Cond.code x code maxLocals ret :: tables_1) hat d (List.mem_cons_of_mem _ hd)
  have hfit : Fit s := fun {y c} hc i hi => by
    obtain ⟨ha, rfl⟩ := Array.getElem?_eq_some_iff.mp hc
    have q := List.all_eq_true.mp ((Array.all_eq_true_iff_forall_mem.mp hF) _ (Array.getElem_mem ha)) i (List.mem_range.mpr hi)
    simpa [Array.getElem?_eq_getElem hi] using q
  obtain ⟨i0, ei0⟩ := is_v g3
  obtain rfl : w0 = (.int i0) := Option.some.inj ei0
  obtain ⟨i1, ei1⟩ := is_v g5
  obtain rfl : w1 = (.int i1) := Option.some.inj ei1
  obtain ⟨i2, ei2⟩ := is_v g6
  obtain rfl : w2 = (.int i2) := Option.some.inj ei2
  obtain ⟨n, o, h1, h2, h3, _, L, rfl, ⟨rfl, N⟩, hq⟩ := rm0 l s _ hw tables_1 i0 i1 i2 s.heap s.heap.size (Nat.le_refl _)  p e ha hc hk s m _ below hf ((Spec.applies_iff_loose hf).mp happ).1 ⟨rfl, State.Warmed39.refl s, rfl⟩ trivial
  refine ⟨n, _, h1, h2, h3, hpost _ _ _ _ _ _ ⟨Cond.after_iff.mpr rfl, Cond.after_iff.mpr (eq_i res_at (Term.int_eval (1)) rfl), trivial⟩ ⟨hq.1, hq.2.1, (hq.2.2.sift fun y hy => Or.inr (N y hy)).mono (by decide) (by decide)⟩⟩
theorem main_1_1 : Claimed_1_1 := comes_1 fun _ _ _ _ _ _ h hF => ⟨h.1, hF⟩
theorem main_1_2 : Claimed_1_2 := comes_1 fun _ _ _ _ _ _ h hF => ⟨h.2.1, hF⟩
end Jvm.Pilot.@@N@@
namespace Jvm.Pilot.@@N@@
open Jvm Jvm.ClassFile Sem Op Lib Jvm.Free Jvm.Stand Jvm.Pilot.@@N@@.Jvm.D
/-! MADE BY PROGRAM (witnessworld.py) out of the Statement's table words and the real class files: 9 classes; the members and pool entries that the words name. The judged class is class 1, her method 1. -/
namespace start1
open Jvm.ClassFile
def u (s : String) : CpInfo := .utf8 (stringToUtf16 s)
/-- a pool by its gaps: so many unusable entries, then the entry; so many at the end -/
def gap : Nat → List CpInfo → List CpInfo
  | 0, r => r
  | n + 1, r => .unusable :: gap n r
def poolList (es : List (Nat × CpInfo)) (last : Nat) : List CpInfo := es.foldr (fun e r => gap e.1 (e.2 :: r)) (gap last [])
def pool (es : List (Nat × CpInfo)) (last : Nat) : Array CpInfo := ⟨poolList es last⟩
def fileOf (pool : Array CpInfo) (this : Nat) (attrs : Array Attribute := #[]) (ms : Array MethodInfo := #[]) (fl : Nat := 33) (sup : Nat := 0) (ifs : Array Nat := #[]) (fds : Array FieldInfo := #[]) : ClassFile where
  minorVersion := 0
  majorVersion := 65
  constantPool := pool
  accessFlags := fl
  thisClass := this
  superClass := sup
  interfaces := ifs
  fields := fds
  methods := ms
  attributes := attrs
def plain (name : String) (sup : Option ClassId) : Class where
  name := name
  kind := .ordinary
  loader := none
  accessFlags := 33
  super := sup
  interfaces := #[]
  cf := none
  fields := #[]
  methods := #[]
  instanceTypes := #[]
  staticTypes := #[]
  resolved := #[]
  callSites := []
  init := .initialized
  statics := none
  mirror := none

def pool0 : Array CpInfo := pool [(5, u "<init>"), (0, u "()V"), (1, .class_ 10), (1, u "java/lang/Object")] 113

def k0m0 : Method := { name := "<init>", desc := "()V", sig := { parameters := [], returnType := none }, accessFlags := 1, code := none }
/-- java/lang/Object -/
def k0 : Class := { plain "java/lang/Object" none with
  accessFlags := 33
  interfaces := #[]
  cf := some (fileOf pool0 8 #[] #[{ accessFlags := 1, nameIndex := 5, descriptorIndex := 6, attributes := #[] }] 33 0 #[] #[])
  fields := #[]
  methods := #[k0m0]
  instanceTypes := #[]
  staticTypes := #[]
  resolved := Array.replicate 124 none
  statics := none }

def pool1 : Array CpInfo := pool [(2, .class_ 4), (1, u "java/lang/Object"), (0, u "<init>"), (0, u "()V"), (0, .integer 2147483647), (0, .methodref 9 10), (0, .class_ 11), (0, .nameAndType 12 13), (0, u "com/example/resolvent/resolvent/ldap/Ber"), (0, u "lengthSize"), (0, u "([BI)I"), (0, .methodref 9 15), (0, .nameAndType 16 17), (0, u "lengthAt"), (0, u "([BII)I"), (0, .class_ 19), (0, u "com/example/resolvent/resolvent/ldap/BerLengthSizePinLaw"), (2, u "law"), (0, u "(III)Z")] 8

def k1m0 : Method := { name := "<init>", desc := "()V", sig := { parameters := [], returnType := none }, accessFlags := 2, code := none }
def k1c1 : Code := { maxStack := 4, maxLocals := 12, code := code, exceptionTable := #[], attributes := #[] }
def k1m1 : Method := { name := "law", desc := "(III)Z", sig := { parameters := [.int, .int, .int], returnType := some .boolean }, accessFlags := 9, code := some k1c1 }
/-- com/example/resolvent/resolvent/ldap/BerLengthSizePinLaw -/
def k1 : Class := { plain "com/example/resolvent/resolvent/ldap/BerLengthSizePinLaw" (some 0) with
  accessFlags := 49
  interfaces := #[]
  cf := some (fileOf pool1 18 #[] #[{ accessFlags := 2, nameIndex := 5, descriptorIndex := 6, attributes := #[] }, { accessFlags := 9, nameIndex := 22, descriptorIndex := 23, attributes := #[] }] 49 2 #[] #[])
  fields := #[]
  methods := #[k1m0, k1m1]
  instanceTypes := #[]
  staticTypes := #[]
  resolved := Array.replicate 32 none
  statics := none }

def pool2 : Array CpInfo := pool [(2, .class_ 4), (1, u "java/lang/Object"), (0, u "<init>"), (0, u "()V"), (5, .class_ 14), (1, u "com/example/resolvent/resolvent/ldap/Ber$Reader"), (4, .class_ 20), (0, u "com/example/resolvent/resolvent/ldap/Ber"), (0, u "BOOLEAN"), (0, u "I"), (2, u "INTEGER"), (1, u "OCTET_STRING"), (1, u "ENUMERATED"), (1, u "SEQUENCE"), (1, u "SET"), (3, u "lengthAt"), (0, u "([BII)I"), (6, u "lengthSize"), (0, u "([BI)I"), (3, .class_ 51), (0, u "com/example/resolvent/resolvent/ldap/Ber$Writer")] 3

def k2m0 : Method := { name := "<init>", desc := "()V", sig := { parameters := [], returnType := none }, accessFlags := 2, code := none }
def k2c1 : Code := { maxStack := 4, maxLocals := 7, code := prog_46_method_2_code, exceptionTable := #[], attributes := #[] }
def k2m1 : Method := { name := "lengthAt", desc := "([BII)I", sig := { parameters := [(.array .byte), .int, .int], returnType := some .int }, accessFlags := 8, code := some k2c1 }
def k2c2 : Code := { maxStack := 3, maxLocals := 3, code := prog_46_method_3_code, exceptionTable := #[], attributes := #[] }
def k2m2 : Method := { name := "lengthSize", desc := "([BI)I", sig := { parameters := [(.array .byte), .int], returnType := some .int }, accessFlags := 8, code := some k2c2 }
/-- com/example/resolvent/resolvent/ldap/Ber -/
def k2 : Class := { plain "com/example/resolvent/resolvent/ldap/Ber" (some 0) with
  accessFlags := 48
  interfaces := #[]
  cf := some (fileOf pool2 19 #[.nestMembers #[12, 50]] #[{ accessFlags := 2, nameIndex := 5, descriptorIndex := 6, attributes := #[] }, { accessFlags := 8, nameIndex := 37, descriptorIndex := 38, attributes := #[] }, { accessFlags := 8, nameIndex := 45, descriptorIndex := 46, attributes := #[] }] 48 2 #[] #[{ accessFlags := 24, nameIndex := 21, descriptorIndex := 22, attributes := #[] }, { accessFlags := 24, nameIndex := 25, descriptorIndex := 22, attributes := #[] }, { accessFlags := 24, nameIndex := 27, descriptorIndex := 22, attributes := #[] }, { accessFlags := 24, nameIndex := 29, descriptorIndex := 22, attributes := #[] }, { accessFlags := 24, nameIndex := 31, descriptorIndex := 22, attributes := #[] }, { accessFlags := 24, nameIndex := 33, descriptorIndex := 22, attributes := #[] }])
  fields := #[{ name := "BOOLEAN", type := .int, accessFlags := 24, slot := 0, constantValue := 0 }, { name := "INTEGER", type := .int, accessFlags := 24, slot := 1, constantValue := 0 }, { name := "OCTET_STRING", type := .int, accessFlags := 24, slot := 2, constantValue := 0 }, { name := "ENUMERATED", type := .int, accessFlags := 24, slot := 3, constantValue := 0 }, { name := "SEQUENCE", type := .int, accessFlags := 24, slot := 4, constantValue := 0 }, { name := "SET", type := .int, accessFlags := 24, slot := 5, constantValue := 0 }]
  methods := #[k2m0, k2m1, k2m2]
  instanceTypes := #[]
  staticTypes := #[.int, .int, .int, .int, .int, .int]
  resolved := Array.replicate 55 none
  statics := none }

def pool3 : Array CpInfo := pool [(1, u "java/lang/Cloneable"), (0, .class_ 1), (0, u "java/lang/Object"), (0, .class_ 3)] 3

/-- java/lang/Cloneable -/
def k3 : Class := { plain "java/lang/Cloneable" (some 0) with
  accessFlags := 1537
  interfaces := #[]
  cf := some (fileOf pool3 2 #[] #[] 1537 4 #[] #[])
  fields := #[]
  methods := #[]
  instanceTypes := #[]
  staticTypes := #[]
  resolved := Array.replicate 8 none
  statics := none }

def pool4 : Array CpInfo := pool [(1, u "java/io/Serializable"), (0, .class_ 1), (0, u "java/lang/Object"), (0, .class_ 3)] 3

/-- java/io/Serializable -/
def k4 : Class := { plain "java/io/Serializable" (some 0) with
  accessFlags := 1537
  interfaces := #[]
  cf := some (fileOf pool4 2 #[] #[] 1537 4 #[] #[])
  fields := #[]
  methods := #[]
  instanceTypes := #[]
  staticTypes := #[]
  resolved := Array.replicate 8 none
  statics := none }

/-- the primitive byte -/
def k5 : Class := { plain "byte" none with kind := .primitive 'B', accessFlags := 0x411 }
/-- [B -/
def k6 : Class := { plain "[B" (some 0) with kind := .array 5 .byte, interfaces := #[3, 4], accessFlags := 1041 }

/-- the primitive int -/
def k7 : Class := { plain "int" none with kind := .primitive 'I', accessFlags := 0x411 }
/-- [I -/
def k8 : Class := { plain "[I" (some 0) with kind := .array 7 .int, interfaces := #[3, 4], accessFlags := 1041 }

def heap : Heap := #[]
def classes : Array Class := #[k0, k1, k2, k3, k4, k5, k6, k7, k8]
def interned : List (Array UInt16 × Addr) := []
def slotsUsed : Nat := 0
def theMethod : MethodId := ⟨1, 1⟩
def args0 : Array Value := #[.int 5, .int 300, .int 7]
def aboutOver (below : List Frame) : State where
  vm := { classes := classes, interned := interned.toArray }
  heap := heap
  slotsUsed := slotsUsed
  threads := #[{ frames := .invoking theMethod args0 :: below }]
def below0 : List Frame := [.native { method := ⟨0, 0⟩, args := #[] }]
def about1 : State := aboutOver below0
def p0 : Program := .bare "" "" ""
def e0 : Env := launch0.env 0 0 0
theorem w_frames : about1.frames = Frame.invoking theMethod args0 :: below0 := rfl
set_option maxRecDepth 65536 in
theorem w_args : argsFit about1.vm theMethod args0 = true := by decide +kernel
set_option maxRecDepth 65536 in
theorem w_heap : heapFits about1 = true := by decide +kernel
set_option maxRecDepth 65536 in
theorem w_runnable : about1.curStatus? = some .runnable := by decide +kernel
set_option maxRecDepth 65536 in
theorem w_alone : about1.alone = true := by decide +kernel
set_option maxRecDepth 65536 in
theorem w_named : about1.methodNamed? x = some theMethod := by decide +kernel
set_option maxRecDepth 65536 in
theorem w_hears : about1.hears theMethod below0 = true := by decide +kernel
set_option maxRecDepth 65536 in
theorem w_ripe : about1.ripe theMethod args0 below0 = true := by decide +kernel
theorem w_running : about1.status = .running := rfl
set_option maxRecDepth 65536 in
theorem w_room : about1.hasRoom e0.platform room_1 = true :=
  launch0.hasRoom_least _ room_1 (by decide +kernel) (by decide +kernel) (by decide +kernel) (by decide +kernel) (by decide +kernel) (by decide +kernel)
theorem allAtoms_all (ts : List Jvm.Cond) (a : Array Jvm.Value) (st : Jvm.State) : (allAtoms ts).before a st = ts.all (fun c => c.before a st) := by
  induction ts with
  | nil => rfl
  | cons c t ih =>
    show (Jvm.Cond.and c (allAtoms t)).before a st = _
    rw [Jvm.Cond.before_and, ih, List.all_cons]
def words1 : List Jvm.Cond := Jvm.Cond.code x code maxLocals ret :: tables_1
/-- a 'code' word, met by the world's own term for the bytes: nothing is compared byte by byte -/
theorem code_word {y : MethodName} {bytes : ByteArray} {mx : Nat} {rt : Option FieldType} {a : Array Value} {s : State} {m : MethodId} {meth : Method} {c : Code} (h1 : s.methodNamed? y = some m) (h2 : s.vm.method? m = some meth) (h3 : meth.code = some c) (h4 : c.code = bytes)
    (h5 : (c.maxLocals == mx && c.exceptionTable.isEmpty && decide (c.maxStack ≤ mostOperands) && decide (meth.sig.returnType = rt) && !meth.locks && decide (parseMethodDescriptor y.desc = some meth.sig)) = true) : (Jvm.Cond.code y bytes mx rt).before a s = true := by
  simp only [Bool.and_eq_true, beq_iff_eq, Bool.not_eq_true', decide_eq_true_eq] at h5
  obtain ⟨⟨⟨⟨⟨g1, g2⟩, g3⟩, g4⟩, g5⟩, g6⟩ := h5
  simp [Cond.before, Cond.holds, Cond.value, h1, h2, h3, h4, g1, g2, g3, g4, g5, g6]
def isCode : Jvm.Cond → Bool
  | .code _ _ _ _ => true
  | _ => false
theorem all_split {L : List Jvm.Cond} {P : Jvm.Cond → Bool} (h1 : L.all (fun c => isCode c || P c) = true) (h2 : ∀ c ∈ L.filter isCode, P c = true) : L.all P = true := by
  refine List.all_eq_true.mpr fun c hc => ?_
  have h := List.all_eq_true.mp h1 c hc
  rcases Bool.eq_false_or_eq_true (isCode c) with hi | hi
  · exact h2 c (List.mem_filter.mpr ⟨hc, hi⟩)
  · simpa [hi] using h
set_option maxRecDepth 65536 in
theorem w_c0 : (Jvm.Cond.code x code maxLocals ret).before args0 about1 = true := code_word (m := ⟨1, 1⟩) (meth := k1m1) (c := k1c1) (by decide +kernel) rfl rfl rfl (by decide +kernel)
set_option maxRecDepth 65536 in
theorem w_c1 : (Jvm.Cond.code ({ cls := "com/example/resolvent/resolvent/ldap/Ber", name := "lengthSize", desc := "([BI)I" } : Jvm.MethodName) prog_46_method_3_code (3 : Nat) (Option.some Jvm.ClassFile.FieldType.int)).before args0 about1 = true := code_word (m := ⟨2, 2⟩) (meth := k2m2) (c := k2c2) (by decide +kernel) rfl rfl rfl (by decide +kernel)
set_option maxRecDepth 65536 in
theorem w_c2 : (Jvm.Cond.code ({ cls := "com/example/resolvent/resolvent/ldap/Ber", name := "lengthAt", desc := "([BII)I" } : Jvm.MethodName) prog_46_method_2_code (7 : Nat) (Option.some Jvm.ClassFile.FieldType.int)).before args0 about1 = true := code_word (m := ⟨2, 1⟩) (meth := k2m1) (c := k2c1) (by decide +kernel) rfl rfl rfl (by decide +kernel)
def codes1 : List Jvm.Cond := [Jvm.Cond.code x code maxLocals ret, Jvm.Cond.code ({ cls := "com/example/resolvent/resolvent/ldap/Ber", name := "lengthSize", desc := "([BI)I" } : Jvm.MethodName) prog_46_method_3_code (3 : Nat) (Option.some Jvm.ClassFile.FieldType.int), Jvm.Cond.code ({ cls := "com/example/resolvent/resolvent/ldap/Ber", name := "lengthAt", desc := "([BII)I" } : Jvm.MethodName) prog_46_method_2_code (7 : Nat) (Option.some Jvm.ClassFile.FieldType.int)]
set_option maxRecDepth 65536 in
theorem codes_eq : words1.filter isCode = codes1 := rfl
theorem w_codes : ∀ c ∈ words1.filter isCode, c.before args0 about1 = true := by
  rw [codes_eq]
  intro c hc
  simp only [codes1, List.mem_cons, List.not_mem_nil, or_false] at hc
  rcases hc with rfl | rfl | rfl
  · exact w_c0
  · exact w_c1
  · exact w_c2
set_option maxRecDepth 65536 in
theorem w_t1 : words1.all (fun c => isCode c || c.before args0 about1) = true := by decide +kernel
theorem w_tables : (allAtoms (Jvm.Cond.code x code maxLocals ret :: tables_1)).before args0 about1 = true := by
  rw [allAtoms_all]
  show words1.all (fun c => c.before args0 about1) = true
  refine all_split ?_ w_codes
  rw [w_t1]
set_option maxRecDepth 65536 in
theorem w_case : (Jvm.Cond.and given_1 narrow_1).before args0 about1 = true := by decide +kernel
theorem w_applies : (headSpec (Jvm.Cond.code x code maxLocals ret :: tables_1) room_1).applies x e0.platform about1 = true :=
  (Spec.applies_iff w_frames).mpr ⟨w_running, w_runnable, w_alone, w_named, w_hears, w_ripe, w_room, w_tables⟩
theorem atStart : AtStart classFile x code maxLocals ret World_1 tables_1 room_1 Calls_1 rest_1 Pre_1 launch0 p0 e0 about1 theMethod args0 below0 :=
  ⟨lists_1, trivial, launch0.admits_env _ _ _, launch0.least_env, fairChoices_fair.cas, fairChoices_fair.clock, w_frames, w_args, w_heap, w_applies, trivial, trivial, w_case⟩
end start1
theorem witness_1 : WitnessClaimed_1 := ⟨start1.p0, start1.e0, start1.about1, start1.theMethod, start1.args0, start1.below0, start1.atStart⟩
end Jvm.Pilot.@@N@@
