import JvmDerived
import JvmDerived.Pilot.@@N@@Statement
import JvmDerived.Pilot.@@N@@Code
set_option linter.unusedVariables false
set_option linter.unusedSimpArgs false
namespace Jvm.RoadKit
open Sem ClassFile Op Lib Jvm.Stand Jvm.Free Jvm.LawKit
section New
variable {p : Program} {l : Launch} {e : Env} {R : Room} {s : State} {m : MethodId} {args : Array Value} {below : List Frame} {meth : Method} {c : Code} {T : State} {locs : List Loc} {cells slots : Nat}
theorem retI (X : Stand p l e R s m args below meth c T locs cells slots) (hx : p.tables.exec = Jvm.exec) {pc : Nat} {Ls : Array Slot} {z : Int32} {rest : List Value} (hret : meth.sig.returnType = some .int) (hd : decode c.code pc = .ok (.ireturn, 1)) {fs : List Frame}
    (hl : ∀ (f : JFrame) (acts : List Action), f.method = m → f.locked = none → f.entered = [] → (doReturn e (T.setTop f) acts (some (.int z))).1 = T.setFrames fs) : Steps p.tables e below (T.setTop (mkF m pc Ls (.int z :: rest))) (T.setFrames fs) := by
  have hm' : T.vm.method? m = some meth := X.method'
  have hn : narrow .int (.int z) = .int z := rfl
  show Steps p.tables e below (T.setTop { method := m, pc := pc, locals := Ls, stack := _ :: rest, locked := none }) _
  jvm_step X.here [X.here.top, hx, hd, hm', hret, hn]
  first | (intro acts; rw [hl _ acts rfl rfl rfl]) | rw [hl _ _ rfl rfl rfl]
  exact Steps.refl _
end New
section OwnKit
/-- where the walk of a body stands: the body's own facts, the heap, and that nothing old was written -/
def OS (B : ByteArray) (mL : Nat) (own nm : String) (rt : Option FieldType) (Z : State) (n0 : Nat) (p : Program) (l : Launch) (e : Env) (R : Room) (s : State) (m : MethodId) (args : Array Value) (below : List Frame) (meth : Method) (c : Code) (T : State) (h : Heap) (cells slots : Nat) : Prop :=
  (p.tables.exec = Jvm.exec ∧ c.code = B ∧ c.maxLocals = mL ∧ s.vm.findClass own = some m.cls ∧ meth.name = nm ∧ meth.sig.returnType = rt ∧ meth.locks = false ∧ Z.Warmed39 s.vm) ∧ T.heap = h ∧ ∃ locs, Fr n0 locs ∧ Stand p l e R s m args below meth c T locs cells slots
/-- from here the body comes to its end, with what Q says -/
def OG (p : Program) (e : Env) (below : List Frame) (s : State) (n0 rc rs : Nat) (Q : Option Value → Heap → Prop) (A : State) : Prop :=
  ∃ s₂ o, Steps p.tables e below A s₂ ∧ s₂.status = .running ∧ Ended s₂ below o ∧ ∃ v L, o = .returned v ∧ (Q v s₂.heap ∧ Fr n0 L) ∧ FrameEnd s o s₂ L rc rs
/-- a body's contract -/
def OM (l : Launch) (y : MethodName) (B : ByteArray) (mL : Nat) (rt : Option FieldType) (rm : Room) (ws : List Cond) (Z : State) (as' : Array Value) (h0 : Heap) (n0 : Nat) (Q : Option Value → Heap → Prop) : Prop :=
  MetFree l y (head1 (Cond.code y B mL rt :: ws) rm) (fun a U => a = as' ∧ Z.Warmed39 U.vm ∧ U.heap = h0) (fun _ _ _ _ _ => True) (fun _ U o U' => ∃ v L, o = .returned v ∧ (Q v U'.heap ∧ Fr n0 L) ∧ FrameEnd U o U' L rm.cells rm.slots)
variable {p : Program} {l : Launch} {e : Env} {R : Room} {s : State} {m : MethodId} {args : Array Value} {below : List Frame} {meth : Method} {c : Code} {T : State} {cells slots : Nat} {Z : State} {h : Heap} {n0 : Nat} {B : ByteArray} {mL : Nat} {own nm : String} {rt : Option FieldType} {rc rs : Nat} {Q : Option Value → Heap → Prop} {pc : Nat} {Ls : Array Slot} {st : List Value} {a0 : Array Value}
theorem OG.pre {A A' : State} (h : ∀ t, Steps p.tables e below A' t → Steps p.tables e below A t) (k : OG p e below s n0 rc rs Q A') : OG p e below s n0 rc rs Q A := by
  obtain ⟨s₂, o, h1, r⟩ := k; exact ⟨s₂, o, h _ h1, r⟩
theorem OM.of {y : MethodName} {rm : Room} {ws : List Cond} {as' : Array Value} {h0 : Heap} (hp : plainFor y = true) (hef : ∀ m, entryFrame m as' mL = mkF m 0 Ls []) (body : ∀ p e s m below meth c T, OS B mL y.cls y.name rt Z n0 p l e rm s m as' below meth c T h0 0 0 → OG p e below s n0 rm.cells rm.slots Q (T.setTop (mkF m 0 Ls []))) : OM l y B mL rt rm ws Z as' h0 n0 Q := by
  refine MetFree.of_bodySF hp hisR ?_
  intro p e s m args below meth c s₁ Bd hml0 hP hK
  obtain ⟨rfl, hZ, hh⟩ := hP
  have X0 : Stand p l e rm s m args below meth c s₁ [] 0 0 := Stand.of_body Bd
  have e0 : s₁.heap = h0 := by rw [← hh, Bd.state]; rfl
  have q := body p e s m below meth c s₁ ⟨⟨Bd.exec, Bd.bytes, hml0, findClass_of_methodNamed Bd.named, (name_of_methodNamed Bd.named Bd.method).1, Bd.returns, BodyLoose.notSynchronized Bd, hZ⟩, e0, [], Fr.nil n0, X0⟩
  rw [hef]; exact q
theorem OM.weak {y : MethodName} {rm : Room} {ws : List Cond} {as' : Array Value} {h0 : Heap} {Q' : Option Value → Heap → Prop} (hM : OM l y B mL rt rm ws Z as' h0 n0 Q) (hq : ∀ v h, Q v h → Q' v h) : OM l y B mL rt rm ws Z as' h0 n0 Q' := by
  intro p e ha hc hk s m args below hf happ hP hK
  obtain ⟨n, o, h1, h2, h3, v, L, h4, h5, h6⟩ := hM p e ha hc hk s m args below hf happ hP hK
  exact ⟨n, o, h1, h2, h3, v, L, h4, ⟨hq _ _ h5.1, h5.2⟩, h6⟩
theorem OS.heap (X : OS B mL own nm rt Z n0 p l e R s m args below meth c T h cells slots) : T.heap = h := X.2.1
theorem OS.warm (X : OS B mL own nm rt Z n0 p l e R s m args below meth c T h cells slots) : Z.Warmed39 s.vm := X.1.2.2.2.2.2.2.2
theorem OS.more {k n : Nat} (X : OS B mL own nm rt Z n0 p l e R s m args below meth c T h cells slots) (h1 : cells ≤ k) (h2 : slots ≤ n) : OS B mL own nm rt Z n0 p l e R s m args below meth c T h k n := by
  obtain ⟨h0, e1, locs, N, Y⟩ := X
  exact ⟨h0, e1, locs, N, { Y with same := Y.same.mono h1 h2 }⟩

theorem OG.iload (X : OS B mL own nm rt Z n0 p l e R s m args below meth c T h cells slots) {k : Nat} {v : Int32} (hd : decode B pc = .ok (.iload k, 2)) (hl : Ls[k]? = some (.val (.int v))) (g : OG p e below s n0 rc rs Q (T.setTop (mkF m (pc + 2) Ls (.int v :: st)))) : OG p e below s n0 rc rs Q (T.setTop (mkF m pc Ls st)) := by
  obtain ⟨⟨hx, hby, -⟩, -, locs, -, Y⟩ := X
  exact OG.pre (fun _ k => XS.iload Y.here hx rfl (hb hby hd) hl k) g
theorem OG.iloadN (X : OS B mL own nm rt Z n0 p l e R s m args below meth c T h cells slots) {k : Fin 4} {v : Int32} (hd : decode B pc = .ok (.iload_n k, 1)) (hl : Ls[k.val]? = some (.val (.int v))) (g : OG p e below s n0 rc rs Q (T.setTop (mkF m (pc + 1) Ls (.int v :: st)))) : OG p e below s n0 rc rs Q (T.setTop (mkF m pc Ls st)) := by
  obtain ⟨⟨hx, hby, -⟩, -, locs, -, Y⟩ := X
  exact OG.pre (fun _ k => XS.iloadN Y.here hx rfl (hb hby hd) hl k) g
theorem OG.lload (X : OS B mL own nm rt Z n0 p l e R s m args below meth c T h cells slots) {k : Nat} {v : Int64} (hd : decode B pc = .ok (.lload k, 2)) (hl : Ls[k]? = some (.val (.long v))) (g : OG p e below s n0 rc rs Q (T.setTop (mkF m (pc + 2) Ls (.long v :: st)))) : OG p e below s n0 rc rs Q (T.setTop (mkF m pc Ls st)) := by
  obtain ⟨⟨hx, hby, -⟩, -, locs, -, Y⟩ := X
  exact OG.pre (fun _ k => XS.lload Y.here hx rfl (hb hby hd) hl k) g
theorem OG.lloadN (X : OS B mL own nm rt Z n0 p l e R s m args below meth c T h cells slots) {k : Fin 4} {v : Int64} (hd : decode B pc = .ok (.lload_n k, 1)) (hl : Ls[k.val]? = some (.val (.long v))) (g : OG p e below s n0 rc rs Q (T.setTop (mkF m (pc + 1) Ls (.long v :: st)))) : OG p e below s n0 rc rs Q (T.setTop (mkF m pc Ls st)) := by
  obtain ⟨⟨hx, hby, -⟩, -, locs, -, Y⟩ := X
  exact OG.pre (fun _ k => XS.lloadN Y.here hx rfl (hb hby hd) hl k) g
theorem OG.aload (X : OS B mL own nm rt Z n0 p l e R s m args below meth c T h cells slots) {k : Nat} {v : Value} (hd : decode B pc = .ok (.aload k, 2)) (hl : Ls[k]? = some (.val v)) (hv : v.isRef = true) (g : OG p e below s n0 rc rs Q (T.setTop (mkF m (pc + 2) Ls (v :: st)))) : OG p e below s n0 rc rs Q (T.setTop (mkF m pc Ls st)) := by
  obtain ⟨⟨hx, hby, -⟩, -, locs, -, Y⟩ := X
  exact OG.pre (fun _ k => XS.aload Y.here hx rfl (hb hby hd) hl hv k) g
theorem OG.aloadN (X : OS B mL own nm rt Z n0 p l e R s m args below meth c T h cells slots) {k : Fin 4} {v : Value} (hd : decode B pc = .ok (.aload_n k, 1)) (hl : Ls[k.val]? = some (.val v)) (hv : v.isRef = true) (g : OG p e below s n0 rc rs Q (T.setTop (mkF m (pc + 1) Ls (v :: st)))) : OG p e below s n0 rc rs Q (T.setTop (mkF m pc Ls st)) := by
  obtain ⟨⟨hx, hby, -⟩, -, locs, -, Y⟩ := X
  exact OG.pre (fun _ k => XS.aloadN Y.here hx rfl (hb hby hd) hl hv k) g
theorem OG.istore (X : OS B mL own nm rt Z n0 p l e R s m args below meth c T h cells slots) {k : Nat} {v : Int32} {l' : Array Slot} (hd : decode B pc = .ok (.istore k, 2)) (hl : storeLocals Ls k (.int v) = some l') (g : OG p e below s n0 rc rs Q (T.setTop (mkF m (pc + 2) l' st))) : OG p e below s n0 rc rs Q (T.setTop (mkF m pc Ls (.int v :: st))) := by
  obtain ⟨⟨hx, hby, -⟩, -, locs, -, Y⟩ := X
  exact OG.pre (fun _ k => XS.istore Y.here hx rfl (hb hby hd) rfl hl k) g
theorem OG.istoreV (X : OS B mL own nm rt Z n0 p l e R s m args below meth c T h cells slots) {k : Nat} {v : Int32} {l' : Int32 → Array Slot} (hd : decode B pc = .ok (.istore k, 2)) (hl : ∀ z, storeLocals Ls k (.int z) = some (l' z)) (g : ∀ z, z = v → OG p e below s n0 rc rs Q (T.setTop (mkF m (pc + 2) (l' z) st))) : OG p e below s n0 rc rs Q (T.setTop (mkF m pc Ls (.int v :: st))) := by
  obtain ⟨⟨hx, hby, -⟩, -, locs, -, Y⟩ := X
  exact OG.pre (fun _ k => XS.istore Y.here hx rfl (hb hby hd) rfl (hl v) k) (g v rfl)
theorem OG.istoreN (X : OS B mL own nm rt Z n0 p l e R s m args below meth c T h cells slots) {k : Fin 4} {v : Int32} {l' : Array Slot} (hd : decode B pc = .ok (.istore_n k, 1)) (hl : storeLocals Ls k.val (.int v) = some l') (g : OG p e below s n0 rc rs Q (T.setTop (mkF m (pc + 1) l' st))) : OG p e below s n0 rc rs Q (T.setTop (mkF m pc Ls (.int v :: st))) := by
  obtain ⟨⟨hx, hby, -⟩, -, locs, -, Y⟩ := X
  exact OG.pre (fun _ k => XS.istoreN Y.here hx rfl (hb hby hd) rfl hl k) g
theorem OG.istoreNV (X : OS B mL own nm rt Z n0 p l e R s m args below meth c T h cells slots) {k : Fin 4} {v : Int32} {l' : Int32 → Array Slot} (hd : decode B pc = .ok (.istore_n k, 1)) (hl : ∀ z, storeLocals Ls k.val (.int z) = some (l' z)) (g : ∀ z, z = v → OG p e below s n0 rc rs Q (T.setTop (mkF m (pc + 1) (l' z) st))) : OG p e below s n0 rc rs Q (T.setTop (mkF m pc Ls (.int v :: st))) := by
  obtain ⟨⟨hx, hby, -⟩, -, locs, -, Y⟩ := X
  exact OG.pre (fun _ k => XS.istoreN Y.here hx rfl (hb hby hd) rfl (hl v) k) (g v rfl)
theorem OG.lstore (X : OS B mL own nm rt Z n0 p l e R s m args below meth c T h cells slots) {k : Nat} {v : Int64} {l' : Array Slot} (hd : decode B pc = .ok (.lstore k, 2)) (hl : storeLocals Ls k (.long v) = some l') (g : OG p e below s n0 rc rs Q (T.setTop (mkF m (pc + 2) l' st))) : OG p e below s n0 rc rs Q (T.setTop (mkF m pc Ls (.long v :: st))) := by
  obtain ⟨⟨hx, hby, -⟩, -, locs, -, Y⟩ := X
  exact OG.pre (fun _ k => XS.lstore Y.here hx rfl (hb hby hd) rfl hl k) g
theorem OG.lstoreV (X : OS B mL own nm rt Z n0 p l e R s m args below meth c T h cells slots) {k : Nat} {v : Int64} {l' : Int64 → Array Slot} (hd : decode B pc = .ok (.lstore k, 2)) (hl : ∀ z, storeLocals Ls k (.long z) = some (l' z)) (g : ∀ z, z = v → OG p e below s n0 rc rs Q (T.setTop (mkF m (pc + 2) (l' z) st))) : OG p e below s n0 rc rs Q (T.setTop (mkF m pc Ls (.long v :: st))) := by
  obtain ⟨⟨hx, hby, -⟩, -, locs, -, Y⟩ := X
  exact OG.pre (fun _ k => XS.lstore Y.here hx rfl (hb hby hd) rfl (hl v) k) (g v rfl)
theorem OG.lstoreN (X : OS B mL own nm rt Z n0 p l e R s m args below meth c T h cells slots) {k : Fin 4} {v : Int64} {l' : Array Slot} (hd : decode B pc = .ok (.lstore_n k, 1)) (hl : storeLocals Ls k.val (.long v) = some l') (g : OG p e below s n0 rc rs Q (T.setTop (mkF m (pc + 1) l' st))) : OG p e below s n0 rc rs Q (T.setTop (mkF m pc Ls (.long v :: st))) := by
  obtain ⟨⟨hx, hby, -⟩, -, locs, -, Y⟩ := X
  exact OG.pre (fun _ k => XS.lstoreN Y.here hx rfl (hb hby hd) rfl hl k) g
theorem OG.lstoreNV (X : OS B mL own nm rt Z n0 p l e R s m args below meth c T h cells slots) {k : Fin 4} {v : Int64} {l' : Int64 → Array Slot} (hd : decode B pc = .ok (.lstore_n k, 1)) (hl : ∀ z, storeLocals Ls k.val (.long z) = some (l' z)) (g : ∀ z, z = v → OG p e below s n0 rc rs Q (T.setTop (mkF m (pc + 1) (l' z) st))) : OG p e below s n0 rc rs Q (T.setTop (mkF m pc Ls (.long v :: st))) := by
  obtain ⟨⟨hx, hby, -⟩, -, locs, -, Y⟩ := X
  exact OG.pre (fun _ k => XS.lstoreN Y.here hx rfl (hb hby hd) rfl (hl v) k) (g v rfl)
theorem OG.astore (X : OS B mL own nm rt Z n0 p l e R s m args below meth c T h cells slots) {k : Nat} {v : Value} {l' : Array Slot} (hd : decode B pc = .ok (.astore k, 2)) (hv : v.isRef = true) (hl : storeLocals Ls k v = some l') (g : OG p e below s n0 rc rs Q (T.setTop (mkF m (pc + 2) l' st))) : OG p e below s n0 rc rs Q (T.setTop (mkF m pc Ls (v :: st))) := by
  obtain ⟨⟨hx, hby, -⟩, -, locs, -, Y⟩ := X
  exact OG.pre (fun _ k => XS.astore Y.here hx rfl (hb hby hd) rfl hv hl k) g
theorem OG.astoreN (X : OS B mL own nm rt Z n0 p l e R s m args below meth c T h cells slots) {k : Fin 4} {v : Value} {l' : Array Slot} (hd : decode B pc = .ok (.astore_n k, 1)) (hv : v.isRef = true) (hl : storeLocals Ls k.val v = some l') (g : OG p e below s n0 rc rs Q (T.setTop (mkF m (pc + 1) l' st))) : OG p e below s n0 rc rs Q (T.setTop (mkF m pc Ls (v :: st))) := by
  obtain ⟨⟨hx, hby, -⟩, -, locs, -, Y⟩ := X
  exact OG.pre (fun _ k => XS.astoreN Y.here hx rfl (hb hby hd) rfl hv hl k) g
theorem OG.iconst (X : OS B mL own nm rt Z n0 p l e R s m args below meth c T h cells slots) {i : Int} {z : Int32} (hd : decode B pc = .ok (.iconst i, 1)) (hz : Int32.ofInt i = z) (g : OG p e below s n0 rc rs Q (T.setTop (mkF m (pc + 1) Ls (.int z :: st)))) : OG p e below s n0 rc rs Q (T.setTop (mkF m pc Ls st)) := by
  obtain ⟨⟨hx, hby, -⟩, -, locs, -, Y⟩ := X
  subst hz
  exact OG.pre (fun _ k => XS.iconst Y.here hx rfl (hb hby hd) k) g
theorem OG.bipush (X : OS B mL own nm rt Z n0 p l e R s m args below meth c T h cells slots) {i : Int} {z : Int32} (hd : decode B pc = .ok (.bipush i, 2)) (hz : (Int8.ofInt i).toInt32 = z) (g : OG p e below s n0 rc rs Q (T.setTop (mkF m (pc + 2) Ls (.int z :: st)))) : OG p e below s n0 rc rs Q (T.setTop (mkF m pc Ls st)) := by
  obtain ⟨⟨hx, hby, -⟩, -, locs, -, Y⟩ := X
  subst hz
  exact OG.pre (fun _ k => XS.bipush Y.here hx rfl (hb hby hd) k) g
theorem OG.sipush (X : OS B mL own nm rt Z n0 p l e R s m args below meth c T h cells slots) {i : Int} {z : Int32} (hd : decode B pc = .ok (.sipush i, 3)) (hz : (Int16.ofInt i).toInt32 = z) (g : OG p e below s n0 rc rs Q (T.setTop (mkF m (pc + 3) Ls (.int z :: st)))) : OG p e below s n0 rc rs Q (T.setTop (mkF m pc Ls st)) := by
  obtain ⟨⟨hx, hby, -⟩, -, locs, -, Y⟩ := X
  subst hz
  exact OG.pre (fun _ k => XS.sipush Y.here hx rfl (hb hby hd) k) g
theorem OG.lconst (X : OS B mL own nm rt Z n0 p l e R s m args below meth c T h cells slots) {k : Fin 2} {z : Int64} (hd : decode B pc = .ok (.lconst k, 1)) (hz : Int64.ofNat k = z) (g : OG p e below s n0 rc rs Q (T.setTop (mkF m (pc + 1) Ls (.long z :: st)))) : OG p e below s n0 rc rs Q (T.setTop (mkF m pc Ls st)) := by
  obtain ⟨⟨hx, hby, -⟩, -, locs, -, Y⟩ := X
  subst hz
  exact OG.pre (fun _ q => XS.lconst Y.here hx rfl (hb hby hd) q) g
theorem OG.aconstNull (X : OS B mL own nm rt Z n0 p l e R s m args below meth c T h cells slots)  (hd : decode B pc = .ok (.aconst_null, 1))  (g : OG p e below s n0 rc rs Q (T.setTop (mkF m (pc + 1) Ls (.null :: st)))) : OG p e below s n0 rc rs Q (T.setTop (mkF m pc Ls st)) := by
  obtain ⟨⟨hx, hby, -⟩, -, locs, -, Y⟩ := X
  exact OG.pre (fun _ k => XS.aconstNull Y.here hx rfl (hb hby hd)  k) g
theorem OG.iadd (X : OS B mL own nm rt Z n0 p l e R s m args below meth c T h cells slots) {x y : Int32} (hd : decode B pc = .ok (.iadd, 1))  (g : OG p e below s n0 rc rs Q (T.setTop (mkF m (pc + 1) Ls (.int (x + y) :: st)))) : OG p e below s n0 rc rs Q (T.setTop (mkF m pc Ls (.int y :: .int x :: st))) := by
  obtain ⟨⟨hx, hby, -⟩, -, locs, -, Y⟩ := X
  exact OG.pre (fun _ k => XS.iadd Y.here hx rfl (hb hby hd) rfl k) g
theorem OG.isub (X : OS B mL own nm rt Z n0 p l e R s m args below meth c T h cells slots) {x y : Int32} (hd : decode B pc = .ok (.isub, 1))  (g : OG p e below s n0 rc rs Q (T.setTop (mkF m (pc + 1) Ls (.int (x - y) :: st)))) : OG p e below s n0 rc rs Q (T.setTop (mkF m pc Ls (.int y :: .int x :: st))) := by
  obtain ⟨⟨hx, hby, -⟩, -, locs, -, Y⟩ := X
  exact OG.pre (fun _ k => XS.isub Y.here hx rfl (hb hby hd) rfl k) g
theorem OG.imul (X : OS B mL own nm rt Z n0 p l e R s m args below meth c T h cells slots) {x y : Int32} (hd : decode B pc = .ok (.imul, 1))  (g : OG p e below s n0 rc rs Q (T.setTop (mkF m (pc + 1) Ls (.int (x * y) :: st)))) : OG p e below s n0 rc rs Q (T.setTop (mkF m pc Ls (.int y :: .int x :: st))) := by
  obtain ⟨⟨hx, hby, -⟩, -, locs, -, Y⟩ := X
  exact OG.pre (fun _ k => XS.imul Y.here hx rfl (hb hby hd) rfl k) g
theorem OG.iand (X : OS B mL own nm rt Z n0 p l e R s m args below meth c T h cells slots) {x y : Int32} (hd : decode B pc = .ok (.iand, 1))  (g : OG p e below s n0 rc rs Q (T.setTop (mkF m (pc + 1) Ls (.int (x &&& y) :: st)))) : OG p e below s n0 rc rs Q (T.setTop (mkF m pc Ls (.int y :: .int x :: st))) := by
  obtain ⟨⟨hx, hby, -⟩, -, locs, -, Y⟩ := X
  exact OG.pre (fun _ k => XS.iand Y.here hx rfl (hb hby hd) rfl k) g
theorem OG.ior (X : OS B mL own nm rt Z n0 p l e R s m args below meth c T h cells slots) {x y : Int32} (hd : decode B pc = .ok (.ior, 1))  (g : OG p e below s n0 rc rs Q (T.setTop (mkF m (pc + 1) Ls (.int (x ||| y) :: st)))) : OG p e below s n0 rc rs Q (T.setTop (mkF m pc Ls (.int y :: .int x :: st))) := by
  obtain ⟨⟨hx, hby, -⟩, -, locs, -, Y⟩ := X
  exact OG.pre (fun _ k => XS.ior Y.here hx rfl (hb hby hd) rfl k) g
theorem OG.ixor (X : OS B mL own nm rt Z n0 p l e R s m args below meth c T h cells slots) {x y : Int32} (hd : decode B pc = .ok (.ixor, 1))  (g : OG p e below s n0 rc rs Q (T.setTop (mkF m (pc + 1) Ls (.int (x ^^^ y) :: st)))) : OG p e below s n0 rc rs Q (T.setTop (mkF m pc Ls (.int y :: .int x :: st))) := by
  obtain ⟨⟨hx, hby, -⟩, -, locs, -, Y⟩ := X
  exact OG.pre (fun _ k => XS.ixor Y.here hx rfl (hb hby hd) rfl k) g
theorem OG.ishl (X : OS B mL own nm rt Z n0 p l e R s m args below meth c T h cells slots) {x y : Int32} (hd : decode B pc = .ok (.ishl, 1))  (g : OG p e below s n0 rc rs Q (T.setTop (mkF m (pc + 1) Ls (.int (x <<< (y &&& 31)) :: st)))) : OG p e below s n0 rc rs Q (T.setTop (mkF m pc Ls (.int y :: .int x :: st))) := by
  obtain ⟨⟨hx, hby, -⟩, -, locs, -, Y⟩ := X
  exact OG.pre (fun _ k => XS.ishl Y.here hx rfl (hb hby hd) rfl k) g
theorem OG.ishr (X : OS B mL own nm rt Z n0 p l e R s m args below meth c T h cells slots) {x y : Int32} (hd : decode B pc = .ok (.ishr, 1))  (g : OG p e below s n0 rc rs Q (T.setTop (mkF m (pc + 1) Ls (.int (x >>> (y &&& 31)) :: st)))) : OG p e below s n0 rc rs Q (T.setTop (mkF m pc Ls (.int y :: .int x :: st))) := by
  obtain ⟨⟨hx, hby, -⟩, -, locs, -, Y⟩ := X
  exact OG.pre (fun _ k => XS.ishr Y.here hx rfl (hb hby hd) rfl k) g
theorem OG.iushr (X : OS B mL own nm rt Z n0 p l e R s m args below meth c T h cells slots) {x y : Int32} (hd : decode B pc = .ok (.iushr, 1))  (g : OG p e below s n0 rc rs Q (T.setTop (mkF m (pc + 1) Ls (.int ((x.toUInt32 >>> (y &&& 31).toUInt32).toInt32) :: st)))) : OG p e below s n0 rc rs Q (T.setTop (mkF m pc Ls (.int y :: .int x :: st))) := by
  obtain ⟨⟨hx, hby, -⟩, -, locs, -, Y⟩ := X
  exact OG.pre (fun _ k => XS.iushr Y.here hx rfl (hb hby hd) rfl k) g
theorem OG.ladd (X : OS B mL own nm rt Z n0 p l e R s m args below meth c T h cells slots) {x y : Int64} (hd : decode B pc = .ok (.ladd, 1))  (g : OG p e below s n0 rc rs Q (T.setTop (mkF m (pc + 1) Ls (.long (x + y) :: st)))) : OG p e below s n0 rc rs Q (T.setTop (mkF m pc Ls (.long y :: .long x :: st))) := by
  obtain ⟨⟨hx, hby, -⟩, -, locs, -, Y⟩ := X
  exact OG.pre (fun _ k => XS.ladd Y.here hx rfl (hb hby hd) rfl k) g
theorem OG.lsub (X : OS B mL own nm rt Z n0 p l e R s m args below meth c T h cells slots) {x y : Int64} (hd : decode B pc = .ok (.lsub, 1))  (g : OG p e below s n0 rc rs Q (T.setTop (mkF m (pc + 1) Ls (.long (x - y) :: st)))) : OG p e below s n0 rc rs Q (T.setTop (mkF m pc Ls (.long y :: .long x :: st))) := by
  obtain ⟨⟨hx, hby, -⟩, -, locs, -, Y⟩ := X
  exact OG.pre (fun _ k => XS.lsub Y.here hx rfl (hb hby hd) rfl k) g
theorem OG.lmul (X : OS B mL own nm rt Z n0 p l e R s m args below meth c T h cells slots) {x y : Int64} (hd : decode B pc = .ok (.lmul, 1))  (g : OG p e below s n0 rc rs Q (T.setTop (mkF m (pc + 1) Ls (.long (x * y) :: st)))) : OG p e below s n0 rc rs Q (T.setTop (mkF m pc Ls (.long y :: .long x :: st))) := by
  obtain ⟨⟨hx, hby, -⟩, -, locs, -, Y⟩ := X
  exact OG.pre (fun _ k => XS.lmul Y.here hx rfl (hb hby hd) rfl k) g
theorem OG.land (X : OS B mL own nm rt Z n0 p l e R s m args below meth c T h cells slots) {x y : Int64} (hd : decode B pc = .ok (.land, 1))  (g : OG p e below s n0 rc rs Q (T.setTop (mkF m (pc + 1) Ls (.long (x &&& y) :: st)))) : OG p e below s n0 rc rs Q (T.setTop (mkF m pc Ls (.long y :: .long x :: st))) := by
  obtain ⟨⟨hx, hby, -⟩, -, locs, -, Y⟩ := X
  exact OG.pre (fun _ k => XS.land Y.here hx rfl (hb hby hd) rfl k) g
theorem OG.lor (X : OS B mL own nm rt Z n0 p l e R s m args below meth c T h cells slots) {x y : Int64} (hd : decode B pc = .ok (.lor, 1))  (g : OG p e below s n0 rc rs Q (T.setTop (mkF m (pc + 1) Ls (.long (x ||| y) :: st)))) : OG p e below s n0 rc rs Q (T.setTop (mkF m pc Ls (.long y :: .long x :: st))) := by
  obtain ⟨⟨hx, hby, -⟩, -, locs, -, Y⟩ := X
  exact OG.pre (fun _ k => XS.lor Y.here hx rfl (hb hby hd) rfl k) g
theorem OG.lxor (X : OS B mL own nm rt Z n0 p l e R s m args below meth c T h cells slots) {x y : Int64} (hd : decode B pc = .ok (.lxor, 1))  (g : OG p e below s n0 rc rs Q (T.setTop (mkF m (pc + 1) Ls (.long (x ^^^ y) :: st)))) : OG p e below s n0 rc rs Q (T.setTop (mkF m pc Ls (.long y :: .long x :: st))) := by
  obtain ⟨⟨hx, hby, -⟩, -, locs, -, Y⟩ := X
  exact OG.pre (fun _ k => XS.lxor Y.here hx rfl (hb hby hd) rfl k) g
theorem OG.lshl (X : OS B mL own nm rt Z n0 p l e R s m args below meth c T h cells slots) {x : Int64} {y : Int32} (hd : decode B pc = .ok (.lshl, 1))  (g : OG p e below s n0 rc rs Q (T.setTop (mkF m (pc + 1) Ls (.long (x <<< (y &&& 0x3f).toInt64) :: st)))) : OG p e below s n0 rc rs Q (T.setTop (mkF m pc Ls (.int y :: .long x :: st))) := by
  obtain ⟨⟨hx, hby, -⟩, -, locs, -, Y⟩ := X
  exact OG.pre (fun _ k => XS.lshl Y.here hx rfl (hb hby hd) rfl k) g
theorem OG.lshr (X : OS B mL own nm rt Z n0 p l e R s m args below meth c T h cells slots) {x : Int64} {y : Int32} (hd : decode B pc = .ok (.lshr, 1))  (g : OG p e below s n0 rc rs Q (T.setTop (mkF m (pc + 1) Ls (.long (x >>> (y &&& 0x3f).toInt64) :: st)))) : OG p e below s n0 rc rs Q (T.setTop (mkF m pc Ls (.int y :: .long x :: st))) := by
  obtain ⟨⟨hx, hby, -⟩, -, locs, -, Y⟩ := X
  exact OG.pre (fun _ k => XS.lshr Y.here hx rfl (hb hby hd) rfl k) g
theorem OG.lushr (X : OS B mL own nm rt Z n0 p l e R s m args below meth c T h cells slots) {x : Int64} {y : Int32} (hd : decode B pc = .ok (.lushr, 1))  (g : OG p e below s n0 rc rs Q (T.setTop (mkF m (pc + 1) Ls (.long ((x.toUInt64 >>> (y &&& 0x3f).toInt64.toUInt64).toInt64) :: st)))) : OG p e below s n0 rc rs Q (T.setTop (mkF m pc Ls (.int y :: .long x :: st))) := by
  obtain ⟨⟨hx, hby, -⟩, -, locs, -, Y⟩ := X
  exact OG.pre (fun _ k => XS.lushr Y.here hx rfl (hb hby hd) rfl k) g
theorem OG.idiv (X : OS B mL own nm rt Z n0 p l e R s m args below meth c T h cells slots) {x y : Int32} (hd : decode B pc = .ok (.idiv, 1)) (hy : y ≠ 0) (g : OG p e below s n0 rc rs Q (T.setTop (mkF m (pc + 1) Ls (.int (x / y) :: st)))) : OG p e below s n0 rc rs Q (T.setTop (mkF m pc Ls (.int y :: .int x :: st))) := by
  obtain ⟨⟨hx, hby, -⟩, -, locs, -, Y⟩ := X
  exact OG.pre (fun _ k => XS.idiv Y.here hx rfl (hb hby hd) rfl hy k) g
theorem OG.ldiv (X : OS B mL own nm rt Z n0 p l e R s m args below meth c T h cells slots) {x y : Int64} (hd : decode B pc = .ok (.ldiv, 1)) (hy : y ≠ 0) (g : OG p e below s n0 rc rs Q (T.setTop (mkF m (pc + 1) Ls (.long (x / y) :: st)))) : OG p e below s n0 rc rs Q (T.setTop (mkF m pc Ls (.long y :: .long x :: st))) := by
  obtain ⟨⟨hx, hby, -⟩, -, locs, -, Y⟩ := X
  exact OG.pre (fun _ k => XS.ldiv Y.here hx rfl (hb hby hd) rfl hy k) g
theorem OG.irem (X : OS B mL own nm rt Z n0 p l e R s m args below meth c T h cells slots) {x y : Int32} (hd : decode B pc = .ok (.irem, 1)) (hy : y ≠ 0) (g : OG p e below s n0 rc rs Q (T.setTop (mkF m (pc + 1) Ls (.int (x % y) :: st)))) : OG p e below s n0 rc rs Q (T.setTop (mkF m pc Ls (.int y :: .int x :: st))) := by
  obtain ⟨⟨hx, hby, -⟩, -, locs, -, Y⟩ := X
  exact OG.pre (fun _ k => iremM Y hx rfl (hb hby hd) rfl hy k) g
theorem OG.lrem (X : OS B mL own nm rt Z n0 p l e R s m args below meth c T h cells slots) {x y : Int64} (hd : decode B pc = .ok (.lrem, 1)) (hy : y ≠ 0) (g : OG p e below s n0 rc rs Q (T.setTop (mkF m (pc + 1) Ls (.long (x - x / y * y) :: st)))) : OG p e below s n0 rc rs Q (T.setTop (mkF m pc Ls (.long y :: .long x :: st))) := by
  obtain ⟨⟨hx, hby, -⟩, -, locs, -, Y⟩ := X
  exact OG.pre (fun _ k => XS.lrem Y.here hx rfl (hb hby hd) rfl hy k) g
theorem OG.ineg (X : OS B mL own nm rt Z n0 p l e R s m args below meth c T h cells slots) {x : Int32} (hd : decode B pc = .ok (.ineg, 1))  (g : OG p e below s n0 rc rs Q (T.setTop (mkF m (pc + 1) Ls (.int (-x) :: st)))) : OG p e below s n0 rc rs Q (T.setTop (mkF m pc Ls (.int x :: st))) := by
  obtain ⟨⟨hx, hby, -⟩, -, locs, -, Y⟩ := X
  exact OG.pre (fun _ k => XS.ineg Y.here hx rfl (hb hby hd) rfl k) g
theorem OG.lneg (X : OS B mL own nm rt Z n0 p l e R s m args below meth c T h cells slots) {x : Int64} (hd : decode B pc = .ok (.lneg, 1))  (g : OG p e below s n0 rc rs Q (T.setTop (mkF m (pc + 1) Ls (.long (-x) :: st)))) : OG p e below s n0 rc rs Q (T.setTop (mkF m pc Ls (.long x :: st))) := by
  obtain ⟨⟨hx, hby, -⟩, -, locs, -, Y⟩ := X
  exact OG.pre (fun _ k => XS.lneg Y.here hx rfl (hb hby hd) rfl k) g
theorem OG.i2l (X : OS B mL own nm rt Z n0 p l e R s m args below meth c T h cells slots) {x : Int32} (hd : decode B pc = .ok (.i2l, 1))  (g : OG p e below s n0 rc rs Q (T.setTop (mkF m (pc + 1) Ls (.long (x.toInt64) :: st)))) : OG p e below s n0 rc rs Q (T.setTop (mkF m pc Ls (.int x :: st))) := by
  obtain ⟨⟨hx, hby, -⟩, -, locs, -, Y⟩ := X
  exact OG.pre (fun _ k => XS.i2l Y.here hx rfl (hb hby hd) rfl k) g
theorem OG.l2i (X : OS B mL own nm rt Z n0 p l e R s m args below meth c T h cells slots) {x : Int64} (hd : decode B pc = .ok (.l2i, 1))  (g : OG p e below s n0 rc rs Q (T.setTop (mkF m (pc + 1) Ls (.int (x.toInt32) :: st)))) : OG p e below s n0 rc rs Q (T.setTop (mkF m pc Ls (.long x :: st))) := by
  obtain ⟨⟨hx, hby, -⟩, -, locs, -, Y⟩ := X
  exact OG.pre (fun _ k => XS.l2i Y.here hx rfl (hb hby hd) rfl k) g
theorem OG.i2b (X : OS B mL own nm rt Z n0 p l e R s m args below meth c T h cells slots) {x : Int32} (hd : decode B pc = .ok (.i2b, 1))  (g : OG p e below s n0 rc rs Q (T.setTop (mkF m (pc + 1) Ls (.int (x.toInt8.toInt32) :: st)))) : OG p e below s n0 rc rs Q (T.setTop (mkF m pc Ls (.int x :: st))) := by
  obtain ⟨⟨hx, hby, -⟩, -, locs, -, Y⟩ := X
  exact OG.pre (fun _ k => XS.i2b Y.here hx rfl (hb hby hd) rfl k) g
theorem OG.i2s (X : OS B mL own nm rt Z n0 p l e R s m args below meth c T h cells slots) {x : Int32} (hd : decode B pc = .ok (.i2s, 1))  (g : OG p e below s n0 rc rs Q (T.setTop (mkF m (pc + 1) Ls (.int (x.toInt16.toInt32) :: st)))) : OG p e below s n0 rc rs Q (T.setTop (mkF m pc Ls (.int x :: st))) := by
  obtain ⟨⟨hx, hby, -⟩, -, locs, -, Y⟩ := X
  exact OG.pre (fun _ k => XS.i2s Y.here hx rfl (hb hby hd) rfl k) g
theorem OG.i2c (X : OS B mL own nm rt Z n0 p l e R s m args below meth c T h cells slots) {x : Int32} (hd : decode B pc = .ok (.i2c, 1))  (g : OG p e below s n0 rc rs Q (T.setTop (mkF m (pc + 1) Ls (.int (x.toUInt32.toUInt16.toUInt32.toInt32) :: st)))) : OG p e below s n0 rc rs Q (T.setTop (mkF m pc Ls (.int x :: st))) := by
  obtain ⟨⟨hx, hby, -⟩, -, locs, -, Y⟩ := X
  exact OG.pre (fun _ k => XS.i2c Y.here hx rfl (hb hby hd) rfl k) g
theorem OG.lcmp (X : OS B mL own nm rt Z n0 p l e R s m args below meth c T h cells slots) {x y : Int64} (hd : decode B pc = .ok (.lcmp, 1))  (g : OG p e below s n0 rc rs Q (T.setTop (mkF m (pc + 1) Ls (.int (lcmpW x y) :: st)))) : OG p e below s n0 rc rs Q (T.setTop (mkF m pc Ls (.long y :: .long x :: st))) := by
  obtain ⟨⟨hx, hby, -⟩, -, locs, -, Y⟩ := X
  exact OG.pre (fun _ k => XS.lcmp Y.here hx rfl (hb hby hd) rfl k) g
theorem OG.dup (X : OS B mL own nm rt Z n0 p l e R s m args below meth c T h cells slots) {x : Value} (hd : decode B pc = .ok (.dup, 1)) (hc : x.category = 1) (g : OG p e below s n0 rc rs Q (T.setTop (mkF m (pc + 1) Ls (x :: x :: st)))) : OG p e below s n0 rc rs Q (T.setTop (mkF m pc Ls (x :: st))) := by
  obtain ⟨⟨hx, hby, -⟩, -, locs, -, Y⟩ := X
  exact OG.pre (fun _ k => XS.dup Y.here hx rfl (hb hby hd) rfl hc k) g
theorem OG.pop (X : OS B mL own nm rt Z n0 p l e R s m args below meth c T h cells slots) {x : Value} (hd : decode B pc = .ok (.pop, 1)) (hc : x.category = 1) (g : OG p e below s n0 rc rs Q (T.setTop (mkF m (pc + 1) Ls st))) : OG p e below s n0 rc rs Q (T.setTop (mkF m pc Ls (x :: st))) := by
  obtain ⟨⟨hx, hby, -⟩, -, locs, -, Y⟩ := X
  exact OG.pre (fun _ k => XS.pop Y.here hx rfl (hb hby hd) rfl hc k) g
theorem OG.dupX1 (X : OS B mL own nm rt Z n0 p l e R s m args below meth c T h cells slots) {x y : Value} (hd : decode B pc = .ok (.dup_x1, 1)) (hc : x.category = 1) (hc' : y.category = 1) (g : OG p e below s n0 rc rs Q (T.setTop (mkF m (pc + 1) Ls (x :: y :: x :: st)))) : OG p e below s n0 rc rs Q (T.setTop (mkF m pc Ls (x :: y :: st))) := by
  obtain ⟨⟨hx, hby, -⟩, -, locs, -, Y⟩ := X
  exact OG.pre (fun _ k => XS.dupX1 Y.here hx rfl (hb hby hd) rfl hc hc' k) g
theorem OG.dup2 (X : OS B mL own nm rt Z n0 p l e R s m args below meth c T h cells slots) {x y : Value} (hd : decode B pc = .ok (.dup2, 1)) (hc : x.category = 1) (hc' : y.category = 1) (g : OG p e below s n0 rc rs Q (T.setTop (mkF m (pc + 1) Ls (x :: y :: x :: y :: st)))) : OG p e below s n0 rc rs Q (T.setTop (mkF m pc Ls (x :: y :: st))) := by
  obtain ⟨⟨hx, hby, -⟩, -, locs, -, Y⟩ := X
  exact OG.pre (fun _ k => Jvm.Free.XT.dup2 Y.here hx rfl (hb hby hd) rfl hc hc' k) g
theorem OG.iinc (X : OS B mL own nm rt Z n0 p l e R s m args below meth c T h cells slots) {k : Nat} {i : Int} {x z : Int32} {l' : Array Slot} (hd : decode B pc = .ok (.iinc k i, 3)) (hl : Ls[k]? = some (.val (.int x))) (hz : Int32.ofInt i = z) (hl' : storeLocals Ls k (.int (x + z)) = some l') (g : OG p e below s n0 rc rs Q (T.setTop (mkF m (pc + 3) l' st))) : OG p e below s n0 rc rs Q (T.setTop (mkF m pc Ls st)) := by
  obtain ⟨⟨hx, hby, -⟩, -, locs, -, Y⟩ := X
  subst hz
  exact OG.pre (fun _ q => XS.iinc Y.here hx rfl (hb hby hd) hl hl' q) g
theorem OG.goto (X : OS B mL own nm rt Z n0 p l e R s m args below meth c T h cells slots) {o : Int} {pc' : Nat} (hd : decode B pc = .ok (.goto o, 3)) (hp : 0 ≤ (pc : Int) + o ∧ ((pc : Int) + o).toNat = pc') (g : OG p e below s n0 rc rs Q (T.setTop (mkF m pc' Ls st))) : OG p e below s n0 rc rs Q (T.setTop (mkF m pc Ls st)) := by
  obtain ⟨⟨hx, hby, -⟩, -, locs, -, Y⟩ := X
  exact OG.pre (fun _ q => XS.goto Y.here hx rfl (pc0 := pc) rfl (hb hby hd) hp.1 hp.2 q) g
theorem OG.icmp_lt_t (X : OS B mL own nm rt Z n0 p l e R s m args below meth c T h cells slots) {x y : Int32} {o : Int} {pc' : Nat} (hd : decode B pc = .ok (.if_icmp .lt o, 3)) (hp : 0 ≤ (pc : Int) + o ∧ ((pc : Int) + o).toNat = pc') (hq : x < y) (g : OG p e below s n0 rc rs Q (T.setTop (mkF m pc' Ls st))) : OG p e below s n0 rc rs Q (T.setTop (mkF m pc Ls (.int y :: .int x :: st))) := by
  obtain ⟨⟨hx, hby, -⟩, -, locs, -, Y⟩ := X
  exact OG.pre (fun _ q => XS.icmpYes Y.here hx rfl (pc0 := pc) rfl (hb hby hd) rfl (tlt hq).1 hp.1 hp.2 q) g
theorem OG.icmp_lt_f (X : OS B mL own nm rt Z n0 p l e R s m args below meth c T h cells slots) {x y : Int32} {o : Int} (hd : decode B pc = .ok (.if_icmp .lt o, 3)) (hq : ¬ x < y) (g : OG p e below s n0 rc rs Q (T.setTop (mkF m (pc + 3) Ls st))) : OG p e below s n0 rc rs Q (T.setTop (mkF m pc Ls (.int y :: .int x :: st))) := by
  obtain ⟨⟨hx, hby, -⟩, -, locs, -, Y⟩ := X
  exact OG.pre (fun _ q => XS.icmpNo Y.here hx rfl (hb hby hd) rfl (flt hq).1 q) g
theorem OG.icmp_lt (X : OS B mL own nm rt Z n0 p l e R s m args below meth c T h cells slots) {x y : Int32} {o : Int} {pc' : Nat} (hd : decode B pc = .ok (.if_icmp .lt o, 3)) (hp : 0 ≤ (pc : Int) + o ∧ ((pc : Int) + o).toNat = pc') (g1 : x < y → OG p e below s n0 rc rs Q (T.setTop (mkF m pc' Ls st))) (g2 : ¬ x < y → OG p e below s n0 rc rs Q (T.setTop (mkF m (pc + 3) Ls st))) : OG p e below s n0 rc rs Q (T.setTop (mkF m pc Ls (.int y :: .int x :: st))) :=
  if hq : x < y then OG.icmp_lt_t X hd hp hq (g1 hq) else OG.icmp_lt_f X hd hq (g2 hq)
theorem OG.if_lt_t (X : OS B mL own nm rt Z n0 p l e R s m args below meth c T h cells slots) {x : Int32} {o : Int} {pc' : Nat} (hd : decode B pc = .ok (.ifCond .lt o, 3)) (hp : 0 ≤ (pc : Int) + o ∧ ((pc : Int) + o).toNat = pc') (hq : x < 0) (g : OG p e below s n0 rc rs Q (T.setTop (mkF m pc' Ls st))) : OG p e below s n0 rc rs Q (T.setTop (mkF m pc Ls (.int x :: st))) := by
  obtain ⟨⟨hx, hby, -⟩, -, locs, -, Y⟩ := X
  exact OG.pre (fun _ q => XS.ifYes Y.here hx rfl (pc0 := pc) rfl (hb hby hd) rfl ((if0 _ _).trans (tlt hq).1) hp.1 hp.2 q) g
theorem OG.if_lt_f (X : OS B mL own nm rt Z n0 p l e R s m args below meth c T h cells slots) {x : Int32} {o : Int} (hd : decode B pc = .ok (.ifCond .lt o, 3)) (hq : ¬ x < 0) (g : OG p e below s n0 rc rs Q (T.setTop (mkF m (pc + 3) Ls st))) : OG p e below s n0 rc rs Q (T.setTop (mkF m pc Ls (.int x :: st))) := by
  obtain ⟨⟨hx, hby, -⟩, -, locs, -, Y⟩ := X
  exact OG.pre (fun _ q => XS.ifNo Y.here hx rfl (hb hby hd) rfl ((if0 _ _).trans (flt hq).1) q) g
theorem OG.if_lt (X : OS B mL own nm rt Z n0 p l e R s m args below meth c T h cells slots) {x : Int32} {o : Int} {pc' : Nat} (hd : decode B pc = .ok (.ifCond .lt o, 3)) (hp : 0 ≤ (pc : Int) + o ∧ ((pc : Int) + o).toNat = pc') (g1 : x < 0 → OG p e below s n0 rc rs Q (T.setTop (mkF m pc' Ls st))) (g2 : ¬ x < 0 → OG p e below s n0 rc rs Q (T.setTop (mkF m (pc + 3) Ls st))) : OG p e below s n0 rc rs Q (T.setTop (mkF m pc Ls (.int x :: st))) :=
  if hq : x < 0 then OG.if_lt_t X hd hp hq (g1 hq) else OG.if_lt_f X hd hq (g2 hq)
theorem OG.ifl_lt_t (X : OS B mL own nm rt Z n0 p l e R s m args below meth c T h cells slots) {x y : Int64} {o : Int} {pc' : Nat} (hd : decode B pc = .ok (.ifCond .lt o, 3)) (hp : 0 ≤ (pc : Int) + o ∧ ((pc : Int) + o).toNat = pc') (hq : x < y) (g : OG p e below s n0 rc rs Q (T.setTop (mkF m pc' Ls st))) : OG p e below s n0 rc rs Q (T.setTop (mkF m pc Ls (.int (lcmpW x y) :: st))) := by
  obtain ⟨⟨hx, hby, -⟩, -, locs, -, Y⟩ := X
  exact OG.pre (fun _ q => XS.ifYes Y.here hx rfl (pc0 := pc) rfl (hb hby hd) rfl ((if0 _ _).trans (tlt ((lw_lt x y).mpr hq)).1) hp.1 hp.2 q) g
theorem OG.ifl_lt_f (X : OS B mL own nm rt Z n0 p l e R s m args below meth c T h cells slots) {x y : Int64} {o : Int} (hd : decode B pc = .ok (.ifCond .lt o, 3)) (hq : ¬ x < y) (g : OG p e below s n0 rc rs Q (T.setTop (mkF m (pc + 3) Ls st))) : OG p e below s n0 rc rs Q (T.setTop (mkF m pc Ls (.int (lcmpW x y) :: st))) := by
  obtain ⟨⟨hx, hby, -⟩, -, locs, -, Y⟩ := X
  exact OG.pre (fun _ q => XS.ifNo Y.here hx rfl (hb hby hd) rfl ((if0 _ _).trans (flt (fun q => hq ((lw_lt x y).mp q))).1) q) g
theorem OG.ifl_lt (X : OS B mL own nm rt Z n0 p l e R s m args below meth c T h cells slots) {x y : Int64} {o : Int} {pc' : Nat} (hd : decode B pc = .ok (.ifCond .lt o, 3)) (hp : 0 ≤ (pc : Int) + o ∧ ((pc : Int) + o).toNat = pc') (g1 : x < y → OG p e below s n0 rc rs Q (T.setTop (mkF m pc' Ls st))) (g2 : ¬ x < y → OG p e below s n0 rc rs Q (T.setTop (mkF m (pc + 3) Ls st))) : OG p e below s n0 rc rs Q (T.setTop (mkF m pc Ls (.int (lcmpW x y) :: st))) :=
  if hq : x < y then OG.ifl_lt_t X hd hp hq (g1 hq) else OG.ifl_lt_f X hd hq (g2 hq)
theorem OG.icmp_ge_t (X : OS B mL own nm rt Z n0 p l e R s m args below meth c T h cells slots) {x y : Int32} {o : Int} {pc' : Nat} (hd : decode B pc = .ok (.if_icmp .ge o, 3)) (hp : 0 ≤ (pc : Int) + o ∧ ((pc : Int) + o).toNat = pc') (hq : ¬ x < y) (g : OG p e below s n0 rc rs Q (T.setTop (mkF m pc' Ls st))) : OG p e below s n0 rc rs Q (T.setTop (mkF m pc Ls (.int y :: .int x :: st))) := by
  obtain ⟨⟨hx, hby, -⟩, -, locs, -, Y⟩ := X
  exact OG.pre (fun _ q => XS.icmpYes Y.here hx rfl (pc0 := pc) rfl (hb hby hd) rfl (flt hq).2.1 hp.1 hp.2 q) g
theorem OG.icmp_ge_f (X : OS B mL own nm rt Z n0 p l e R s m args below meth c T h cells slots) {x y : Int32} {o : Int} (hd : decode B pc = .ok (.if_icmp .ge o, 3)) (hq : x < y) (g : OG p e below s n0 rc rs Q (T.setTop (mkF m (pc + 3) Ls st))) : OG p e below s n0 rc rs Q (T.setTop (mkF m pc Ls (.int y :: .int x :: st))) := by
  obtain ⟨⟨hx, hby, -⟩, -, locs, -, Y⟩ := X
  exact OG.pre (fun _ q => XS.icmpNo Y.here hx rfl (hb hby hd) rfl (tlt hq).2.1 q) g
theorem OG.icmp_ge (X : OS B mL own nm rt Z n0 p l e R s m args below meth c T h cells slots) {x y : Int32} {o : Int} {pc' : Nat} (hd : decode B pc = .ok (.if_icmp .ge o, 3)) (hp : 0 ≤ (pc : Int) + o ∧ ((pc : Int) + o).toNat = pc') (g1 : ¬ x < y → OG p e below s n0 rc rs Q (T.setTop (mkF m pc' Ls st))) (g2 : x < y → OG p e below s n0 rc rs Q (T.setTop (mkF m (pc + 3) Ls st))) : OG p e below s n0 rc rs Q (T.setTop (mkF m pc Ls (.int y :: .int x :: st))) :=
  if hq : x < y then OG.icmp_ge_f X hd hq (g2 hq) else OG.icmp_ge_t X hd hp hq (g1 hq)
theorem OG.if_ge_t (X : OS B mL own nm rt Z n0 p l e R s m args below meth c T h cells slots) {x : Int32} {o : Int} {pc' : Nat} (hd : decode B pc = .ok (.ifCond .ge o, 3)) (hp : 0 ≤ (pc : Int) + o ∧ ((pc : Int) + o).toNat = pc') (hq : ¬ x < 0) (g : OG p e below s n0 rc rs Q (T.setTop (mkF m pc' Ls st))) : OG p e below s n0 rc rs Q (T.setTop (mkF m pc Ls (.int x :: st))) := by
  obtain ⟨⟨hx, hby, -⟩, -, locs, -, Y⟩ := X
  exact OG.pre (fun _ q => XS.ifYes Y.here hx rfl (pc0 := pc) rfl (hb hby hd) rfl ((if0 _ _).trans (flt hq).2.1) hp.1 hp.2 q) g
theorem OG.if_ge_f (X : OS B mL own nm rt Z n0 p l e R s m args below meth c T h cells slots) {x : Int32} {o : Int} (hd : decode B pc = .ok (.ifCond .ge o, 3)) (hq : x < 0) (g : OG p e below s n0 rc rs Q (T.setTop (mkF m (pc + 3) Ls st))) : OG p e below s n0 rc rs Q (T.setTop (mkF m pc Ls (.int x :: st))) := by
  obtain ⟨⟨hx, hby, -⟩, -, locs, -, Y⟩ := X
  exact OG.pre (fun _ q => XS.ifNo Y.here hx rfl (hb hby hd) rfl ((if0 _ _).trans (tlt hq).2.1) q) g
theorem OG.if_ge (X : OS B mL own nm rt Z n0 p l e R s m args below meth c T h cells slots) {x : Int32} {o : Int} {pc' : Nat} (hd : decode B pc = .ok (.ifCond .ge o, 3)) (hp : 0 ≤ (pc : Int) + o ∧ ((pc : Int) + o).toNat = pc') (g1 : ¬ x < 0 → OG p e below s n0 rc rs Q (T.setTop (mkF m pc' Ls st))) (g2 : x < 0 → OG p e below s n0 rc rs Q (T.setTop (mkF m (pc + 3) Ls st))) : OG p e below s n0 rc rs Q (T.setTop (mkF m pc Ls (.int x :: st))) :=
  if hq : x < 0 then OG.if_ge_f X hd hq (g2 hq) else OG.if_ge_t X hd hp hq (g1 hq)
theorem OG.ifl_ge_t (X : OS B mL own nm rt Z n0 p l e R s m args below meth c T h cells slots) {x y : Int64} {o : Int} {pc' : Nat} (hd : decode B pc = .ok (.ifCond .ge o, 3)) (hp : 0 ≤ (pc : Int) + o ∧ ((pc : Int) + o).toNat = pc') (hq : ¬ x < y) (g : OG p e below s n0 rc rs Q (T.setTop (mkF m pc' Ls st))) : OG p e below s n0 rc rs Q (T.setTop (mkF m pc Ls (.int (lcmpW x y) :: st))) := by
  obtain ⟨⟨hx, hby, -⟩, -, locs, -, Y⟩ := X
  exact OG.pre (fun _ q => XS.ifYes Y.here hx rfl (pc0 := pc) rfl (hb hby hd) rfl ((if0 _ _).trans (flt (fun q => hq ((lw_lt x y).mp q))).2.1) hp.1 hp.2 q) g
theorem OG.ifl_ge_f (X : OS B mL own nm rt Z n0 p l e R s m args below meth c T h cells slots) {x y : Int64} {o : Int} (hd : decode B pc = .ok (.ifCond .ge o, 3)) (hq : x < y) (g : OG p e below s n0 rc rs Q (T.setTop (mkF m (pc + 3) Ls st))) : OG p e below s n0 rc rs Q (T.setTop (mkF m pc Ls (.int (lcmpW x y) :: st))) := by
  obtain ⟨⟨hx, hby, -⟩, -, locs, -, Y⟩ := X
  exact OG.pre (fun _ q => XS.ifNo Y.here hx rfl (hb hby hd) rfl ((if0 _ _).trans (tlt ((lw_lt x y).mpr hq)).2.1) q) g
theorem OG.ifl_ge (X : OS B mL own nm rt Z n0 p l e R s m args below meth c T h cells slots) {x y : Int64} {o : Int} {pc' : Nat} (hd : decode B pc = .ok (.ifCond .ge o, 3)) (hp : 0 ≤ (pc : Int) + o ∧ ((pc : Int) + o).toNat = pc') (g1 : ¬ x < y → OG p e below s n0 rc rs Q (T.setTop (mkF m pc' Ls st))) (g2 : x < y → OG p e below s n0 rc rs Q (T.setTop (mkF m (pc + 3) Ls st))) : OG p e below s n0 rc rs Q (T.setTop (mkF m pc Ls (.int (lcmpW x y) :: st))) :=
  if hq : x < y then OG.ifl_ge_f X hd hq (g2 hq) else OG.ifl_ge_t X hd hp hq (g1 hq)
theorem OG.icmp_gt_t (X : OS B mL own nm rt Z n0 p l e R s m args below meth c T h cells slots) {x y : Int32} {o : Int} {pc' : Nat} (hd : decode B pc = .ok (.if_icmp .gt o, 3)) (hp : 0 ≤ (pc : Int) + o ∧ ((pc : Int) + o).toNat = pc') (hq : y < x) (g : OG p e below s n0 rc rs Q (T.setTop (mkF m pc' Ls st))) : OG p e below s n0 rc rs Q (T.setTop (mkF m pc Ls (.int y :: .int x :: st))) := by
  obtain ⟨⟨hx, hby, -⟩, -, locs, -, Y⟩ := X
  exact OG.pre (fun _ q => XS.icmpYes Y.here hx rfl (pc0 := pc) rfl (hb hby hd) rfl (tlt hq).2.2.1 hp.1 hp.2 q) g
theorem OG.icmp_gt_f (X : OS B mL own nm rt Z n0 p l e R s m args below meth c T h cells slots) {x y : Int32} {o : Int} (hd : decode B pc = .ok (.if_icmp .gt o, 3)) (hq : ¬ y < x) (g : OG p e below s n0 rc rs Q (T.setTop (mkF m (pc + 3) Ls st))) : OG p e below s n0 rc rs Q (T.setTop (mkF m pc Ls (.int y :: .int x :: st))) := by
  obtain ⟨⟨hx, hby, -⟩, -, locs, -, Y⟩ := X
  exact OG.pre (fun _ q => XS.icmpNo Y.here hx rfl (hb hby hd) rfl (flt hq).2.2.1 q) g
theorem OG.icmp_gt (X : OS B mL own nm rt Z n0 p l e R s m args below meth c T h cells slots) {x y : Int32} {o : Int} {pc' : Nat} (hd : decode B pc = .ok (.if_icmp .gt o, 3)) (hp : 0 ≤ (pc : Int) + o ∧ ((pc : Int) + o).toNat = pc') (g1 : y < x → OG p e below s n0 rc rs Q (T.setTop (mkF m pc' Ls st))) (g2 : ¬ y < x → OG p e below s n0 rc rs Q (T.setTop (mkF m (pc + 3) Ls st))) : OG p e below s n0 rc rs Q (T.setTop (mkF m pc Ls (.int y :: .int x :: st))) :=
  if hq : y < x then OG.icmp_gt_t X hd hp hq (g1 hq) else OG.icmp_gt_f X hd hq (g2 hq)
theorem OG.if_gt_t (X : OS B mL own nm rt Z n0 p l e R s m args below meth c T h cells slots) {x : Int32} {o : Int} {pc' : Nat} (hd : decode B pc = .ok (.ifCond .gt o, 3)) (hp : 0 ≤ (pc : Int) + o ∧ ((pc : Int) + o).toNat = pc') (hq : 0 < x) (g : OG p e below s n0 rc rs Q (T.setTop (mkF m pc' Ls st))) : OG p e below s n0 rc rs Q (T.setTop (mkF m pc Ls (.int x :: st))) := by
  obtain ⟨⟨hx, hby, -⟩, -, locs, -, Y⟩ := X
  exact OG.pre (fun _ q => XS.ifYes Y.here hx rfl (pc0 := pc) rfl (hb hby hd) rfl ((if0 _ _).trans (tlt hq).2.2.1) hp.1 hp.2 q) g
theorem OG.if_gt_f (X : OS B mL own nm rt Z n0 p l e R s m args below meth c T h cells slots) {x : Int32} {o : Int} (hd : decode B pc = .ok (.ifCond .gt o, 3)) (hq : ¬ 0 < x) (g : OG p e below s n0 rc rs Q (T.setTop (mkF m (pc + 3) Ls st))) : OG p e below s n0 rc rs Q (T.setTop (mkF m pc Ls (.int x :: st))) := by
  obtain ⟨⟨hx, hby, -⟩, -, locs, -, Y⟩ := X
  exact OG.pre (fun _ q => XS.ifNo Y.here hx rfl (hb hby hd) rfl ((if0 _ _).trans (flt hq).2.2.1) q) g
theorem OG.if_gt (X : OS B mL own nm rt Z n0 p l e R s m args below meth c T h cells slots) {x : Int32} {o : Int} {pc' : Nat} (hd : decode B pc = .ok (.ifCond .gt o, 3)) (hp : 0 ≤ (pc : Int) + o ∧ ((pc : Int) + o).toNat = pc') (g1 : 0 < x → OG p e below s n0 rc rs Q (T.setTop (mkF m pc' Ls st))) (g2 : ¬ 0 < x → OG p e below s n0 rc rs Q (T.setTop (mkF m (pc + 3) Ls st))) : OG p e below s n0 rc rs Q (T.setTop (mkF m pc Ls (.int x :: st))) :=
  if hq : 0 < x then OG.if_gt_t X hd hp hq (g1 hq) else OG.if_gt_f X hd hq (g2 hq)
theorem OG.ifl_gt_t (X : OS B mL own nm rt Z n0 p l e R s m args below meth c T h cells slots) {x y : Int64} {o : Int} {pc' : Nat} (hd : decode B pc = .ok (.ifCond .gt o, 3)) (hp : 0 ≤ (pc : Int) + o ∧ ((pc : Int) + o).toNat = pc') (hq : y < x) (g : OG p e below s n0 rc rs Q (T.setTop (mkF m pc' Ls st))) : OG p e below s n0 rc rs Q (T.setTop (mkF m pc Ls (.int (lcmpW x y) :: st))) := by
  obtain ⟨⟨hx, hby, -⟩, -, locs, -, Y⟩ := X
  exact OG.pre (fun _ q => XS.ifYes Y.here hx rfl (pc0 := pc) rfl (hb hby hd) rfl ((if0 _ _).trans (tlt ((lw_gt x y).mpr hq)).2.2.1) hp.1 hp.2 q) g
theorem OG.ifl_gt_f (X : OS B mL own nm rt Z n0 p l e R s m args below meth c T h cells slots) {x y : Int64} {o : Int} (hd : decode B pc = .ok (.ifCond .gt o, 3)) (hq : ¬ y < x) (g : OG p e below s n0 rc rs Q (T.setTop (mkF m (pc + 3) Ls st))) : OG p e below s n0 rc rs Q (T.setTop (mkF m pc Ls (.int (lcmpW x y) :: st))) := by
  obtain ⟨⟨hx, hby, -⟩, -, locs, -, Y⟩ := X
  exact OG.pre (fun _ q => XS.ifNo Y.here hx rfl (hb hby hd) rfl ((if0 _ _).trans (flt (fun q => hq ((lw_gt x y).mp q))).2.2.1) q) g
theorem OG.ifl_gt (X : OS B mL own nm rt Z n0 p l e R s m args below meth c T h cells slots) {x y : Int64} {o : Int} {pc' : Nat} (hd : decode B pc = .ok (.ifCond .gt o, 3)) (hp : 0 ≤ (pc : Int) + o ∧ ((pc : Int) + o).toNat = pc') (g1 : y < x → OG p e below s n0 rc rs Q (T.setTop (mkF m pc' Ls st))) (g2 : ¬ y < x → OG p e below s n0 rc rs Q (T.setTop (mkF m (pc + 3) Ls st))) : OG p e below s n0 rc rs Q (T.setTop (mkF m pc Ls (.int (lcmpW x y) :: st))) :=
  if hq : y < x then OG.ifl_gt_t X hd hp hq (g1 hq) else OG.ifl_gt_f X hd hq (g2 hq)
theorem OG.icmp_le_t (X : OS B mL own nm rt Z n0 p l e R s m args below meth c T h cells slots) {x y : Int32} {o : Int} {pc' : Nat} (hd : decode B pc = .ok (.if_icmp .le o, 3)) (hp : 0 ≤ (pc : Int) + o ∧ ((pc : Int) + o).toNat = pc') (hq : ¬ y < x) (g : OG p e below s n0 rc rs Q (T.setTop (mkF m pc' Ls st))) : OG p e below s n0 rc rs Q (T.setTop (mkF m pc Ls (.int y :: .int x :: st))) := by
  obtain ⟨⟨hx, hby, -⟩, -, locs, -, Y⟩ := X
  exact OG.pre (fun _ q => XS.icmpYes Y.here hx rfl (pc0 := pc) rfl (hb hby hd) rfl (flt hq).2.2.2 hp.1 hp.2 q) g
theorem OG.icmp_le_f (X : OS B mL own nm rt Z n0 p l e R s m args below meth c T h cells slots) {x y : Int32} {o : Int} (hd : decode B pc = .ok (.if_icmp .le o, 3)) (hq : y < x) (g : OG p e below s n0 rc rs Q (T.setTop (mkF m (pc + 3) Ls st))) : OG p e below s n0 rc rs Q (T.setTop (mkF m pc Ls (.int y :: .int x :: st))) := by
  obtain ⟨⟨hx, hby, -⟩, -, locs, -, Y⟩ := X
  exact OG.pre (fun _ q => XS.icmpNo Y.here hx rfl (hb hby hd) rfl (tlt hq).2.2.2 q) g
theorem OG.icmp_le (X : OS B mL own nm rt Z n0 p l e R s m args below meth c T h cells slots) {x y : Int32} {o : Int} {pc' : Nat} (hd : decode B pc = .ok (.if_icmp .le o, 3)) (hp : 0 ≤ (pc : Int) + o ∧ ((pc : Int) + o).toNat = pc') (g1 : ¬ y < x → OG p e below s n0 rc rs Q (T.setTop (mkF m pc' Ls st))) (g2 : y < x → OG p e below s n0 rc rs Q (T.setTop (mkF m (pc + 3) Ls st))) : OG p e below s n0 rc rs Q (T.setTop (mkF m pc Ls (.int y :: .int x :: st))) :=
  if hq : y < x then OG.icmp_le_f X hd hq (g2 hq) else OG.icmp_le_t X hd hp hq (g1 hq)
theorem OG.if_le_t (X : OS B mL own nm rt Z n0 p l e R s m args below meth c T h cells slots) {x : Int32} {o : Int} {pc' : Nat} (hd : decode B pc = .ok (.ifCond .le o, 3)) (hp : 0 ≤ (pc : Int) + o ∧ ((pc : Int) + o).toNat = pc') (hq : ¬ 0 < x) (g : OG p e below s n0 rc rs Q (T.setTop (mkF m pc' Ls st))) : OG p e below s n0 rc rs Q (T.setTop (mkF m pc Ls (.int x :: st))) := by
  obtain ⟨⟨hx, hby, -⟩, -, locs, -, Y⟩ := X
  exact OG.pre (fun _ q => XS.ifYes Y.here hx rfl (pc0 := pc) rfl (hb hby hd) rfl ((if0 _ _).trans (flt hq).2.2.2) hp.1 hp.2 q) g
theorem OG.if_le_f (X : OS B mL own nm rt Z n0 p l e R s m args below meth c T h cells slots) {x : Int32} {o : Int} (hd : decode B pc = .ok (.ifCond .le o, 3)) (hq : 0 < x) (g : OG p e below s n0 rc rs Q (T.setTop (mkF m (pc + 3) Ls st))) : OG p e below s n0 rc rs Q (T.setTop (mkF m pc Ls (.int x :: st))) := by
  obtain ⟨⟨hx, hby, -⟩, -, locs, -, Y⟩ := X
  exact OG.pre (fun _ q => XS.ifNo Y.here hx rfl (hb hby hd) rfl ((if0 _ _).trans (tlt hq).2.2.2) q) g
theorem OG.if_le (X : OS B mL own nm rt Z n0 p l e R s m args below meth c T h cells slots) {x : Int32} {o : Int} {pc' : Nat} (hd : decode B pc = .ok (.ifCond .le o, 3)) (hp : 0 ≤ (pc : Int) + o ∧ ((pc : Int) + o).toNat = pc') (g1 : ¬ 0 < x → OG p e below s n0 rc rs Q (T.setTop (mkF m pc' Ls st))) (g2 : 0 < x → OG p e below s n0 rc rs Q (T.setTop (mkF m (pc + 3) Ls st))) : OG p e below s n0 rc rs Q (T.setTop (mkF m pc Ls (.int x :: st))) :=
  if hq : 0 < x then OG.if_le_f X hd hq (g2 hq) else OG.if_le_t X hd hp hq (g1 hq)
theorem OG.ifl_le_t (X : OS B mL own nm rt Z n0 p l e R s m args below meth c T h cells slots) {x y : Int64} {o : Int} {pc' : Nat} (hd : decode B pc = .ok (.ifCond .le o, 3)) (hp : 0 ≤ (pc : Int) + o ∧ ((pc : Int) + o).toNat = pc') (hq : ¬ y < x) (g : OG p e below s n0 rc rs Q (T.setTop (mkF m pc' Ls st))) : OG p e below s n0 rc rs Q (T.setTop (mkF m pc Ls (.int (lcmpW x y) :: st))) := by
  obtain ⟨⟨hx, hby, -⟩, -, locs, -, Y⟩ := X
  exact OG.pre (fun _ q => XS.ifYes Y.here hx rfl (pc0 := pc) rfl (hb hby hd) rfl ((if0 _ _).trans (flt (fun q => hq ((lw_gt x y).mp q))).2.2.2) hp.1 hp.2 q) g
theorem OG.ifl_le_f (X : OS B mL own nm rt Z n0 p l e R s m args below meth c T h cells slots) {x y : Int64} {o : Int} (hd : decode B pc = .ok (.ifCond .le o, 3)) (hq : y < x) (g : OG p e below s n0 rc rs Q (T.setTop (mkF m (pc + 3) Ls st))) : OG p e below s n0 rc rs Q (T.setTop (mkF m pc Ls (.int (lcmpW x y) :: st))) := by
  obtain ⟨⟨hx, hby, -⟩, -, locs, -, Y⟩ := X
  exact OG.pre (fun _ q => XS.ifNo Y.here hx rfl (hb hby hd) rfl ((if0 _ _).trans (tlt ((lw_gt x y).mpr hq)).2.2.2) q) g
theorem OG.ifl_le (X : OS B mL own nm rt Z n0 p l e R s m args below meth c T h cells slots) {x y : Int64} {o : Int} {pc' : Nat} (hd : decode B pc = .ok (.ifCond .le o, 3)) (hp : 0 ≤ (pc : Int) + o ∧ ((pc : Int) + o).toNat = pc') (g1 : ¬ y < x → OG p e below s n0 rc rs Q (T.setTop (mkF m pc' Ls st))) (g2 : y < x → OG p e below s n0 rc rs Q (T.setTop (mkF m (pc + 3) Ls st))) : OG p e below s n0 rc rs Q (T.setTop (mkF m pc Ls (.int (lcmpW x y) :: st))) :=
  if hq : y < x then OG.ifl_le_f X hd hq (g2 hq) else OG.ifl_le_t X hd hp hq (g1 hq)
theorem OG.icmp_eq_t (X : OS B mL own nm rt Z n0 p l e R s m args below meth c T h cells slots) {x y : Int32} {o : Int} {pc' : Nat} (hd : decode B pc = .ok (.if_icmp .eq o, 3)) (hp : 0 ≤ (pc : Int) + o ∧ ((pc : Int) + o).toNat = pc') (hq : x = y) (g : OG p e below s n0 rc rs Q (T.setTop (mkF m pc' Ls st))) : OG p e below s n0 rc rs Q (T.setTop (mkF m pc Ls (.int y :: .int x :: st))) := by
  obtain ⟨⟨hx, hby, -⟩, -, locs, -, Y⟩ := X
  exact OG.pre (fun _ q => XS.icmpYes Y.here hx rfl (pc0 := pc) rfl (hb hby hd) rfl (teq hq).1 hp.1 hp.2 q) g
theorem OG.icmp_eq_f (X : OS B mL own nm rt Z n0 p l e R s m args below meth c T h cells slots) {x y : Int32} {o : Int} (hd : decode B pc = .ok (.if_icmp .eq o, 3)) (hq : ¬ x = y) (g : OG p e below s n0 rc rs Q (T.setTop (mkF m (pc + 3) Ls st))) : OG p e below s n0 rc rs Q (T.setTop (mkF m pc Ls (.int y :: .int x :: st))) := by
  obtain ⟨⟨hx, hby, -⟩, -, locs, -, Y⟩ := X
  exact OG.pre (fun _ q => XS.icmpNo Y.here hx rfl (hb hby hd) rfl (feq hq).1 q) g
theorem OG.icmp_eq (X : OS B mL own nm rt Z n0 p l e R s m args below meth c T h cells slots) {x y : Int32} {o : Int} {pc' : Nat} (hd : decode B pc = .ok (.if_icmp .eq o, 3)) (hp : 0 ≤ (pc : Int) + o ∧ ((pc : Int) + o).toNat = pc') (g1 : x = y → OG p e below s n0 rc rs Q (T.setTop (mkF m pc' Ls st))) (g2 : ¬ x = y → OG p e below s n0 rc rs Q (T.setTop (mkF m (pc + 3) Ls st))) : OG p e below s n0 rc rs Q (T.setTop (mkF m pc Ls (.int y :: .int x :: st))) :=
  if hq : x = y then OG.icmp_eq_t X hd hp hq (g1 hq) else OG.icmp_eq_f X hd hq (g2 hq)
theorem OG.if_eq_t (X : OS B mL own nm rt Z n0 p l e R s m args below meth c T h cells slots) {x : Int32} {o : Int} {pc' : Nat} (hd : decode B pc = .ok (.ifCond .eq o, 3)) (hp : 0 ≤ (pc : Int) + o ∧ ((pc : Int) + o).toNat = pc') (hq : x = 0) (g : OG p e below s n0 rc rs Q (T.setTop (mkF m pc' Ls st))) : OG p e below s n0 rc rs Q (T.setTop (mkF m pc Ls (.int x :: st))) := by
  obtain ⟨⟨hx, hby, -⟩, -, locs, -, Y⟩ := X
  exact OG.pre (fun _ q => XS.ifYes Y.here hx rfl (pc0 := pc) rfl (hb hby hd) rfl ((if0 _ _).trans (teq hq).1) hp.1 hp.2 q) g
theorem OG.if_eq_f (X : OS B mL own nm rt Z n0 p l e R s m args below meth c T h cells slots) {x : Int32} {o : Int} (hd : decode B pc = .ok (.ifCond .eq o, 3)) (hq : ¬ x = 0) (g : OG p e below s n0 rc rs Q (T.setTop (mkF m (pc + 3) Ls st))) : OG p e below s n0 rc rs Q (T.setTop (mkF m pc Ls (.int x :: st))) := by
  obtain ⟨⟨hx, hby, -⟩, -, locs, -, Y⟩ := X
  exact OG.pre (fun _ q => XS.ifNo Y.here hx rfl (hb hby hd) rfl ((if0 _ _).trans (feq hq).1) q) g
theorem OG.if_eq (X : OS B mL own nm rt Z n0 p l e R s m args below meth c T h cells slots) {x : Int32} {o : Int} {pc' : Nat} (hd : decode B pc = .ok (.ifCond .eq o, 3)) (hp : 0 ≤ (pc : Int) + o ∧ ((pc : Int) + o).toNat = pc') (g1 : x = 0 → OG p e below s n0 rc rs Q (T.setTop (mkF m pc' Ls st))) (g2 : ¬ x = 0 → OG p e below s n0 rc rs Q (T.setTop (mkF m (pc + 3) Ls st))) : OG p e below s n0 rc rs Q (T.setTop (mkF m pc Ls (.int x :: st))) :=
  if hq : x = 0 then OG.if_eq_t X hd hp hq (g1 hq) else OG.if_eq_f X hd hq (g2 hq)
theorem OG.ifl_eq_t (X : OS B mL own nm rt Z n0 p l e R s m args below meth c T h cells slots) {x y : Int64} {o : Int} {pc' : Nat} (hd : decode B pc = .ok (.ifCond .eq o, 3)) (hp : 0 ≤ (pc : Int) + o ∧ ((pc : Int) + o).toNat = pc') (hq : x = y) (g : OG p e below s n0 rc rs Q (T.setTop (mkF m pc' Ls st))) : OG p e below s n0 rc rs Q (T.setTop (mkF m pc Ls (.int (lcmpW x y) :: st))) := by
  obtain ⟨⟨hx, hby, -⟩, -, locs, -, Y⟩ := X
  exact OG.pre (fun _ q => XS.ifYes Y.here hx rfl (pc0 := pc) rfl (hb hby hd) rfl ((if0 _ _).trans (teq ((lw_eq x y).mpr hq)).1) hp.1 hp.2 q) g
theorem OG.ifl_eq_f (X : OS B mL own nm rt Z n0 p l e R s m args below meth c T h cells slots) {x y : Int64} {o : Int} (hd : decode B pc = .ok (.ifCond .eq o, 3)) (hq : ¬ x = y) (g : OG p e below s n0 rc rs Q (T.setTop (mkF m (pc + 3) Ls st))) : OG p e below s n0 rc rs Q (T.setTop (mkF m pc Ls (.int (lcmpW x y) :: st))) := by
  obtain ⟨⟨hx, hby, -⟩, -, locs, -, Y⟩ := X
  exact OG.pre (fun _ q => XS.ifNo Y.here hx rfl (hb hby hd) rfl ((if0 _ _).trans (feq (fun q => hq ((lw_eq x y).mp q))).1) q) g
theorem OG.ifl_eq (X : OS B mL own nm rt Z n0 p l e R s m args below meth c T h cells slots) {x y : Int64} {o : Int} {pc' : Nat} (hd : decode B pc = .ok (.ifCond .eq o, 3)) (hp : 0 ≤ (pc : Int) + o ∧ ((pc : Int) + o).toNat = pc') (g1 : x = y → OG p e below s n0 rc rs Q (T.setTop (mkF m pc' Ls st))) (g2 : ¬ x = y → OG p e below s n0 rc rs Q (T.setTop (mkF m (pc + 3) Ls st))) : OG p e below s n0 rc rs Q (T.setTop (mkF m pc Ls (.int (lcmpW x y) :: st))) :=
  if hq : x = y then OG.ifl_eq_t X hd hp hq (g1 hq) else OG.ifl_eq_f X hd hq (g2 hq)
theorem OG.icmp_ne_t (X : OS B mL own nm rt Z n0 p l e R s m args below meth c T h cells slots) {x y : Int32} {o : Int} {pc' : Nat} (hd : decode B pc = .ok (.if_icmp .ne o, 3)) (hp : 0 ≤ (pc : Int) + o ∧ ((pc : Int) + o).toNat = pc') (hq : ¬ x = y) (g : OG p e below s n0 rc rs Q (T.setTop (mkF m pc' Ls st))) : OG p e below s n0 rc rs Q (T.setTop (mkF m pc Ls (.int y :: .int x :: st))) := by
  obtain ⟨⟨hx, hby, -⟩, -, locs, -, Y⟩ := X
  exact OG.pre (fun _ q => XS.icmpYes Y.here hx rfl (pc0 := pc) rfl (hb hby hd) rfl (feq hq).2 hp.1 hp.2 q) g
theorem OG.icmp_ne_f (X : OS B mL own nm rt Z n0 p l e R s m args below meth c T h cells slots) {x y : Int32} {o : Int} (hd : decode B pc = .ok (.if_icmp .ne o, 3)) (hq : x = y) (g : OG p e below s n0 rc rs Q (T.setTop (mkF m (pc + 3) Ls st))) : OG p e below s n0 rc rs Q (T.setTop (mkF m pc Ls (.int y :: .int x :: st))) := by
  obtain ⟨⟨hx, hby, -⟩, -, locs, -, Y⟩ := X
  exact OG.pre (fun _ q => XS.icmpNo Y.here hx rfl (hb hby hd) rfl (teq hq).2 q) g
theorem OG.icmp_ne (X : OS B mL own nm rt Z n0 p l e R s m args below meth c T h cells slots) {x y : Int32} {o : Int} {pc' : Nat} (hd : decode B pc = .ok (.if_icmp .ne o, 3)) (hp : 0 ≤ (pc : Int) + o ∧ ((pc : Int) + o).toNat = pc') (g1 : ¬ x = y → OG p e below s n0 rc rs Q (T.setTop (mkF m pc' Ls st))) (g2 : x = y → OG p e below s n0 rc rs Q (T.setTop (mkF m (pc + 3) Ls st))) : OG p e below s n0 rc rs Q (T.setTop (mkF m pc Ls (.int y :: .int x :: st))) :=
  if hq : x = y then OG.icmp_ne_f X hd hq (g2 hq) else OG.icmp_ne_t X hd hp hq (g1 hq)
theorem OG.if_ne_t (X : OS B mL own nm rt Z n0 p l e R s m args below meth c T h cells slots) {x : Int32} {o : Int} {pc' : Nat} (hd : decode B pc = .ok (.ifCond .ne o, 3)) (hp : 0 ≤ (pc : Int) + o ∧ ((pc : Int) + o).toNat = pc') (hq : ¬ x = 0) (g : OG p e below s n0 rc rs Q (T.setTop (mkF m pc' Ls st))) : OG p e below s n0 rc rs Q (T.setTop (mkF m pc Ls (.int x :: st))) := by
  obtain ⟨⟨hx, hby, -⟩, -, locs, -, Y⟩ := X
  exact OG.pre (fun _ q => XS.ifYes Y.here hx rfl (pc0 := pc) rfl (hb hby hd) rfl ((if0 _ _).trans (feq hq).2) hp.1 hp.2 q) g
theorem OG.if_ne_f (X : OS B mL own nm rt Z n0 p l e R s m args below meth c T h cells slots) {x : Int32} {o : Int} (hd : decode B pc = .ok (.ifCond .ne o, 3)) (hq : x = 0) (g : OG p e below s n0 rc rs Q (T.setTop (mkF m (pc + 3) Ls st))) : OG p e below s n0 rc rs Q (T.setTop (mkF m pc Ls (.int x :: st))) := by
  obtain ⟨⟨hx, hby, -⟩, -, locs, -, Y⟩ := X
  exact OG.pre (fun _ q => XS.ifNo Y.here hx rfl (hb hby hd) rfl ((if0 _ _).trans (teq hq).2) q) g
theorem OG.if_ne (X : OS B mL own nm rt Z n0 p l e R s m args below meth c T h cells slots) {x : Int32} {o : Int} {pc' : Nat} (hd : decode B pc = .ok (.ifCond .ne o, 3)) (hp : 0 ≤ (pc : Int) + o ∧ ((pc : Int) + o).toNat = pc') (g1 : ¬ x = 0 → OG p e below s n0 rc rs Q (T.setTop (mkF m pc' Ls st))) (g2 : x = 0 → OG p e below s n0 rc rs Q (T.setTop (mkF m (pc + 3) Ls st))) : OG p e below s n0 rc rs Q (T.setTop (mkF m pc Ls (.int x :: st))) :=
  if hq : x = 0 then OG.if_ne_f X hd hq (g2 hq) else OG.if_ne_t X hd hp hq (g1 hq)
theorem OG.ifl_ne_t (X : OS B mL own nm rt Z n0 p l e R s m args below meth c T h cells slots) {x y : Int64} {o : Int} {pc' : Nat} (hd : decode B pc = .ok (.ifCond .ne o, 3)) (hp : 0 ≤ (pc : Int) + o ∧ ((pc : Int) + o).toNat = pc') (hq : ¬ x = y) (g : OG p e below s n0 rc rs Q (T.setTop (mkF m pc' Ls st))) : OG p e below s n0 rc rs Q (T.setTop (mkF m pc Ls (.int (lcmpW x y) :: st))) := by
  obtain ⟨⟨hx, hby, -⟩, -, locs, -, Y⟩ := X
  exact OG.pre (fun _ q => XS.ifYes Y.here hx rfl (pc0 := pc) rfl (hb hby hd) rfl ((if0 _ _).trans (feq (fun q => hq ((lw_eq x y).mp q))).2) hp.1 hp.2 q) g
theorem OG.ifl_ne_f (X : OS B mL own nm rt Z n0 p l e R s m args below meth c T h cells slots) {x y : Int64} {o : Int} (hd : decode B pc = .ok (.ifCond .ne o, 3)) (hq : x = y) (g : OG p e below s n0 rc rs Q (T.setTop (mkF m (pc + 3) Ls st))) : OG p e below s n0 rc rs Q (T.setTop (mkF m pc Ls (.int (lcmpW x y) :: st))) := by
  obtain ⟨⟨hx, hby, -⟩, -, locs, -, Y⟩ := X
  exact OG.pre (fun _ q => XS.ifNo Y.here hx rfl (hb hby hd) rfl ((if0 _ _).trans (teq ((lw_eq x y).mpr hq)).2) q) g
theorem OG.ifl_ne (X : OS B mL own nm rt Z n0 p l e R s m args below meth c T h cells slots) {x y : Int64} {o : Int} {pc' : Nat} (hd : decode B pc = .ok (.ifCond .ne o, 3)) (hp : 0 ≤ (pc : Int) + o ∧ ((pc : Int) + o).toNat = pc') (g1 : ¬ x = y → OG p e below s n0 rc rs Q (T.setTop (mkF m pc' Ls st))) (g2 : x = y → OG p e below s n0 rc rs Q (T.setTop (mkF m (pc + 3) Ls st))) : OG p e below s n0 rc rs Q (T.setTop (mkF m pc Ls (.int (lcmpW x y) :: st))) :=
  if hq : x = y then OG.ifl_ne_f X hd hq (g2 hq) else OG.ifl_ne_t X hd hp hq (g1 hq)
theorem OG.ifnullYes (X : OS B mL own nm rt Z n0 p l e R s m args below meth c T h cells slots)  {o : Int} {pc' : Nat} (hd : decode B pc = .ok (.ifnull o, 3)) (hp : 0 ≤ (pc : Int) + o ∧ ((pc : Int) + o).toNat = pc') (g : OG p e below s n0 rc rs Q (T.setTop (mkF m pc' Ls st))) : OG p e below s n0 rc rs Q (T.setTop (mkF m pc Ls (.null :: st))) := by
  obtain ⟨⟨hx, hby, -⟩, -, locs, -, Y⟩ := X
  exact OG.pre (fun _ q => XS.ifnullYes Y.here hx rfl (pc0 := pc) rfl (hb hby hd) rfl hp.1 hp.2 q) g
theorem OG.ifnonnullYes (X : OS B mL own nm rt Z n0 p l e R s m args below meth c T h cells slots) {a : Addr} {o : Int} {pc' : Nat} (hd : decode B pc = .ok (.ifnonnull o, 3)) (hp : 0 ≤ (pc : Int) + o ∧ ((pc : Int) + o).toNat = pc') (g : OG p e below s n0 rc rs Q (T.setTop (mkF m pc' Ls st))) : OG p e below s n0 rc rs Q (T.setTop (mkF m pc Ls (.ref a :: st))) := by
  obtain ⟨⟨hx, hby, -⟩, -, locs, -, Y⟩ := X
  exact OG.pre (fun _ q => XS.ifnonnullYes Y.here hx rfl (pc0 := pc) rfl (hb hby hd) rfl hp.1 hp.2 q) g
theorem OG.ifnullNo (X : OS B mL own nm rt Z n0 p l e R s m args below meth c T h cells slots) {a : Addr} {o : Int} (hd : decode B pc = .ok (.ifnull o, 3)) (g : OG p e below s n0 rc rs Q (T.setTop (mkF m (pc + 3) Ls st))) : OG p e below s n0 rc rs Q (T.setTop (mkF m pc Ls (.ref a :: st))) := by
  obtain ⟨⟨hx, hby, -⟩, -, locs, -, Y⟩ := X
  exact OG.pre (fun _ q => XS.ifnullNo Y.here hx rfl (hb hby hd) rfl q) g
theorem OG.ifnonnullNo (X : OS B mL own nm rt Z n0 p l e R s m args below meth c T h cells slots)  {o : Int} (hd : decode B pc = .ok (.ifnonnull o, 3)) (g : OG p e below s n0 rc rs Q (T.setTop (mkF m (pc + 3) Ls st))) : OG p e below s n0 rc rs Q (T.setTop (mkF m pc Ls (.null :: st))) := by
  obtain ⟨⟨hx, hby, -⟩, -, locs, -, Y⟩ := X
  exact OG.pre (fun _ q => XS.ifnonnullNo Y.here hx rfl (hb hby hd) rfl q) g
theorem OG.acmp_eq_t (X : OS B mL own nm rt Z n0 p l e R s m args below meth c T h cells slots) {x y : Addr} {o : Int} {pc' : Nat} (hd : decode B pc = .ok (.if_acmp .eq o, 3)) (hp : 0 ≤ (pc : Int) + o ∧ ((pc : Int) + o).toNat = pc') (hq : x = y) (g : OG p e below s n0 rc rs Q (T.setTop (mkF m pc' Ls st))) : OG p e below s n0 rc rs Q (T.setTop (mkF m pc Ls (.ref y :: .ref x :: st))) := by
  obtain ⟨⟨hx, hby, -⟩, -, locs, -, Y⟩ := X
  exact OG.pre (fun _ q => RoadKit.acmp Y hx rfl rfl rfl (pc0 := pc) (pc' := pc') (same := true) rfl (hb hby hd) rfl (decide_eq_true (congrArg Value.ref hq)) hp.1 (by simp [acV, hp.2]) q) g
theorem OG.acmp_eq_f (X : OS B mL own nm rt Z n0 p l e R s m args below meth c T h cells slots) {x y : Addr} {o : Int} {pc' : Nat} (hd : decode B pc = .ok (.if_acmp .eq o, 3)) (hp : 0 ≤ (pc : Int) + o ∧ ((pc : Int) + o).toNat = pc') (hq : ¬ x = y) (g : OG p e below s n0 rc rs Q (T.setTop (mkF m (pc + 3) Ls st))) : OG p e below s n0 rc rs Q (T.setTop (mkF m pc Ls (.ref y :: .ref x :: st))) := by
  obtain ⟨⟨hx, hby, -⟩, -, locs, -, Y⟩ := X
  exact OG.pre (fun _ q => RoadKit.acmp Y hx rfl rfl rfl (pc0 := pc) (pc' := (pc + 3)) (same := false) rfl (hb hby hd) rfl (decide_eq_false fun q => hq (Value.ref.inj q)) hp.1 (by simp [acV]) q) g
theorem OG.acmp_ne_f (X : OS B mL own nm rt Z n0 p l e R s m args below meth c T h cells slots) {x y : Addr} {o : Int} {pc' : Nat} (hd : decode B pc = .ok (.if_acmp .ne o, 3)) (hp : 0 ≤ (pc : Int) + o ∧ ((pc : Int) + o).toNat = pc') (hq : x = y) (g : OG p e below s n0 rc rs Q (T.setTop (mkF m (pc + 3) Ls st))) : OG p e below s n0 rc rs Q (T.setTop (mkF m pc Ls (.ref y :: .ref x :: st))) := by
  obtain ⟨⟨hx, hby, -⟩, -, locs, -, Y⟩ := X
  exact OG.pre (fun _ q => RoadKit.acmp Y hx rfl rfl rfl (pc0 := pc) (pc' := (pc + 3)) (same := true) rfl (hb hby hd) rfl (decide_eq_true (congrArg Value.ref hq)) hp.1 (by simp [acV]) q) g
theorem OG.acmp_ne_t (X : OS B mL own nm rt Z n0 p l e R s m args below meth c T h cells slots) {x y : Addr} {o : Int} {pc' : Nat} (hd : decode B pc = .ok (.if_acmp .ne o, 3)) (hp : 0 ≤ (pc : Int) + o ∧ ((pc : Int) + o).toNat = pc') (hq : ¬ x = y) (g : OG p e below s n0 rc rs Q (T.setTop (mkF m pc' Ls st))) : OG p e below s n0 rc rs Q (T.setTop (mkF m pc Ls (.ref y :: .ref x :: st))) := by
  obtain ⟨⟨hx, hby, -⟩, -, locs, -, Y⟩ := X
  exact OG.pre (fun _ q => RoadKit.acmp Y hx rfl rfl rfl (pc0 := pc) (pc' := pc') (same := false) rfl (hb hby hd) rfl (decide_eq_false fun q => hq (Value.ref.inj q)) hp.1 (by simp [acV, hp.2]) q) g
theorem OG.acmp_eq (X : OS B mL own nm rt Z n0 p l e R s m args below meth c T h cells slots) {x y : Addr} {o : Int} {pc' : Nat} (hd : decode B pc = .ok (.if_acmp .eq o, 3)) (hp : 0 ≤ (pc : Int) + o ∧ ((pc : Int) + o).toNat = pc') (g1 : x = y → OG p e below s n0 rc rs Q (T.setTop (mkF m pc' Ls st))) (g2 : ¬ x = y → OG p e below s n0 rc rs Q (T.setTop (mkF m (pc + 3) Ls st))) : OG p e below s n0 rc rs Q (T.setTop (mkF m pc Ls (.ref y :: .ref x :: st))) :=
  if hq : x = y then OG.acmp_eq_t X hd hp hq (g1 hq) else OG.acmp_eq_f X hd hp hq (g2 hq)
theorem OG.acmp_ne (X : OS B mL own nm rt Z n0 p l e R s m args below meth c T h cells slots) {x y : Addr} {o : Int} {pc' : Nat} (hd : decode B pc = .ok (.if_acmp .ne o, 3)) (hp : 0 ≤ (pc : Int) + o ∧ ((pc : Int) + o).toNat = pc') (g1 : x = y → OG p e below s n0 rc rs Q (T.setTop (mkF m (pc + 3) Ls st))) (g2 : ¬ x = y → OG p e below s n0 rc rs Q (T.setTop (mkF m pc' Ls st))) : OG p e below s n0 rc rs Q (T.setTop (mkF m pc Ls (.ref y :: .ref x :: st))) :=
  if hq : x = y then OG.acmp_ne_f X hd hp hq (g1 hq) else OG.acmp_ne_t X hd hp hq (g2 hq)
theorem OG.retI {z : Int32} (X : OS B mL own nm (some .int) Z n0 p l e R s m args below meth c T h cells slots) (hd : decode B pc = .ok (.ireturn, 1))  (hc : cells ≤ rc) (hs : slots ≤ rs) (hQ : Q (some (.int z)) h) : OG p e below s n0 rc rs Q (T.setTop (mkF m pc Ls (.int z :: st))) := by
  obtain ⟨⟨hx, hby, -, -, -, hrt, hlk, -⟩, eT, locs, N, Y⟩ := X
  obtain ⟨fs, hr, hrun, hended, hW, hsame⟩ := Y.leave (v := (some (.int z))) (fun q => by first | rfl | (rw [hrt] at q; cases q)) hlk
  refine ⟨_, _, ?_, hrun, hended, _, _, rfl, ⟨?_, N⟩, ⟨_, rfl⟩, hW, hsame.mono hc hs⟩
  · exact Jvm.RoadKit.retI Y hx hrt (hb hby hd) hr
  · show Q _ T.heap
    rw [eT]; exact hQ
theorem OG.retN {z : Int32} {t : FieldType} (X : OS B mL own nm (some t) Z n0 p l e R s m args below meth c T h cells slots) (hd : decode B pc = .ok (.ireturn, 1)) (ht : t = .boolean ∨ t = .byte ∨ t = .char ∨ t = .short) (hc : cells ≤ rc) (hs : slots ≤ rs) (hQ : Q (some (.int (nar t z))) h) : OG p e below s n0 rc rs Q (T.setTop (mkF m pc Ls (.int z :: st))) := by
  obtain ⟨⟨hx, hby, -, -, -, hrt, hlk, -⟩, eT, locs, N, Y⟩ := X
  obtain ⟨fs, hr, hrun, hended, hW, hsame⟩ := Y.leave (v := (some (.int (nar t z)))) (fun q => by first | rfl | (rw [hrt] at q; cases q)) hlk
  refine ⟨_, _, ?_, hrun, hended, _, _, rfl, ⟨?_, N⟩, ⟨_, rfl⟩, hW, hsame.mono hc hs⟩
  · exact Jvm.RoadKit.retN Y hx (t := t) hrt ht (hb hby hd) hr
  · show Q _ T.heap
    rw [eT]; exact hQ
theorem OG.retJ {z : Int64} (X : OS B mL own nm (some .long) Z n0 p l e R s m args below meth c T h cells slots) (hd : decode B pc = .ok (.lreturn, 1))  (hc : cells ≤ rc) (hs : slots ≤ rs) (hQ : Q (some (.long z)) h) : OG p e below s n0 rc rs Q (T.setTop (mkF m pc Ls (.long z :: st))) := by
  obtain ⟨⟨hx, hby, -, -, -, hrt, hlk, -⟩, eT, locs, N, Y⟩ := X
  obtain ⟨fs, hr, hrun, hended, hW, hsame⟩ := Y.leave (v := (some (.long z))) (fun q => by first | rfl | (rw [hrt] at q; cases q)) hlk
  refine ⟨_, _, ?_, hrun, hended, _, _, rfl, ⟨?_, N⟩, ⟨_, rfl⟩, hW, hsame.mono hc hs⟩
  · exact Jvm.RoadKit.retOut (t := .long) Y hx hrt rfl (Or.inr (Or.inl ⟨rfl, rfl, _, rfl⟩)) (hb hby hd) hr
  · show Q _ T.heap
    rw [eT]; exact hQ
theorem OG.retA {w : Value} {t : FieldType} (X : OS B mL own nm (some t) Z n0 p l e R s m args below meth c T h cells slots) (hd : decode B pc = .ok (.areturn, 1)) (ht : t.isReference = true) (hw : w.isRef = true) (hc : cells ≤ rc) (hs : slots ≤ rs) (hQ : Q (some w) h) : OG p e below s n0 rc rs Q (T.setTop (mkF m pc Ls (w :: st))) := by
  obtain ⟨⟨hx, hby, -, -, -, hrt, hlk, -⟩, eT, locs, N, Y⟩ := X
  obtain ⟨fs, hr, hrun, hended, hW, hsame⟩ := Y.leave (v := (some w)) (fun q => by first | rfl | (rw [hrt] at q; cases q)) hlk
  refine ⟨_, _, ?_, hrun, hended, _, _, rfl, ⟨?_, N⟩, ⟨_, rfl⟩, hW, hsame.mono hc hs⟩
  · exact Jvm.RoadKit.retOut (t := t) Y hx hrt (by rcases ref_cases hw with rfl | ⟨z, rfl⟩ <;> cases t <;> rfl) (Or.inr (Or.inr (Or.inr (Or.inr ⟨rfl, ht, hw⟩)))) (hb hby hd) hr
  · show Q _ T.heap
    rw [eT]; exact hQ
theorem OG.retV  (X : OS B mL own nm none Z n0 p l e R s m args below meth c T h cells slots) (hd : decode B pc = .ok (.return_, 1))  (hc : cells ≤ rc) (hs : slots ≤ rs) (hQ : Q none h) : OG p e below s n0 rc rs Q (T.setTop (mkF m pc Ls [])) := by
  obtain ⟨⟨hx, hby, -, -, -, hrt, hlk, -⟩, eT, locs, N, Y⟩ := X
  obtain ⟨fs, hr, hrun, hended, hW, hsame⟩ := Y.leave (v := none) (fun q => by first | rfl | (rw [hrt] at q; cases q)) hlk
  refine ⟨_, _, ?_, hrun, hended, _, _, rfl, ⟨?_, N⟩, ⟨_, rfl⟩, hW, hsame.mono hc hs⟩
  · exact Y.returnOut hx hrt (hb hby hd) hr
  · show Q _ T.heap
    rw [eT]; exact hQ
theorem OG.ldcInt (X : OS B mL own nm rt Z n0 p l e R s m args below meth c T h cells slots) {index : Nat} {v : Int32} (w : (Cond.constant own index v).before a0 Z = true) (hd : decode B pc = .ok (.ldc index, 2)) (g : OG p e below s n0 rc rs Q (T.setTop (mkF m (pc + 2) Ls (.int v :: st)))) : OG p e below s n0 rc rs Q (T.setTop (mkF m pc Ls st)) := by
  obtain ⟨⟨hx, hby, -, hown, -, -, -, hZ⟩, -, locs, -, Y⟩ := X
  exact OG.pre (fun _ k => Y.ldcInt hx hown (mvT hZ w) (g := mkF m pc Ls st) rfl (hb hby hd) _ k) g
theorem OG.ldcwInt (X : OS B mL own nm rt Z n0 p l e R s m args below meth c T h cells slots) {index : Nat} {v : Int32} (w : (Cond.constant own index v).before a0 Z = true) (hd : decode B pc = .ok (.ldc_w index, 3)) (g : OG p e below s n0 rc rs Q (T.setTop (mkF m (pc + 3) Ls (.int v :: st)))) : OG p e below s n0 rc rs Q (T.setTop (mkF m pc Ls st)) := by
  obtain ⟨⟨hx, hby, -, hown, -, -, -, hZ⟩, -, locs, -, Y⟩ := X
  exact OG.pre (fun _ k => Y.ldcwInt hx hown (mvT hZ w) (g := mkF m pc Ls st) rfl (hb hby hd) _ k) g
theorem OG.ldc2Long (X : OS B mL own nm rt Z n0 p l e R s m args below meth c T h cells slots) {index : Nat} {v : Int64} (w : (Cond.constantLong own index v).before a0 Z = true) (hd : decode B pc = .ok (.ldc2_w index, 3)) (g : OG p e below s n0 rc rs Q (T.setTop (mkF m (pc + 3) Ls (.long v :: st)))) : OG p e below s n0 rc rs Q (T.setTop (mkF m pc Ls st)) := by
  obtain ⟨⟨hx, hby, -, hown, -, -, -, hZ⟩, -, locs, -, Y⟩ := X
  exact OG.pre (fun _ k => Y.ldc2Long hx hown (mvT hZ w) (g := mkF m pc Ls st) rfl (hb hby hd) _ k) g
theorem OG.getF (X : OS B mL own nm rt Z n0 p l e R s m args below meth c T h cells slots) {R0 O n d host : String} {index : Nat} (w : (Cond.fieldLink own index R0 n d).before a0 Z = true ∨ (Cond.fieldLinkNest own index R0 n d host).before a0 Z = true) (via : Via Z R0 O n d) {a : Addr} {v : Value} (F : Fld Z h a O n d v) (hd : decode B pc = .ok (.getfield index, 3)) (g : ∀ T', OS B mL own nm rt Z n0 p l e R s m args below meth c T' h cells slots → OG p e below s n0 rc rs Q (T'.setTop (mkF m (pc + 3) Ls (v :: st)))) : OG p e below s n0 rc rs Q (T.setTop (mkF m pc Ls (.ref a :: st))) := by
  obtain ⟨h0, eT, locs, N, Y⟩ := X
  have h0' := h0
  obtain ⟨hx, hby, -, hown, -, -, -, hZ⟩ := h0'
  obtain ⟨T', Y', e', stp⟩ := RoadKit.getF Y hx hZ hown w via eT F (g := mkF m pc Ls (.ref a :: st)) rfl rfl (hb hby hd)
  exact OG.pre stp (g T' ⟨h0, e', locs, N, Y'⟩)
theorem OG.getS (X : OS B mL own nm rt Z n0 p l e R s m args below meth c T h cells slots) {R0 O n d host : String} {index : Nat} (w : (Cond.fieldLink own index R0 n d).before a0 Z = true ∨ (Cond.fieldLinkNest own index R0 n d host).before a0 Z = true) (via : Via Z R0 O n d) {v : Value} (F : Sta Z h O n d v) (hd : decode B pc = .ok (.getstatic index, 3)) (g : ∀ T', OS B mL own nm rt Z n0 p l e R s m args below meth c T' h cells slots → OG p e below s n0 rc rs Q (T'.setTop (mkF m (pc + 3) Ls (v :: st)))) : OG p e below s n0 rc rs Q (T.setTop (mkF m pc Ls st)) := by
  obtain ⟨h0, eT, locs, N, Y⟩ := X
  have h0' := h0
  obtain ⟨hx, hby, -, hown, -, -, -, hZ⟩ := h0'
  obtain ⟨T', Y', e', stp⟩ := RoadKit.getS2 Y hx hZ hown w via eT F (g := mkF m pc Ls st) rfl (hb hby hd)
  exact OG.pre stp (g T' ⟨h0, e', locs, N, Y'⟩)
theorem OG.putF (X : OS B mL own nm rt Z n0 p l e R s m args below meth c T h cells slots) {R0 O n d host C : String} {index kk : Nat} {ty : FieldType} (w : (Cond.fieldLink own index R0 n d).before a0 Z = true ∨ (Cond.fieldLinkNest own index R0 n d host).before a0 Z = true) (via : Via Z R0 O n d) {a : Addr} {v old : Value} (F : Fld Z h a O n d old) (E : Exa Z h a C) (L : (Cond.lays C O n d).before a0 Z = true ∨ ((Cond.laysFinal C O n d).before a0 Z = true ∧ own = O ∧ nm = "<init>")) (wi : (Cond.instantiable C kk).before a0 Z = true) (hty : parseFieldDescriptor d = some ty) (hn : narrow ty v = v) (hf : fits ty v = true) (hd : decode B pc = .ok (.putfield index, 3)) (ge : n0 ≤ a) (g : ∀ T' h', OS B mL own nm rt Z n0 p l e R s m args below meth c T' h' cells slots → Wr h h' a (slotOf Z O n d) v → OG p e below s n0 rc rs Q (T'.setTop (mkF m (pc + 3) Ls st))) : OG p e below s n0 rc rs Q (T.setTop (mkF m pc Ls (v :: .ref a :: st))) := by
  obtain ⟨h0, eT, locs, N, Y⟩ := X
  have h0' := h0
  obtain ⟨hx, hby, -, hown, hnm, -, -, hZ⟩ := h0'
  obtain ⟨T', h', Y', e', W, stp⟩ := RoadKit.putF Y hx hZ hown w via eT F E (L.imp id fun q => ⟨q.1, q.2.1, hnm.trans q.2.2⟩) wi hty hn hf (g := mkF m pc Ls (v :: .ref a :: st)) rfl rfl (hb hby hd)
  exact OG.pre stp (g T' h' ⟨h0, e', _, Fr.snoc Y' N ge, Y'⟩ W)
theorem OG.putFN (X : OS B mL own nm rt Z n0 p l e R s m args below meth c T h cells slots) {R0 O n d C : String} {index kk : Nat} {ty : FieldType} (w : (Cond.fieldLink own index R0 n d).before a0 Z = true) (via : Via Z R0 O n d) {a : Addr} {v v' old : Value} (F : Fld Z h a O n d old) (E : Exa Z h a C) (L : (Cond.lays C O n d).before a0 Z = true ∨ ((Cond.laysFinal C O n d).before a0 Z = true ∧ own = O ∧ nm = "<init>")) (wi : (Cond.instantiable C kk).before a0 Z = true) (hty : parseFieldDescriptor d = some ty) (hn : narrow ty v = v') (hf : fits ty v' = true) (hd : decode B pc = .ok (.putfield index, 3)) (ge : n0 ≤ a) (g : ∀ T' h', OS B mL own nm rt Z n0 p l e R s m args below meth c T' h' cells slots → Wr h h' a (slotOf Z O n d) v' → OG p e below s n0 rc rs Q (T'.setTop (mkF m (pc + 3) Ls st))) : OG p e below s n0 rc rs Q (T.setTop (mkF m pc Ls (v :: .ref a :: st))) := by
  obtain ⟨h0, eT, locs, N, Y⟩ := X
  have h0' := h0
  obtain ⟨hx, hby, -, hown, hnm, -, -, hZ⟩ := h0'
  obtain ⟨T', h', Y', e', W, stp⟩ := RoadKit.putFN Y hx hZ hown w via eT F E (L.imp id fun q => ⟨q.1, q.2.1, hnm.trans q.2.2⟩) wi hty hn hf (g := mkF m pc Ls (v :: .ref a :: st)) rfl rfl (hb hby hd)
  exact OG.pre stp (g T' h' ⟨h0, e', _, Fr.snoc Y' N ge, Y'⟩ W)
theorem OG.newO (X : OS B mL own nm rt Z n0 p l e R s m args below meth c T h cells slots) {C : String} {index n : Nat} (w : (Cond.classLink own index C).before a0 Z = true) (wi : (Cond.instantiable C n).before a0 Z = true) (wz : (Cond.initialized C).before a0 Z = true) (hd : decode B pc = .ok (.new index, 3)) (hc : cells + 1 ≤ R.cells) (hl : slots + n ≤ R.slots) (g : ∀ T' h' a, a = h.size → OS B mL own nm rt Z n0 p l e R s m args below meth c T' h' (cells + 1) (slots + n) → Ext h h' → Exa Z h' a C → (∀ {O nm d : String} {ty : FieldType}, Laid Z a0 C O nm d → parseFieldDescriptor d = some ty → Fld Z h' a O nm d (defaultValue ty)) → OG p e below s n0 rc rs Q (T'.setTop (mkF m (pc + 3) Ls (.ref a :: st)))) : OG p e below s n0 rc rs Q (T.setTop (mkF m pc Ls st)) := by
  obtain ⟨h0, eT, locs, N, Y⟩ := X
  have h0' := h0
  obtain ⟨hx, hby, -, hown, hnm, -, -, hZ⟩ := h0'
  obtain ⟨T', h', Y', e', E', A', D', -, stp⟩ := RoadKit.newO Y hx hZ hown w wi wz eT (g := mkF m pc Ls st) rfl (hb hby hd) hc hl
  exact OG.pre stp (g T' h' _ rfl ⟨h0, e', _, N, Y'⟩ E' A' D')
theorem OG.newP (X : OS B mL own nm rt Z n0 p l e R s m args below meth c T h cells slots) {aty : ArrayType} (w : (Cond.arrayClass (newarray.typeOf aty)).before a0 Z = true) {n : Int32} (hd : decode B pc = .ok (.newarray aty, 2)) (hn : ¬ n < 0) {cap : Nat} (hcap : n.toNatClampNeg ≤ cap) (hb8 : cap * 8 ≤ 536870912) (hc : cells + 1 ≤ R.cells) (hl : slots + cap ≤ R.slots) (g : ∀ T' h' a, a = h.size → OS B mL own nm rt Z n0 p l e R s m args below meth c T' h' (cells + 1) (slots + cap) → Ext h h' → (∃ cA, Arr Z h' a (newA cA (newarray.typeOf aty) n) (newarray.typeOf aty)) → OG p e below s n0 rc rs Q (T'.setTop (mkF m (pc + 2) Ls (.ref a :: st)))) : OG p e below s n0 rc rs Q (T.setTop (mkF m pc Ls (.int n :: st))) := by
  obtain ⟨h0, eT, locs, N, Y⟩ := X
  have h0' := h0
  obtain ⟨hx, hby, -, hown, hnm, -, -, hZ⟩ := h0'
  obtain ⟨T', h', cA, Y', e', E', A', stp⟩ := RoadKit.newP Y hx hZ w eT (g := mkF m pc Ls (.int n :: st)) rfl (hb hby hd) rfl hn hcap hb8 hc hl
  exact OG.pre stp (g T' h' _ rfl ⟨h0, e', _, N, Y'⟩ E' ⟨cA, A'⟩)
/-- an array of ints, bytes, chars, booleans: its length and what it holds -/
def Ia (Z : State) (h : Heap) (a : Addr) (ty : FieldType) (n : Nat) (f : Nat → Int32) : Prop := ∃ cl : Cell, Arr Z h a cl ty ∧ cl.slots.size = n ∧ n < 2 ^ 31 ∧ ∀ i, i < n → cl.slots[i]? = some (.int (f i))
variable {a b : Addr} {h' : Heap} {ty : FieldType} {n : Nat} {f : Nat → Int32} {sl : Nat} {v : Value} {wl : List Addr}
theorem Ia.lt (F : Ia Z h a ty n f) : a < h.size := by obtain ⟨c, A, -⟩ := F; exact A.lt
theorem Ia.ext (F : Ia Z h a ty n f) (E : Ext h h') : Ia Z h' a ty n f := by obtain ⟨c, A, r⟩ := F; exact ⟨c, A.ext E, r⟩
theorem Ia.other (F : Ia Z h b ty n f) (W : Wr h h' a sl v) (q : b ≠ a) : Ia Z h' b ty n f := by obtain ⟨c, A, r⟩ := F; exact ⟨c, A.other W q, r⟩
theorem Ia.keep (F : Ia Z h a ty n f) (K : Keep h h' wl) (q : a ∉ wl) : Ia Z h' a ty n f := by obtain ⟨c, A, r⟩ := F; exact ⟨c, ⟨K.2.1 a c A.1 q, A.2⟩, r⟩
theorem Ia.congr {f' : Nat → Int32} (F : Ia Z h a ty n f) (q : ∀ i, i < n → f i = f' i) : Ia Z h a ty n f' := by obtain ⟨c, A, r1, r2, r3⟩ := F; exact ⟨c, A, r1, r2, fun i hi => by rw [← q i hi]; exact r3 i hi⟩
theorem Ia.len (F : Ia Z h a ty n f) : n < 2 ^ 31 := by obtain ⟨c, A, r1, r2, r3⟩ := F; exact r2
theorem Ia.new {cA : ClassId} {k : Int32} (A : Arr Z h a (newA cA ty k) ty) (q : ¬ k < 0) (hk : k.toNatClampNeg = n) (hty : defaultValue ty = .int 0) : Ia Z h a ty n (fun _ => 0) := by
  subst hk
  refine ⟨_, A, sz_new _ _ _, ?_, fun i hi => ?_⟩
  · have := k.toInt_lt; simp only [Int32.toNatClampNeg]; omega
  · simp [newA, hi, hty]
theorem Ia.set {j : Nat} {x : Int32} (F : Ia Z h a ty n f) (W : Wr h h' a j (.int x)) : Ia Z h' a ty n (fun i => if i = j then x else f i) := by
  obtain ⟨c, A, r1, r2, r3⟩ := F
  refine ⟨_, A.same W, by rw [sz_set]; exact r1, r2, fun i hi => ?_⟩
  by_cases q : i = j
  · subst q; simp [Cell.setSlot, r1, hi]
  · have := r3 i hi
    simp only [Cell.setSlot, if_neg q]
    rw [Array.getElem?_setIfInBounds_ne (fun u => q u.symm)]; exact this
theorem idx32 {j : Int32} {n : Nat} (h1 : 0 ≤ j.toInt) (h2 : j.toInt < n) : ¬ (j < 0 ∨ n ≤ j.toNatClampNeg) := by
  have e0 : (0 : Int32).toInt = 0 := rfl
  simp only [Int32.lt_iff_toInt_lt, Int32.toNatClampNeg, e0]; omega
theorem len32 {n : Nat} (h : n < 2 ^ 31) : n.toInt32.toInt = n := Int32.toInt_ofNat_small h
theorem OG.iaload (X : OS B mL own nm rt Z n0 p l e R s m args below meth c T h cells slots) {a : Addr} {n : Nat} {f : Nat → Int32} (F : Ia Z h a .int n f) {j : Int32} (hj : 0 ≤ j.toInt ∧ j.toInt < n) (hd : decode B pc = .ok (.iaload, 1)) (g : OG p e below s n0 rc rs Q (T.setTop (mkF m (pc + 1) Ls (.int (f j.toInt.toNat) :: st)))) : OG p e below s n0 rc rs Q (T.setTop (mkF m pc Ls (.int j :: .ref a :: st))) := by
  obtain ⟨⟨hx, hby, -, -, -, -, -, hZ⟩, eT, locs, -, Y⟩ := X
  obtain ⟨cl, A, r1, r2, r3⟩ := F
  have hi := idx32 hj.1 hj.2
  have hq : j.toInt.toNat < n := by omega
  exact OG.pre (fun _ k => Y.iaload hx (j := j) (v := .int (f j.toInt.toNat)) (by rw [eT]; exact A.1) (State.isArrayOf_alike hZ.alike A.2.1) A.2.2 (by rw [r1]; exact hi) (r3 _ hq) (g := mkF m pc Ls (.int j :: .ref a :: st)) rfl rfl (hb hby hd) _ k) g
theorem OG.baload (X : OS B mL own nm rt Z n0 p l e R s m args below meth c T h cells slots) {a : Addr} {n : Nat} {f : Nat → Int32} (F : Ia Z h a .byte n f) {j : Int32} (hj : 0 ≤ j.toInt ∧ j.toInt < n) (hd : decode B pc = .ok (.baload, 1)) (g : OG p e below s n0 rc rs Q (T.setTop (mkF m (pc + 1) Ls (.int (f j.toInt.toNat) :: st)))) : OG p e below s n0 rc rs Q (T.setTop (mkF m pc Ls (.int j :: .ref a :: st))) := by
  obtain ⟨⟨hx, hby, -, -, -, -, -, hZ⟩, eT, locs, -, Y⟩ := X
  obtain ⟨cl, A, r1, r2, r3⟩ := F
  have hi := idx32 hj.1 hj.2
  have hq : j.toInt.toNat < n := by omega
  exact OG.pre (fun _ k => Y.baloadBytes hx (j := j) (v := .int (f j.toInt.toNat)) (by rw [eT]; exact A.1) (State.isArrayOf_alike hZ.alike A.2.1) A.2.2 (by rw [r1]; exact hi) (r3 _ hq) (g := mkF m pc Ls (.int j :: .ref a :: st)) rfl rfl (hb hby hd) _ k) g
theorem OG.zaload (X : OS B mL own nm rt Z n0 p l e R s m args below meth c T h cells slots) {a : Addr} {n : Nat} {f : Nat → Int32} (F : Ia Z h a .boolean n f) {j : Int32} (hj : 0 ≤ j.toInt ∧ j.toInt < n) (hd : decode B pc = .ok (.baload, 1)) (g : OG p e below s n0 rc rs Q (T.setTop (mkF m (pc + 1) Ls (.int (f j.toInt.toNat) :: st)))) : OG p e below s n0 rc rs Q (T.setTop (mkF m pc Ls (.int j :: .ref a :: st))) := by
  obtain ⟨⟨hx, hby, -, -, -, -, -, hZ⟩, eT, locs, -, Y⟩ := X
  obtain ⟨cl, A, r1, r2, r3⟩ := F
  have hi := idx32 hj.1 hj.2
  have hq : j.toInt.toNat < n := by omega
  exact OG.pre (fun _ k => Y.baloadBooleans hx (j := j) (v := .int (f j.toInt.toNat)) (by rw [eT]; exact A.1) (State.isArrayOf_alike hZ.alike A.2.1) A.2.2 (by rw [r1]; exact hi) (r3 _ hq) (g := mkF m pc Ls (.int j :: .ref a :: st)) rfl rfl (hb hby hd) _ k) g
theorem OG.caload (X : OS B mL own nm rt Z n0 p l e R s m args below meth c T h cells slots) {a : Addr} {n : Nat} {f : Nat → Int32} (F : Ia Z h a .char n f) {j : Int32} (hj : 0 ≤ j.toInt ∧ j.toInt < n) (hd : decode B pc = .ok (.caload, 1)) (g : OG p e below s n0 rc rs Q (T.setTop (mkF m (pc + 1) Ls (.int (f j.toInt.toNat) :: st)))) : OG p e below s n0 rc rs Q (T.setTop (mkF m pc Ls (.int j :: .ref a :: st))) := by
  obtain ⟨⟨hx, hby, -, -, -, -, -, hZ⟩, eT, locs, -, Y⟩ := X
  obtain ⟨cl, A, r1, r2, r3⟩ := F
  have hi := idx32 hj.1 hj.2
  have hq : j.toInt.toNat < n := by omega
  exact OG.pre (fun _ k => Y.caload hx (j := j) (v := .int (f j.toInt.toNat)) (by rw [eT]; exact A.1) (State.isArrayOf_alike hZ.alike A.2.1) A.2.2 (by rw [r1]; exact hi) (r3 _ hq) (g := mkF m pc Ls (.int j :: .ref a :: st)) rfl rfl (hb hby hd) _ k) g
theorem OG.saload (X : OS B mL own nm rt Z n0 p l e R s m args below meth c T h cells slots) {a : Addr} {n : Nat} {f : Nat → Int32} (F : Ia Z h a .short n f) {j : Int32} (hj : 0 ≤ j.toInt ∧ j.toInt < n) (hd : decode B pc = .ok (.saload, 1)) (g : OG p e below s n0 rc rs Q (T.setTop (mkF m (pc + 1) Ls (.int (f j.toInt.toNat) :: st)))) : OG p e below s n0 rc rs Q (T.setTop (mkF m pc Ls (.int j :: .ref a :: st))) := by
  obtain ⟨⟨hx, hby, -, -, -, -, -, hZ⟩, eT, locs, -, Y⟩ := X
  obtain ⟨cl, A, r1, r2, r3⟩ := F
  have hi := idx32 hj.1 hj.2
  have hq : j.toInt.toNat < n := by omega
  exact OG.pre (fun _ k => Y.saload hx (j := j) (v := .int (f j.toInt.toNat)) (by rw [eT]; exact A.1) (State.isArrayOf_alike hZ.alike A.2.1) A.2.2 (by rw [r1]; exact hi) (r3 _ hq) (g := mkF m pc Ls (.int j :: .ref a :: st)) rfl rfl (hb hby hd) _ k) g
theorem OG.arraylength (X : OS B mL own nm rt Z n0 p l e R s m args below meth c T h cells slots) {a : Addr} {ty : FieldType} {n : Nat} {f : Nat → Int32} (F : Ia Z h a ty n f) {z : Int32} (hz : z.toInt = n) (hd : decode B pc = .ok (.arraylength, 1)) (g : OG p e below s n0 rc rs Q (T.setTop (mkF m (pc + 1) Ls (.int z :: st)))) : OG p e below s n0 rc rs Q (T.setTop (mkF m pc Ls (.ref a :: st))) := by
  obtain ⟨⟨hx, hby, -, -, -, -, -, hZ⟩, eT, locs, -, Y⟩ := X
  obtain ⟨cl, A, r1, r2, r3⟩ := F
  have ez : cl.slots.size.toInt32 = z := by rw [← Int32.toInt_inj, r1, len32 r2, hz]
  exact OG.pre (fun _ k => Y.arraylength hx (by rw [eT]; exact A.1) (State.isArrayOf_alike hZ.alike A.2.1) (g := mkF m pc Ls (.ref a :: st)) rfl rfl (hb hby hd) _ (by rw [ez]; exact k)) g
theorem OG.iastore (X : OS B mL own nm rt Z n0 p l e R s m args below meth c T h cells slots) {a : Addr} {n : Nat} {f : Nat → Int32} (F : Ia Z h a .int n f) {j x : Int32} (hj : 0 ≤ j.toInt ∧ j.toInt < n) (hd : decode B pc = .ok (.iastore, 1)) (ge : n0 ≤ a) (g : ∀ T' h', OS B mL own nm rt Z n0 p l e R s m args below meth c T' h' cells slots → Wr h h' a j.toInt.toNat (.int (x)) → Ia Z h' a .int n (fun i => if i = j.toInt.toNat then x else f i) → OG p e below s n0 rc rs Q (T'.setTop (mkF m (pc + 1) Ls st))) : OG p e below s n0 rc rs Q (T.setTop (mkF m pc Ls (.int x :: .int j :: .ref a :: st))) := by
  obtain ⟨h0, eT, locs, N, Y⟩ := X
  have h0' := h0
  obtain ⟨hx, hby, -, hown, hnm, -, -, hZ⟩ := h0'
  have F' := F
  obtain ⟨cl, A, r1, r2, r3⟩ := F'
  obtain ⟨T', h', Y', e', W, stp⟩ := RoadKit.stI Y hx hZ eT A (j := j) (by rw [r1]; exact idx32 hj.1 hj.2) (g := mkF m pc Ls (.int x :: .int j :: .ref a :: st)) rfl rfl (hb hby hd)
  exact OG.pre stp (g T' h' ⟨h0, e', _, Fr.snoc Y' N ge, Y'⟩ W (F.set W))
theorem OG.bastore (X : OS B mL own nm rt Z n0 p l e R s m args below meth c T h cells slots) {a : Addr} {n : Nat} {f : Nat → Int32} (F : Ia Z h a .byte n f) {j x : Int32} (hj : 0 ≤ j.toInt ∧ j.toInt < n) (hd : decode B pc = .ok (.bastore, 1)) (ge : n0 ≤ a) (g : ∀ T' h', OS B mL own nm rt Z n0 p l e R s m args below meth c T' h' cells slots → Wr h h' a j.toInt.toNat (.int (x.toInt8.toInt32)) → Ia Z h' a .byte n (fun i => if i = j.toInt.toNat then x.toInt8.toInt32 else f i) → OG p e below s n0 rc rs Q (T'.setTop (mkF m (pc + 1) Ls st))) : OG p e below s n0 rc rs Q (T.setTop (mkF m pc Ls (.int x :: .int j :: .ref a :: st))) := by
  obtain ⟨h0, eT, locs, N, Y⟩ := X
  have h0' := h0
  obtain ⟨hx, hby, -, hown, hnm, -, -, hZ⟩ := h0'
  have F' := F
  obtain ⟨cl, A, r1, r2, r3⟩ := F'
  obtain ⟨T', h', Y', e', W, stp⟩ := RoadKit.stB Y hx hZ eT A (j := j) (by rw [r1]; exact idx32 hj.1 hj.2) (g := mkF m pc Ls (.int x :: .int j :: .ref a :: st)) rfl rfl (hb hby hd)
  exact OG.pre stp (g T' h' ⟨h0, e', _, Fr.snoc Y' N ge, Y'⟩ W (F.set W))
theorem OG.castore (X : OS B mL own nm rt Z n0 p l e R s m args below meth c T h cells slots) {a : Addr} {n : Nat} {f : Nat → Int32} (F : Ia Z h a .char n f) {j x : Int32} (hj : 0 ≤ j.toInt ∧ j.toInt < n) (hd : decode B pc = .ok (.castore, 1)) (ge : n0 ≤ a) (g : ∀ T' h', OS B mL own nm rt Z n0 p l e R s m args below meth c T' h' cells slots → Wr h h' a j.toInt.toNat (.int (x.toUInt32.toUInt16.toUInt32.toInt32)) → Ia Z h' a .char n (fun i => if i = j.toInt.toNat then x.toUInt32.toUInt16.toUInt32.toInt32 else f i) → OG p e below s n0 rc rs Q (T'.setTop (mkF m (pc + 1) Ls st))) : OG p e below s n0 rc rs Q (T.setTop (mkF m pc Ls (.int x :: .int j :: .ref a :: st))) := by
  obtain ⟨h0, eT, locs, N, Y⟩ := X
  have h0' := h0
  obtain ⟨hx, hby, -, hown, hnm, -, -, hZ⟩ := h0'
  have F' := F
  obtain ⟨cl, A, r1, r2, r3⟩ := F'
  obtain ⟨T', h', Y', e', W, stp⟩ := RoadKit.stC Y hx hZ eT A (j := j) (by rw [r1]; exact idx32 hj.1 hj.2) (g := mkF m pc Ls (.int x :: .int j :: .ref a :: st)) rfl rfl (hb hby hd)
  exact OG.pre stp (g T' h' ⟨h0, e', _, Fr.snoc Y' N ge, Y'⟩ W (F.set W))
theorem OG.zastore (X : OS B mL own nm rt Z n0 p l e R s m args below meth c T h cells slots) {a : Addr} {n : Nat} {f : Nat → Int32} (F : Ia Z h a .boolean n f) {j x : Int32} (hj : 0 ≤ j.toInt ∧ j.toInt < n) (hd : decode B pc = .ok (.bastore, 1)) (ge : n0 ≤ a) (g : ∀ T' h', OS B mL own nm rt Z n0 p l e R s m args below meth c T' h' cells slots → Wr h h' a j.toInt.toNat (.int (x &&& 1)) → Ia Z h' a .boolean n (fun i => if i = j.toInt.toNat then x &&& 1 else f i) → OG p e below s n0 rc rs Q (T'.setTop (mkF m (pc + 1) Ls st))) : OG p e below s n0 rc rs Q (T.setTop (mkF m pc Ls (.int x :: .int j :: .ref a :: st))) := by
  obtain ⟨h0, eT, locs, N, Y⟩ := X
  have h0' := h0
  obtain ⟨hx, hby, -, hown, hnm, -, -, hZ⟩ := h0'
  have F' := F
  obtain ⟨cl, A, r1, r2, r3⟩ := F'
  obtain ⟨T', h', Y', e', W, stp⟩ := RoadKit.stZ Y hx hZ eT A (j := j) (by rw [r1]; exact idx32 hj.1 hj.2) (g := mkF m pc Ls (.int x :: .int j :: .ref a :: st)) rfl rfl (hb hby hd)
  exact OG.pre stp (g T' h' ⟨h0, e', _, Fr.snoc Y' N ge, Y'⟩ W (F.set W))
theorem OG.callS (X : OS B mL own nm rt Z n0 p l e R s m args below meth c T h cells slots) {y : MethodName} {index : Nat} {Bc : ByteArray} {mc : Nat} {rtc : Option FieldType} {rmc : Room} {asc : Array Value} {Qc : Option Value → Heap → Prop} (w1 : (Cond.methodLink own index y).before a0 Z = true) (w2 : (Cond.static y).before a0 Z = true) (hy : y.cls ≠ "java/lang/invoke/MethodHandle" ∧ y.cls ≠ "java/lang/invoke/VarHandle") (hM : OM l y Bc mc rtc rmc [] Z asc h n0 Qc) (wc : (Cond.code y Bc mc rtc).before a0 Z = true) (wz : (Cond.initialized y.cls).before a0 Z = true) (hfr : rmc.frames + 1 ≤ R.frames) {W : Nat} (hlo : W + (mc + 11) + rmc.locals ≤ R.locals) (hsz : Ls.size = mL) {argsL : List Value} {ps : List FieldType} {rr : Option FieldType} (hpd : parseMethodDescriptor y.desc = some ⟨ps, rr⟩) (hlen : argsL.length = ps.length) (hd : decode B pc = .ok (.invokestatic index, 3)) (has : argsL.toArray = asc) (hW : (st.map fun v => v.category).sum ≤ W) (hcl : cells + rmc.cells ≤ R.cells) (hsl : slots + rmc.slots ≤ R.slots) (g : ∀ v T' h', OS B mL own nm rt Z n0 p l e R s m args below meth c T' h' (cells + rmc.cells) (slots + rmc.slots) → Qc v h' → OG p e below s n0 rc rs Q (T'.setTop (mkF m (pc + 3) Ls (v.toList ++ st)))) : OG p e below s n0 rc rs Q (T.setTop (mkF m pc Ls (argsL.reverse ++ st))) := by
  obtain ⟨h0, eT, locs, N, Y⟩ := X
  have h0' := h0
  obtain ⟨hx, hby, hml, hown, hnm, -, -, hZ⟩ := h0'
  obtain ⟨_, _, ⟨T', L', k', n'⟩, -, Y', ⟨Lc, hQ, q2, q3, q4⟩, stp⟩ := Jvm.LawKit.callS Y hx (y := y) hown (mvT hZ w1) (mvT hZ w2) (mvT hZ wz) (mvT hZ wc) hy (backOf (W := W) (Z := Z) (h := h) (rm := rmc) (as' := asc) (Q := fun v hh L => Qc v hh ∧ Fr n0 L) hM hZ wc wz hfr hlo) (g := mkF m pc Ls (argsL.reverse ++ st)) rfl (by rw [hml]; exact hsz) (argsL := argsL) (rest := st) (lenOf hpd hlen) rfl (by show 2 * 0 + _ ≤ _; omega) (hb hby hd) (fun _ _ => ⟨has, eT, hcl, hsl⟩)
  dsimp only [Pt.U, Pt.locs, Pt.cells, Pt.slots] at Y' q2 q3 q4 stp hQ
  subst q2 q3 q4
  exact OG.pre stp (g _ T' _ ⟨h0, rfl, _, Fr.app N hQ.2, Y'⟩ hQ.1)

theorem OG.callC (X : OS B mL own nm rt Z n0 p l e R s m args below meth c T h cells slots) {y : MethodName} {index : Nat} {Bc : ByteArray} {mc : Nat} {rmc : Room} {asc : Array Value} {Qc : Option Value → Heap → Prop} (hy1 : y.name = "<init>") (w1 : (Cond.methodLink own index y).before a0 Z = true) (w2 : (Cond.instanceMethod y).before a0 Z = true) (hy : y.cls ≠ "java/lang/invoke/MethodHandle" ∧ y.cls ≠ "java/lang/invoke/VarHandle") {a : Addr} (hM : OM l y Bc mc none rmc [] Z asc h n0 Qc) (wc : (Cond.code y Bc mc none).before a0 Z = true) (wz : (Cond.initialized y.cls).before a0 Z = true) (hfr : rmc.frames + 1 ≤ R.frames) {W : Nat} (hlo : W + (mc + 11) + rmc.locals ≤ R.locals) (hsz : Ls.size = mL) {argsL : List Value} {ps : List FieldType} {rr : Option FieldType} (hpd : parseMethodDescriptor y.desc = some ⟨ps, rr⟩) (hlen : argsL.length = ps.length) (hd : decode B pc = .ok (.invokespecial index, 3)) (has : (Value.ref a :: argsL).toArray = asc) (hW : (st.map fun v => v.category).sum ≤ W) (hcl : cells + rmc.cells ≤ R.cells) (hsl : slots + rmc.slots ≤ R.slots) (g : ∀ v T' h', OS B mL own nm rt Z n0 p l e R s m args below meth c T' h' (cells + rmc.cells) (slots + rmc.slots) → Qc v h' → OG p e below s n0 rc rs Q (T'.setTop (mkF m (pc + 3) Ls (v.toList ++ st)))) : OG p e below s n0 rc rs Q (T.setTop (mkF m pc Ls (argsL.reverse ++ .ref a :: st))) := by
  obtain ⟨h0, eT, locs, N, Y⟩ := X
  have h0' := h0
  obtain ⟨hx, hby, hml, hown, hnm, -, -, hZ⟩ := h0'
  obtain ⟨_, _, ⟨T', L', k', n'⟩, -, Y', ⟨Lc, hQ, q2, q3, q4⟩, stp⟩ := Y.specialBack hx (y := y) hy1 hown (mvT hZ w1) (mvT hZ w2) (mvT hZ wc) hy (backOf (W := W) (Z := Z) (h := h) (rm := rmc) (as' := asc) (Q := fun v hh L => Qc v hh ∧ Fr n0 L) hM hZ wc wz hfr hlo) (g := mkF m pc Ls (argsL.reverse ++ .ref a :: st)) rfl (by rw [hml]; exact hsz) (Steps.refl _) (a := a) (argsL := argsL) (rest := st) (lenOf hpd hlen) rfl (by show 2 * 0 + _ ≤ _; omega) (hb hby hd) (fun _ _ => ⟨has, eT, hcl, hsl⟩)
  dsimp only [Pt.U, Pt.locs, Pt.cells, Pt.slots] at Y' q2 q3 q4 stp hQ
  subst q2 q3 q4
  exact OG.pre (fun _ k => stp.trans k) (g _ T' _ ⟨h0, rfl, _, Fr.app N hQ.2, Y'⟩ hQ.1)

theorem OG.callV (X : OS B mL own nm rt Z n0 p l e R s m args below meth c T h cells slots) {y : MethodName} {index : Nat} {Bc : ByteArray} {mc : Nat} {rtc : Option FieldType} {rmc : Room} {asc : Array Value} {Qc : Option Value → Heap → Prop} {z : MethodName} {C : String} (w1 : (Cond.methodLink own index y).before a0 Z = true) (w2 : (Cond.declares y).before a0 Z = true) (w3 : NotFace s y) (w4 : (Cond.selects C y z).before a0 Z = true) (w5 : (Cond.instanceMethod z).before a0 Z = true) (hy : y.cls ≠ "java/lang/invoke/MethodHandle" ∧ y.cls ≠ "java/lang/invoke/VarHandle") {a : Addr} (E : Exa Z h a C) (hM : OM l z Bc mc rtc rmc [] Z asc h n0 Qc) (wc : (Cond.code z Bc mc rtc).before a0 Z = true) (wz : (Cond.initialized z.cls).before a0 Z = true) (hfr : rmc.frames + 1 ≤ R.frames) {W : Nat} (hlo : W + (mc + 11) + rmc.locals ≤ R.locals) (hsz : Ls.size = mL) {argsL : List Value} {ps : List FieldType} {rr : Option FieldType} (hpd : parseMethodDescriptor y.desc = some ⟨ps, rr⟩) (hlen : argsL.length = ps.length) (hd : decode B pc = .ok (.invokevirtual index, 3)) (has : (Value.ref a :: argsL).toArray = asc) (hW : (st.map fun v => v.category).sum ≤ W) (hcl : cells + rmc.cells ≤ R.cells) (hsl : slots + rmc.slots ≤ R.slots) (g : ∀ v T' h', OS B mL own nm rt Z n0 p l e R s m args below meth c T' h' (cells + rmc.cells) (slots + rmc.slots) → Qc v h' → OG p e below s n0 rc rs Q (T'.setTop (mkF m (pc + 3) Ls (v.toList ++ st)))) : OG p e below s n0 rc rs Q (T.setTop (mkF m pc Ls (argsL.reverse ++ .ref a :: st))) := by
  obtain ⟨h0, eT, locs, N, Y⟩ := X
  have h0' := h0
  obtain ⟨hx, hby, hml, hown, hnm, -, -, hZ⟩ := h0'
  obtain ⟨cq, kq, qa, qb, qc⟩ := isOf hZ eT E
  obtain ⟨_, _, ⟨T', L', k', n'⟩, -, Y', ⟨Lc, hQ, q2, q3, q4⟩, stp⟩ := Y.virtualBack hx (y := y) (z := z) hown (mvT hZ w1) (mvT hZ w2) w3 (mvT hZ w4) (mvT hZ w5) hy (backOf (W := W) (Z := Z) (h := h) (rm := rmc) (as' := asc) (Q := fun v hh L => Qc v hh ∧ Fr n0 L) hM hZ wc wz hfr hlo) qa qc (g := mkF m pc Ls (argsL.reverse ++ .ref a :: st)) rfl (by rw [hml]; exact hsz) (Steps.refl _) (argsL := argsL) (rest := st) (lenOf hpd hlen) rfl (by show 2 * 0 + _ ≤ _; omega) (hb hby hd) (fun _ _ => ⟨has, eT, hcl, hsl⟩)
  dsimp only [Pt.U, Pt.locs, Pt.cells, Pt.slots] at Y' q2 q3 q4 stp hQ
  subst q2 q3 q4
  exact OG.pre (fun _ k => stp.trans k) (g _ T' _ ⟨h0, rfl, _, Fr.app N hQ.2, Y'⟩ hQ.1)

theorem selP {y y' : MethodName} {args : Array Value} {s : State} (hc : y'.cls = y.cls) (w : (Cond.selects y'.cls y' y').before args s = true) (hp : s.PrivateAt y) (hi : (Cond.instanceMethod y).before args s = true) (hy : y.cls ≠ "java/lang/invoke/MethodHandle" ∧ y.cls ≠ "java/lang/invoke/VarHandle") : (Cond.selects y.cls y y).before args s = true := by
  obtain ⟨c2, r2, m2, q1, q2, q3, q4, kP, hkP, hkPi⟩ := Cond.selects_spec w
  exact selects_self_of_private (c := m2.cls) (by rw [← hc]; exact findClass_of_methodNamed q3) hkP hkPi hp hi hy
theorem OG.callP (X : OS B mL own nm rt Z n0 p l e R s m args below meth c T h cells slots) {y : MethodName} {index : Nat} {Bc : ByteArray} {mc : Nat} {rtc : Option FieldType} {rmc : Room} {asc : Array Value} {Qc : Option Value → Heap → Prop} {y' : MethodName} (w1 : (Cond.methodLink own index y).before a0 Z = true) (w2 : (Cond.instanceMethod y).before a0 Z = true) (hc' : y'.cls = y.cls) (w3 : (Cond.selects y'.cls y' y').before a0 Z = true) (w4 : (Cond.privateMethod y).before a0 Z = true) (hy : y.cls ≠ "java/lang/invoke/MethodHandle" ∧ y.cls ≠ "java/lang/invoke/VarHandle") {C : String} {a : Addr} (E : Exa Z h a C) (hM : OM l y Bc mc rtc rmc [] Z asc h n0 Qc) (wc : (Cond.code y Bc mc rtc).before a0 Z = true) (wz : (Cond.initialized y.cls).before a0 Z = true) (hfr : rmc.frames + 1 ≤ R.frames) {W : Nat} (hlo : W + (mc + 11) + rmc.locals ≤ R.locals) (hsz : Ls.size = mL) {argsL : List Value} {ps : List FieldType} {rr : Option FieldType} (hpd : parseMethodDescriptor y.desc = some ⟨ps, rr⟩) (hlen : argsL.length = ps.length) (hd : decode B pc = .ok (.invokevirtual index, 3)) (has : (Value.ref a :: argsL).toArray = asc) (hW : (st.map fun v => v.category).sum ≤ W) (hcl : cells + rmc.cells ≤ R.cells) (hsl : slots + rmc.slots ≤ R.slots) (g : ∀ v T' h', OS B mL own nm rt Z n0 p l e R s m args below meth c T' h' (cells + rmc.cells) (slots + rmc.slots) → Qc v h' → OG p e below s n0 rc rs Q (T'.setTop (mkF m (pc + 3) Ls (v.toList ++ st)))) : OG p e below s n0 rc rs Q (T.setTop (mkF m pc Ls (argsL.reverse ++ .ref a :: st))) := by
  obtain ⟨h0, eT, locs, N, Y⟩ := X
  have h0' := h0
  obtain ⟨hx, hby, hml, hown, hnm, -, -, hZ⟩ := h0'
  obtain ⟨cq, qa, qb⟩ := E.cell
  have hpr : s.PrivateAt y := Cond.privateMethod_at (mvP hZ w4 (args := #[]))
  obtain ⟨_, _, ⟨T', L', k', n'⟩, -, Y', ⟨Lc, hQ, q2, q3, q4⟩, stp⟩ := Y.privateBack hx (y := y) hown (mvT hZ w1) (mvT hZ w2) (selP hc' (mvT hZ w3) hpr (mvT hZ w2) hy) hpr (mvT hZ wc) hy (backOf (W := W) (Z := Z) (h := h) (rm := rmc) (as' := asc) (Q := fun v hh L => Qc v hh ∧ Fr n0 L) hM hZ wc wz hfr hlo) (g := mkF m pc Ls (argsL.reverse ++ .ref a :: st)) rfl (by rw [hml]; exact hsz) (Steps.refl _) (a := a) (by rw [eT]; exact qa) qb (argsL := argsL) (rest := st) (lenOf hpd hlen) rfl (by show 2 * 0 + _ ≤ _; omega) (hb hby hd) (fun _ _ => ⟨has, eT, hcl, hsl⟩)
  dsimp only [Pt.U, Pt.locs, Pt.cells, Pt.slots] at Y' q2 q3 q4 stp hQ
  subst q2 q3 q4
  exact OG.pre (fun _ k => stp.trans k) (g _ T' _ ⟨h0, rfl, _, Fr.app N hQ.2, Y'⟩ hQ.1)

theorem OG.initO (X : OS B mL own nm rt Z n0 p l e R s m args below meth c T h cells slots) {index : Nat} (w1 : (Cond.methodLink own index Lib.objectInit).before a0 Z = true) (w2 : (Cond.instanceMethod Lib.objectInit).before a0 Z = true) (w3 : (Cond.code Lib.objectInit ⟨#[0xb1]⟩ 1 none).before a0 Z = true) {a : Addr} (hd : decode B pc = .ok (.invokespecial index, 3)) (hsz : Ls.size = mL) (hf : 1 ≤ R.frames) {W : Nat} (hW : (st.map fun v => v.category).sum ≤ W) (hlo : W + 12 ≤ R.locals) (g : ∀ T', OS B mL own nm rt Z n0 p l e R s m args below meth c T' h cells slots → OG p e below s n0 rc rs Q (T'.setTop (mkF m (pc + 3) Ls st))) : OG p e below s n0 rc rs Q (T.setTop (mkF m pc Ls (.ref a :: st))) := by
  obtain ⟨h0, eT, locs, N, Y⟩ := X
  have h0' := h0
  obtain ⟨hx, hby, hml, hown, hnm, -, -, hZ⟩ := h0'
  obtain ⟨T', Y', e', stp⟩ := RoadKit.initO Y hx hZ hown w1 w2 w3 eT (g := mkF m pc Ls (.ref a :: st)) rfl (by rw [hml]; exact hsz) rfl (hb hby hd) hf (W := W) (by show 2 * 0 + _ ≤ _; omega) hlo
  exact OG.pre stp (g T' ⟨h0, e', _, N, Y'⟩)
theorem Ia.toArv (F : Ia Z h a .int n f) {z : Int32} (hz : z.toInt = n) : ∃ k, Arv Z h a k .int z ((List.range n).map fun i => .int (f i)) (.int 0) := by
  obtain ⟨c, A, r1, r2, r3⟩ := F
  refine ⟨c.cls, c, A, rfl, ?_, ?_, ?_, ?_⟩
  · rw [r1]; simp only [Int32.toNatClampNeg]; omega
  · rw [Int32.lt_iff_toInt_lt]; have : (0 : Int32).toInt = 0 := rfl
    omega
  · intro i hi; rw [r1] at hi; rw [r3 i hi]; simp [List.getD_eq_getElem?_getD, hi]
  · intro i hi; rw [r1] at hi; simp [List.getD_eq_getElem?_getD, hi, fits]
theorem Ia.ofArv {k : ClassId} {z : Int32} {vs : List Value} (W : Arv Z h a k .int z vs (.int 0)) (hz : z.toInt = n) (H : ∀ i, i < n → vs.getD i (.int 0) = .int (f i)) : Ia Z h a .int n f := by
  obtain ⟨c, A, -, S, -, Hs, -⟩ := W
  have hs : c.slots.size = n := by rw [S]; simp only [Int32.toNatClampNeg]; omega
  exact ⟨c, A, hs, by have := z.toInt_lt; omega, fun i hi => by rw [Hs i (by rw [hs]; exact hi), H i hi]⟩
theorem OG.arraycopyI (X : OS B mL own nm rt Z n0 p l e R s m args below meth c T h cells slots) {index : Nat} (w1 : (Cond.methodLink own index Jvm.Stand.acN).before a0 Z = true) (w2 : (Cond.native Jvm.Stand.acN).before a0 Z = true) (w3 : (Cond.static Jvm.Stand.acN).before a0 Z = true) (w4 : (Cond.initialized "java/lang/System").before a0 Z = true) {a b : Addr} {n n' : Nat} {f f' : Nat → Int32} (F : Ia Z h a .int n f) (G : Ia Z h b .int n' f') {nn : Int32} {q : Nat} (hq : nn.toInt = q) (h1 : q ≤ n) (h2 : q ≤ n') (ge : n0 ≤ b) (hd : decode B pc = .ok (.invokestatic index, 3)) (hsz : Ls.size = mL) (hf : 1 ≤ R.frames) {W : Nat} (hW : (st.map fun v => v.category).sum ≤ W) (hlo : W + 18 ≤ R.locals) (g : ∀ T' h', OS B mL own nm rt Z n0 p l e R s m args below meth c T' h' cells slots → Keep h h' [b] → Ia Z h' b .int n' (fun i => if i < q then f i else f' i) → OG p e below s n0 rc rs Q (T'.setTop (mkF m (pc + 3) Ls st))) : OG p e below s n0 rc rs Q (T.setTop (mkF m pc Ls (.int nn :: .int 0 :: .ref b :: .int 0 :: .ref a :: st))) := by
  obtain ⟨h0, eT, locs, N, Y⟩ := X
  have h0' := h0
  obtain ⟨hx, hby, hml, hown, hnm, -, -, hZ⟩ := h0'
  have la := F.len
  have lb := G.len
  obtain ⟨ka, VA⟩ := F.toArv (z := n.toInt32) (len32 la)
  obtain ⟨kb, VB⟩ := G.toArv (z := n'.toInt32) (len32 lb)
  have e0 : (0 : Int32).toNatClampNeg = 0 := rfl
  have eq : nn.toNatClampNeg = q := by simp only [Int32.toNatClampNeg]; omega
  have ea : n.toInt32.toNatClampNeg = n := by simp only [Int32.toNatClampNeg, len32 la]; omega
  have eb : n'.toInt32.toNatClampNeg = n' := by simp only [Int32.toNatClampNeg, len32 lb]; omega
  have hnn : ¬ nn < 0 := by rw [Int32.lt_iff_toInt_lt]; have : (0 : Int32).toInt = 0 := rfl; omega
  obtain ⟨T', h', L, Y', e', N', K, V, stp⟩ := cpA Y hx hZ hown w1 w2 w3 w4 eT VA VB (Or.inl ⟨rfl, rfl⟩) (sp := 0) (dp := 0) (nn := nn) (by decide) (by decide) hnn (by rw [e0, eq, ea]; omega) (by rw [e0, eq, eb]; omega) rfl (by rw [e0, eq]; simp; omega) N ge (g := mkF m pc Ls (.int nn :: .int 0 :: .ref b :: .int 0 :: .ref a :: st)) rfl (by rw [hml]; exact hsz) rfl (hb hby hd) hf (W := W) (by show 2 * 0 + _ ≤ _; omega) (by exact hlo)
  refine OG.pre stp (g T' h' ⟨h0, e', L, N', Y'⟩ K (Ia.ofArv V (len32 lb) (fun i hi => ?_)))
  rw [e0, eq]
  by_cases hi2 : i < q
  · simp [List.getD_eq_getElem?_getD, List.getElem?_append, hi2, Nat.lt_of_lt_of_le hi2 h1]
  · simp [List.getD_eq_getElem?_getD, List.getElem?_append, hi2, hi, show q + (i - q) = i by omega]
end OwnKit
end Jvm.RoadKit

namespace Jvm.Pilot.@@N@@
open Jvm Jvm.ClassFile Sem Op Lib Jvm.Free Jvm.Stand Jvm.LawKit Jvm.RoadKit Bundle Jvm.Pilot.@@N@@.Jvm.D
def fi (f : Nat → Int32) (o : Int32) : Int32 := f o.toInt.toNat &&& 255
def sz (f : Nat → Int32) (o : Int32) : Int32 := fi f o &&& 127
def lp (f : Nat → Int32) (o q : Int32) : Nat → Int32 → Int32 → Int32
  | 0, len, _ => len
  | k + 1, len, i => if q < i then len else lp f o q k ((len <<< ((8 : Int32) &&& 31)) ||| (f (o + i).toInt.toNat &&& 255)) (i + 1)
def LA (f : Nat → Int32) (o z : Int32) : Int32 := if o < z then (if fi f o < 128 then fi f o else if z < o + 1 + sz f o then -1 else lp f o (sz f o) 5 0 1) else -1
theorem own_fi (f : Nat → Int32) (o : Int32) : (fi f o).toInt = (f o.toInt.toNat).toInt % 256 := c_mask _ 255 8 (by decide) (by decide)
theorem own_sz (f : Nat → Int32) (o : Int32) : (sz f o).toInt = (fi f o).toInt % 128 := c_mask _ 127 7 (by decide) (by decide)
theorem own_add {o i : Int32} (h1 : 0 ≤ o.toInt ∧ o.toInt ≤ 100) (h2 : 0 ≤ i.toInt ∧ i.toInt ≤ 200) : (o + i).toInt = o.toInt + i.toInt := by
  have := c_iadd o i
  have := rng32 (o + i)
  omega
theorem own_ne0 {q : Int32} (h : 1 ≤ q.toInt ∧ q.toInt ≤ 4) : ¬ q = 0 := fun e => by
  rw [e] at h; revert h; decide
theorem own_le4 {q : Int32} (h : 1 ≤ q.toInt ∧ q.toInt ≤ 4) : ¬ 4 < q := by
  rw [Int32.lt_iff_toInt_lt]; have : (4 : Int32).toInt = 4 := rfl
  omega
theorem own_le {a b : Int32} (h : ¬ a < b) : b.toInt ≤ a.toInt := by
  rw [Int32.lt_iff_toInt_lt] at h; omega
theorem d8_0 : decode prog_46_method_3_code 0 = .ok (.aload_n 0, 1) := by decide +kernel
theorem d8_1 : decode prog_46_method_3_code 1 = .ok (.iload_n 1, 1) := by decide +kernel
theorem d8_2 : decode prog_46_method_3_code 2 = .ok (.baload, 1) := by decide +kernel
theorem d8_3 : decode prog_46_method_3_code 3 = .ok (.sipush 255, 3) := by decide +kernel
theorem d8_6 : decode prog_46_method_3_code 6 = .ok (.iand, 1) := by decide +kernel
theorem d8_7 : decode prog_46_method_3_code 7 = .ok (.istore_n 2, 1) := by decide +kernel
theorem d8_8 : decode prog_46_method_3_code 8 = .ok (.iload_n 2, 1) := by decide +kernel
theorem d8_9 : decode prog_46_method_3_code 9 = .ok (.sipush 128, 3) := by decide +kernel
theorem d8_12 : decode prog_46_method_3_code 12 = .ok (.if_icmp .ge 7, 3) := by decide +kernel
theorem d8_19 : decode prog_46_method_3_code 19 = .ok (.iconst 1, 1) := by decide +kernel
theorem d8_20 : decode prog_46_method_3_code 20 = .ok (.iload_n 2, 1) := by decide +kernel
theorem d8_21 : decode prog_46_method_3_code 21 = .ok (.bipush 127, 2) := by decide +kernel
theorem d8_23 : decode prog_46_method_3_code 23 = .ok (.iand, 1) := by decide +kernel
theorem d8_24 : decode prog_46_method_3_code 24 = .ok (.iadd, 1) := by decide +kernel
theorem d8_25 : decode prog_46_method_3_code 25 = .ok (.ireturn, 1) := by decide +kernel
theorem d8_15 : decode prog_46_method_3_code 15 = .ok (.iconst 1, 1) := by decide +kernel
theorem d8_16 : decode prog_46_method_3_code 16 = .ok (.goto 9, 3) := by decide +kernel
def F8 (o : Int32) (f : Nat → Int32) : Int32 := (if ((f o.toInt.toNat) &&& (255 : Int32)) < (128 : Int32) then (1 : Int32) else ((1 : Int32) + (((f o.toInt.toNat) &&& (255 : Int32)) &&& (127 : Int32))))
theorem pn_8 : plainName "com/example/resolvent/resolvent/ldap/Ber" = true := by first | (simp [plainName, overriddenIn]; done) | decide +kernel
theorem ef_8 (m : MethodId) (a : Addr) (o : Int32) : entryFrame m #[(.ref a), (.int o)] 3 = mkF m 0 #[.val (.ref a), .val (.int o), .unset] [] := by first | (simp [entryFrame, mkF, argsToLocals, Value.category]; done) | rfl
def Q8 (Z : State) (a : Addr) (o : Int32) (f : Nat → Int32) (h0 : Heap) : Option Value → Heap → Prop := fun v h => v = some (.int (F8 o f)) ∧ h = h0
abbrev room8 : Room := { frames := 0, cells := 0, slots := 0, locals := 0 }
set_option maxRecDepth 65536 in
set_option maxHeartbeats 40000000 in
theorem rm8 (l : Launch) (Z : State) (a0 : Array Value) (hw : ∀ d ∈ tables_1, d.before a0 Z = true) (ws : List Jvm.Cond) (a : Addr) (o : Int32) (f : Nat → Int32) (h0 : Heap) (n0 : Nat) (A_a : Ia Z h0 a .byte 8 f) (ho : 0 ≤ o.toInt ∧ o.toInt < (8 : Nat)) :
    OM l (⟨"com/example/resolvent/resolvent/ldap/Ber", "lengthSize", "([BI)I"⟩ : MethodName) prog_46_method_3_code 3 (some .int) room8 ws Z #[(.ref a), (.int o)] h0 n0 (Q8 Z a o f h0) := by
  refine OM.of (plainFor_of_name pn_8) (fun m => ef_8 m a o) ?_
  intro p e s m below meth c T X
  refine OG.aloadN X d8_0 rfl rfl ?_
  refine OG.iloadN X d8_1 rfl ?_
  refine OG.baload X A_a ho d8_2 ?_
  refine OG.sipush X d8_3 (z := (255 : Int32)) rfl ?_
  refine OG.iand X d8_6 ?_
  refine OG.istoreN X d8_7 (l' := #[.val (.ref a), .val (.int o), .val (.int ((f o.toInt.toNat) &&& (255 : Int32)))]) rfl ?_
  refine OG.iloadN X d8_8 rfl ?_
  refine OG.sipush X d8_9 (z := (128 : Int32)) rfl ?_
  refine OG.icmp_ge X d8_12 (pc' := 19) (by decide) ?_ ?_
  · intro c12
    refine OG.iconst X d8_19 (z := (1 : Int32)) rfl ?_
    refine OG.iloadN X d8_20 rfl ?_
    refine OG.bipush X d8_21 (z := (127 : Int32)) rfl ?_
    refine OG.iand X d8_23 ?_
    refine OG.iadd X d8_24 ?_
    exact OG.retI X d8_25 (by decide) (by decide) ⟨by rw [F8, if_neg c12]; try rfl, rfl⟩
  · intro c12
    refine OG.iconst X d8_15 (z := (1 : Int32)) rfl ?_
    refine OG.goto X d8_16 (pc' := 25) (by decide) ?_
    exact OG.retI X d8_25 (by decide) (by decide) ⟨by rw [F8, if_pos c12]; try rfl, rfl⟩
theorem pn_7 : plainName "com/example/resolvent/resolvent/ldap/Ber" = true := by first | (simp [plainName, overriddenIn]; done) | decide +kernel
theorem ef_7 (m : MethodId) (a : Addr) (o : Int32) (z : Int32) : entryFrame m #[(.ref a), (.int o), (.int z)] 7 = mkF m 0 #[.val (.ref a), .val (.int o), .val (.int z), .unset, .unset, .unset, .unset] [] := by first | (simp [entryFrame, mkF, argsToLocals, Value.category]; done) | rfl
def Q7 (Z : State) (a : Addr) (o : Int32) (z : Int32) (f : Nat → Int32) (h0 : Heap) : Option Value → Heap → Prop := fun v h => v = some (.int (LA f o z)) ∧ h = h0
theorem d7_0 : decode prog_46_method_2_code 0 = .ok (.iload_n 1, 1) := by decide +kernel
theorem d7_1 : decode prog_46_method_2_code 1 = .ok (.iload_n 2, 1) := by decide +kernel
theorem d7_2 : decode prog_46_method_2_code 2 = .ok (.if_icmp .lt 5, 3) := by decide +kernel
theorem d7_7 : decode prog_46_method_2_code 7 = .ok (.aload_n 0, 1) := by decide +kernel
theorem d7_8 : decode prog_46_method_2_code 8 = .ok (.iload_n 1, 1) := by decide +kernel
theorem d7_9 : decode prog_46_method_2_code 9 = .ok (.baload, 1) := by decide +kernel
theorem d7_10 : decode prog_46_method_2_code 10 = .ok (.sipush 255, 3) := by decide +kernel
theorem d7_13 : decode prog_46_method_2_code 13 = .ok (.iand, 1) := by decide +kernel
theorem d7_14 : decode prog_46_method_2_code 14 = .ok (.istore_n 3, 1) := by decide +kernel
theorem d7_15 : decode prog_46_method_2_code 15 = .ok (.iload_n 3, 1) := by decide +kernel
theorem d7_16 : decode prog_46_method_2_code 16 = .ok (.sipush 128, 3) := by decide +kernel
theorem d7_19 : decode prog_46_method_2_code 19 = .ok (.if_icmp .ge 5, 3) := by decide +kernel
theorem d7_24 : decode prog_46_method_2_code 24 = .ok (.iload_n 3, 1) := by decide +kernel
theorem d7_25 : decode prog_46_method_2_code 25 = .ok (.bipush 127, 2) := by decide +kernel
theorem d7_27 : decode prog_46_method_2_code 27 = .ok (.iand, 1) := by decide +kernel
theorem d7_28 : decode prog_46_method_2_code 28 = .ok (.istore 4, 2) := by decide +kernel
theorem d7_30 : decode prog_46_method_2_code 30 = .ok (.iload 4, 2) := by decide +kernel
theorem d7_32 : decode prog_46_method_2_code 32 = .ok (.ifCond .eq 9, 3) := by decide +kernel
theorem d7_35 : decode prog_46_method_2_code 35 = .ok (.iload 4, 2) := by decide +kernel
theorem d7_37 : decode prog_46_method_2_code 37 = .ok (.iconst 4, 1) := by decide +kernel
theorem d7_38 : decode prog_46_method_2_code 38 = .ok (.if_icmp .le 19, 3) := by decide +kernel
theorem d7_57 : decode prog_46_method_2_code 57 = .ok (.iload_n 1, 1) := by decide +kernel
theorem d7_58 : decode prog_46_method_2_code 58 = .ok (.iconst 1, 1) := by decide +kernel
theorem d7_59 : decode prog_46_method_2_code 59 = .ok (.iadd, 1) := by decide +kernel
theorem d7_60 : decode prog_46_method_2_code 60 = .ok (.iload 4, 2) := by decide +kernel
theorem d7_62 : decode prog_46_method_2_code 62 = .ok (.iadd, 1) := by decide +kernel
theorem d7_63 : decode prog_46_method_2_code 63 = .ok (.iload_n 2, 1) := by decide +kernel
theorem d7_64 : decode prog_46_method_2_code 64 = .ok (.if_icmp .le 5, 3) := by decide +kernel
theorem d7_69 : decode prog_46_method_2_code 69 = .ok (.iconst 0, 1) := by decide +kernel
theorem d7_70 : decode prog_46_method_2_code 70 = .ok (.istore 5, 2) := by decide +kernel
theorem d7_72 : decode prog_46_method_2_code 72 = .ok (.iconst 1, 1) := by decide +kernel
theorem d7_73 : decode prog_46_method_2_code 73 = .ok (.istore 6, 2) := by decide +kernel
theorem d7_75 : decode prog_46_method_2_code 75 = .ok (.iload 6, 2) := by decide +kernel
theorem d7_77 : decode prog_46_method_2_code 77 = .ok (.iload 4, 2) := by decide +kernel
theorem d7_79 : decode prog_46_method_2_code 79 = .ok (.if_icmp .gt 27, 3) := by decide +kernel
theorem d7_106 : decode prog_46_method_2_code 106 = .ok (.iload 5, 2) := by decide +kernel
theorem d7_108 : decode prog_46_method_2_code 108 = .ok (.ifCond .ge 9, 3) := by decide +kernel
theorem d7_117 : decode prog_46_method_2_code 117 = .ok (.iload 5, 2) := by decide +kernel
theorem d7_119 : decode prog_46_method_2_code 119 = .ok (.ireturn, 1) := by decide +kernel
theorem d7_82 : decode prog_46_method_2_code 82 = .ok (.iload 5, 2) := by decide +kernel
theorem d7_84 : decode prog_46_method_2_code 84 = .ok (.bipush 8, 2) := by decide +kernel
theorem d7_86 : decode prog_46_method_2_code 86 = .ok (.ishl, 1) := by decide +kernel
theorem d7_87 : decode prog_46_method_2_code 87 = .ok (.aload_n 0, 1) := by decide +kernel
theorem d7_88 : decode prog_46_method_2_code 88 = .ok (.iload_n 1, 1) := by decide +kernel
theorem d7_89 : decode prog_46_method_2_code 89 = .ok (.iload 6, 2) := by decide +kernel
theorem d7_91 : decode prog_46_method_2_code 91 = .ok (.iadd, 1) := by decide +kernel
theorem d7_92 : decode prog_46_method_2_code 92 = .ok (.baload, 1) := by decide +kernel
theorem d7_93 : decode prog_46_method_2_code 93 = .ok (.sipush 255, 3) := by decide +kernel
theorem d7_96 : decode prog_46_method_2_code 96 = .ok (.iand, 1) := by decide +kernel
theorem d7_97 : decode prog_46_method_2_code 97 = .ok (.ior, 1) := by decide +kernel
theorem d7_98 : decode prog_46_method_2_code 98 = .ok (.istore 5, 2) := by decide +kernel
theorem d7_100 : decode prog_46_method_2_code 100 = .ok (.iinc 6 1, 3) := by decide +kernel
theorem d7_103 : decode prog_46_method_2_code 103 = .ok (.goto (-28), 3) := by decide +kernel
theorem d7_67 : decode prog_46_method_2_code 67 = .ok (.iconst (-1), 1) := by decide +kernel
theorem d7_68 : decode prog_46_method_2_code 68 = .ok (.ireturn, 1) := by decide +kernel
theorem d7_22 : decode prog_46_method_2_code 22 = .ok (.iload_n 3, 1) := by decide +kernel
theorem d7_23 : decode prog_46_method_2_code 23 = .ok (.ireturn, 1) := by decide +kernel
theorem d7_5 : decode prog_46_method_2_code 5 = .ok (.iconst (-1), 1) := by decide +kernel
theorem d7_6 : decode prog_46_method_2_code 6 = .ok (.ireturn, 1) := by decide +kernel
abbrev room7 : Room := { frames := 0, cells := 0, slots := 0, locals := 0 }
set_option maxRecDepth 65536 in
set_option maxHeartbeats 40000000 in
theorem rm7 (l : Launch) (Z : State) (a0 : Array Value) (hw : ∀ d ∈ tables_1, d.before a0 Z = true) (ws : List Jvm.Cond) (a : Addr) (o : Int32) (z : Int32) (f : Nat → Int32) (h0 : Heap) (n0 : Nat) (A_a : Ia Z h0 a .byte 8 f) (ho : 0 ≤ o.toInt ∧ o.toInt < (8 : Nat)) (hsz : ¬ fi f o < 128 → 1 ≤ (sz f o).toInt ∧ (sz f o).toInt ≤ 4) (ho4 : ¬ fi f o < 128 → o.toInt + (sz f o).toInt < (8 : Nat)) (hpos : ¬ fi f o < 128 → ¬ lp f o (sz f o) 5 0 1 < 0) :
    OM l (⟨"com/example/resolvent/resolvent/ldap/Ber", "lengthAt", "([BII)I"⟩ : MethodName) prog_46_method_2_code 7 (some .int) room7 ws Z #[(.ref a), (.int o), (.int z)] h0 n0 (Q7 Z a o z f h0) := by
  refine OM.of (plainFor_of_name pn_7) (fun m => ef_7 m a o z) ?_
  intro p e s m below meth c T X
  refine OG.iloadN X d7_0 rfl ?_
  refine OG.iloadN X d7_1 rfl ?_
  refine OG.icmp_lt X d7_2 (pc' := 7) (by decide) ?_ ?_
  · intro c2
    refine OG.aloadN X d7_7 rfl rfl ?_
    refine OG.iloadN X d7_8 rfl ?_
    refine OG.baload X A_a ho d7_9 ?_
    refine OG.sipush X d7_10 (z := (255 : Int32)) rfl ?_
    refine OG.iand X d7_13 ?_
    show OG p e below s n0 room7.cells room7.slots (Q7 Z a o z f h0) (T.setTop (mkF m 14 #[.val (.ref a), .val (.int o), .val (.int z), .unset, .unset, .unset, .unset] [(.int (fi f o))]))
    refine OG.istoreN X d7_14 (l' := #[.val (.ref a), .val (.int o), .val (.int z), .val (.int (fi f o)), .unset, .unset, .unset]) rfl ?_
    refine OG.iloadN X d7_15 rfl ?_
    refine OG.sipush X d7_16 (z := (128 : Int32)) rfl ?_
    refine OG.icmp_ge X d7_19 (pc' := 24) (by decide) ?_ ?_
    · intro c19
      refine OG.iloadN X d7_24 rfl ?_
      refine OG.bipush X d7_25 (z := (127 : Int32)) rfl ?_
      refine OG.iand X d7_27 ?_
      show OG p e below s n0 room7.cells room7.slots (Q7 Z a o z f h0) (T.setTop (mkF m 28 #[.val (.ref a), .val (.int o), .val (.int z), .val (.int (fi f o)), .unset, .unset, .unset] [(.int (sz f o))]))
      refine OG.istore X d7_28 (l' := #[.val (.ref a), .val (.int o), .val (.int z), .val (.int (fi f o)), .val (.int (sz f o)), .unset, .unset]) rfl ?_
      refine OG.iload X d7_30 rfl ?_
      refine OG.if_eq_f X d7_32 (own_ne0 (hsz c19)) ?_
      refine OG.iload X d7_35 rfl ?_
      refine OG.iconst X d7_37 (z := (4 : Int32)) rfl ?_
      refine OG.icmp_le_t X d7_38 (pc' := 57) (by decide) (own_le4 (hsz c19)) ?_
      refine OG.iloadN X d7_57 rfl ?_
      refine OG.iconst X d7_58 (z := (1 : Int32)) rfl ?_
      refine OG.iadd X d7_59 ?_
      refine OG.iload X d7_60 rfl ?_
      refine OG.iadd X d7_62 ?_
      refine OG.iloadN X d7_63 rfl ?_
      refine OG.icmp_le X d7_64 (pc' := 69) (by decide) ?_ ?_
      · intro c64
        refine OG.iconst X d7_69 (z := (0 : Int32)) rfl ?_
        refine OG.istore X d7_70 (l' := #[.val (.ref a), .val (.int o), .val (.int z), .val (.int (fi f o)), .val (.int (sz f o)), .val (.int (0 : Int32)), .unset]) rfl ?_
        refine OG.iconst X d7_72 (z := (1 : Int32)) rfl ?_
        refine OG.istore X d7_73 (l' := #[.val (.ref a), .val (.int o), .val (.int z), .val (.int (fi f o)), .val (.int (sz f o)), .val (.int (0 : Int32)), .val (.int (1 : Int32))]) rfl ?_
        have loop1 : ∀ (k : Nat) (Tloop1 : State) (len : Int32) (i : Int32), OS prog_46_method_2_code 7 "com/example/resolvent/resolvent/ldap/Ber" "lengthAt" (some .int) Z n0 p l e room7 s m #[(.ref a), (.int o), (.int z)] below meth c Tloop1 h0 0 0 → ((sz f o).toInt + 1 - i.toInt).toNat < k → 1 ≤ i.toInt ∧ i.toInt ≤ 5 → lp f o (sz f o) k len i = lp f o (sz f o) 5 0 1 → OG p e below s n0 room7.cells room7.slots (Q7 Z a o z f h0) (Tloop1.setTop (mkF m 75 #[.val (.ref a), .val (.int o), .val (.int z), .val (.int (fi f o)), .val (.int (sz f o)), .val (.int len), .val (.int i)] [])) := by
          intro k
          induction k with
          | zero => intro Tloop1 len i Xloop1 hk; exact absurd hk (Nat.not_lt_zero _)
          | succ k ih =>
            intro Tloop1 len i Xloop1 hk hi hv
            refine OG.iload Xloop1 d7_75 rfl ?_
            refine OG.iload Xloop1 d7_77 rfl ?_
            refine OG.icmp_gt Xloop1 d7_79 (pc' := 106) (by decide) ?_ ?_
            · intro c79
              have hlen : len = lp f o (sz f o) 5 0 1 := by rw [← hv, lp, if_pos c79]
              refine OG.iload Xloop1 d7_106 rfl ?_
              refine OG.if_ge_t Xloop1 d7_108 (pc' := 117) (by decide) (by rw [hlen]; exact hpos c19) ?_
              refine OG.iload Xloop1 d7_117 rfl ?_
              exact OG.retI Xloop1 d7_119 (by decide) (by decide) ⟨by rw [LA, if_pos c2, if_neg c19, if_neg c64, ← hlen], rfl⟩
            · intro c79
              refine OG.iload Xloop1 d7_82 rfl ?_
              refine OG.bipush Xloop1 d7_84 (z := (8 : Int32)) rfl ?_
              refine OG.ishl Xloop1 d7_86 ?_
              refine OG.aloadN Xloop1 d7_87 rfl rfl ?_
              refine OG.iloadN Xloop1 d7_88 rfl ?_
              refine OG.iload Xloop1 d7_89 rfl ?_
              refine OG.iadd Xloop1 d7_91 ?_
              refine OG.baload Xloop1 A_a (by have := own_le c79; have e := own_add (o := o) (i := i) (by omega) (by omega); have := ho4 c19; omega) d7_92 ?_
              refine OG.sipush Xloop1 d7_93 (z := (255 : Int32)) rfl ?_
              refine OG.iand Xloop1 d7_96 ?_
              refine OG.ior Xloop1 d7_97 ?_
              refine OG.istore Xloop1 d7_98 (l' := #[.val (.ref a), .val (.int o), .val (.int z), .val (.int (fi f o)), .val (.int (sz f o)), .val (.int ((len <<< ((8 : Int32) &&& 31)) ||| ((f (o + i).toInt.toNat) &&& (255 : Int32)))), .val (.int i)]) rfl ?_
              refine OG.iinc Xloop1 d7_100 rfl (z := (1 : Int32)) rfl (l' := #[.val (.ref a), .val (.int o), .val (.int z), .val (.int (fi f o)), .val (.int (sz f o)), .val (.int ((len <<< ((8 : Int32) &&& 31)) ||| ((f (o + i).toInt.toNat) &&& (255 : Int32)))), .val (.int (i + (1 : Int32)))]) rfl ?_
              refine OG.goto Xloop1 d7_103 (pc' := 75) (by decide) ?_
              exact ih Tloop1 ((len <<< ((8 : Int32) &&& 31)) ||| ((f (o + i).toInt.toNat) &&& (255 : Int32))) (i + (1 : Int32)) Xloop1 (by have := own_le c79; have e := own_add (o := i) (i := 1) (by omega) (by decide); have e1 : (1 : Int32).toInt = 1 := rfl; have := hsz c19; omega) (by have := own_le c79; have e := own_add (o := i) (i := 1) (by omega) (by decide); have e1 : (1 : Int32).toInt = 1 := rfl; have := hsz c19; omega) (by rw [← hv, lp, if_neg c79])
        exact loop1 5 T (0 : Int32) (1 : Int32) X (by have := hsz c19; have e1 : (1 : Int32).toInt = 1 := rfl; omega) (by decide) rfl
      · intro c64
        refine OG.iconst X d7_67 (z := (-1 : Int32)) rfl ?_
        exact OG.retI X d7_68 (by decide) (by decide) ⟨by rw [LA, if_pos c2, if_neg c19, if_pos c64], rfl⟩
    · intro c19
      refine OG.iloadN X d7_22 rfl ?_
      exact OG.retI X d7_23 (by decide) (by decide) ⟨by rw [LA, if_pos c2, if_pos c19], rfl⟩
  · intro c2
    refine OG.iconst X d7_5 (z := (-1 : Int32)) rfl ?_
    exact OG.retI X d7_6 (by decide) (by decide) ⟨by rw [LA, if_neg c2], rfl⟩
theorem own_byte {f : Nat → Int32} {j : Nat} : 0 ≤ (f j &&& 255).toInt ∧ (f j &&& 255).toInt < 256 := by
  have := c_and (f j) 255 (by decide)
  have e : (255 : Int32).toInt = 255 := rfl
  omega
theorem own_sh {len y : Int32} {M : Int} (h : 0 ≤ len.toInt ∧ len.toInt < M) (hM : M ≤ 8388608) (hy : 0 ≤ y.toInt ∧ y.toInt < 256) : 0 ≤ ((len <<< ((8 : Int32) &&& 31)) ||| y).toInt ∧ ((len <<< ((8 : Int32) &&& 31)) ||| y).toInt < M * 256 := by
  have h1 := c_ishl len 8 8 (by decide)
  have h2 := rng32 (len <<< ((8 : Int32) &&& 31))
  have h0 : ((2 ^ 8 : Nat) : Int) = 256 := by decide
  rw [h0] at h1
  have h3 : (len <<< ((8 : Int32) &&& 31)).toInt = len.toInt * 256 := by omega
  have h4 := c_or (len <<< ((8 : Int32) &&& 31)) y 8 (by decide) 256 (by decide) (by omega) hy.1 hy.2
  have h5 := rng32 ((len <<< ((8 : Int32) &&& 31)) ||| y)
  omega
theorem own_lpo {f : Nat → Int32} {o q : Int32} (hq : 1 ≤ q.toInt ∧ q.toInt ≤ 4) (h1 : (f (o + 1).toInt.toNat &&& 255).toInt < 128) : ¬ lp f o q 5 0 1 < 0 := by
  have hc : q = 1 ∨ q = 2 ∨ q = 3 ∨ q = 4 := by
    simp only [← Int32.toInt_inj]
    have e1 : (1 : Int32).toInt = 1 := rfl
    have e2 : (2 : Int32).toInt = 2 := rfl
    have e3 : (3 : Int32).toInt = 3 := rfl
    have e4 : (4 : Int32).toInt = 4 := rfl
    omega
  have a1 : (0 : Int32) <<< ((8 : Int32) &&& 31) ||| (f (o + 1).toInt.toNat &&& 255) = f (o + 1).toInt.toNat &&& 255 := by
    rw [show (0 : Int32) <<< ((8 : Int32) &&& 31) = 0 from by decide]; exact Int32.zero_or
  have b1 : 0 ≤ (f (o + 1).toInt.toNat &&& 255).toInt ∧ (f (o + 1).toInt.toNat &&& 255).toInt < 128 := ⟨own_byte.1, h1⟩
  have b2 := own_sh b1 (by decide) (own_byte (f := f) (j := (o + 2).toInt.toNat))
  have b3 := own_sh b2 (by decide) (own_byte (f := f) (j := (o + 3).toInt.toNat))
  have b4 := own_sh b3 (by decide) (own_byte (f := f) (j := (o + 4).toInt.toNat))
  have s1 : (1 : Int32) + 1 = 2 := rfl
  have s2 : (2 : Int32) + 1 = 3 := rfl
  have s3 : (3 : Int32) + 1 = 4 := rfl
  have s4 : (4 : Int32) + 1 = 5 := rfl
  have e0 : (0 : Int32).toInt = 0 := rfl
  rcases hc with rfl | rfl | rfl | rfl
  · rw [lp, if_neg (by decide), a1, s1, lp, if_pos (by decide), Int32.lt_iff_toInt_lt]; omega
  · rw [lp, if_neg (by decide), a1, s1, lp, if_neg (by decide), s2, lp, if_pos (by decide), Int32.lt_iff_toInt_lt]; omega
  · rw [lp, if_neg (by decide), a1, s1, lp, if_neg (by decide), s2, lp, if_neg (by decide), s3, lp, if_pos (by decide), Int32.lt_iff_toInt_lt]; omega
  · rw [lp, if_neg (by decide), a1, s1, lp, if_neg (by decide), s2, lp, if_neg (by decide), s3, lp, if_neg (by decide), s4, lp, if_pos (by decide), Int32.lt_iff_toInt_lt]; omega
theorem pn_1 : plainName "com/example/resolvent/resolvent/ldap/Ber$Reader" = true := by first | (simp [plainName, overriddenIn]; done) | decide +kernel
theorem ef_1 (m : MethodId) (a : Addr) (b : Addr) (o : Int32) (n : Int32) : entryFrame m #[(.ref a), (.ref b), (.int o), (.int n)] 4 = mkF m 0 #[.val (.ref a), .val (.ref b), .val (.int o), .val (.int n)] [] := by first | (simp [entryFrame, mkF, argsToLocals, Value.category]; done) | rfl
def Q1 (Z : State) (a : Addr) (b : Addr) (o : Int32) (n : Int32)  (h0 : Heap) : Option Value → Heap → Prop := fun v h => v = none ∧ Keep h0 h [a] ∧ Exa Z h a "com/example/resolvent/resolvent/ldap/Ber$Reader" ∧ Fld Z h a "com/example/resolvent/resolvent/ldap/Ber$Reader" "bytes" "[B" (.ref b) ∧ Fld Z h a "com/example/resolvent/resolvent/ldap/Ber$Reader" "at" "I" (.int o) ∧ Fld Z h a "com/example/resolvent/resolvent/ldap/Ber$Reader" "end" "I" (.int (o + n))
theorem d1_0 : decode prog_47_method_1_code 0 = .ok (.aload_n 0, 1) := by decide +kernel
theorem d1_1 : decode prog_47_method_1_code 1 = .ok (.invokespecial 1, 3) := by decide +kernel
theorem d1_4 : decode prog_47_method_1_code 4 = .ok (.aload_n 0, 1) := by decide +kernel
theorem d1_5 : decode prog_47_method_1_code 5 = .ok (.aload_n 1, 1) := by decide +kernel
theorem d1_6 : decode prog_47_method_1_code 6 = .ok (.putfield 7, 3) := by decide +kernel
theorem d1_9 : decode prog_47_method_1_code 9 = .ok (.aload_n 0, 1) := by decide +kernel
theorem d1_10 : decode prog_47_method_1_code 10 = .ok (.iload_n 2, 1) := by decide +kernel
theorem d1_11 : decode prog_47_method_1_code 11 = .ok (.putfield 13, 3) := by decide +kernel
theorem d1_14 : decode prog_47_method_1_code 14 = .ok (.aload_n 0, 1) := by decide +kernel
theorem d1_15 : decode prog_47_method_1_code 15 = .ok (.iload_n 2, 1) := by decide +kernel
theorem d1_16 : decode prog_47_method_1_code 16 = .ok (.iload_n 3, 1) := by decide +kernel
theorem d1_17 : decode prog_47_method_1_code 17 = .ok (.iadd, 1) := by decide +kernel
theorem d1_18 : decode prog_47_method_1_code 18 = .ok (.putfield 17, 3) := by decide +kernel
theorem d1_21 : decode prog_47_method_1_code 21 = .ok (.return_, 1) := by decide +kernel
abbrev room1 : Room := { frames := 1, cells := 0, slots := 0, locals := 12 }
set_option maxRecDepth 65536 in
set_option maxHeartbeats 40000000 in
theorem rm1 (l : Launch) (Z : State) (a0 : Array Value) (hw : ∀ d ∈ tables_1, d.before a0 Z = true) (ws : List Jvm.Cond) (a : Addr) (b : Addr) (o : Int32) (n : Int32)  (h0 : Heap) (n0 : Nat) (Z0 : n0 ≤ h0.size) (E_a : Exa Z h0 a "com/example/resolvent/resolvent/ldap/Ber$Reader") (g_a : n0 ≤ a) (F_bytes_a : Fld Z h0 a "com/example/resolvent/resolvent/ldap/Ber$Reader" "bytes" "[B" .null) (F_at_a : Fld Z h0 a "com/example/resolvent/resolvent/ldap/Ber$Reader" "at" "I" (.int (0 : Int32))) (F_end_a : Fld Z h0 a "com/example/resolvent/resolvent/ldap/Ber$Reader" "end" "I" (.int (0 : Int32))) :
    OM l (⟨"com/example/resolvent/resolvent/ldap/Ber$Reader", "<init>", "([BII)V"⟩ : MethodName) prog_47_method_1_code 4 none room1 ws Z #[(.ref a), (.ref b), (.int o), (.int n)] h0 n0 (Q1 Z a b o n  h0) := by
  refine OM.of (plainFor_of_name pn_1) (fun m => ef_1 m a b o n) ?_
  intro p e s m below meth c T X
  have K0 : Keep h0 h0 [a] := Keep.refl _ _
  refine OG.aloadN X d1_0 rfl rfl ?_
  refine OG.initO X (hw _ (List.mem_of_getElem? (i := 7) rfl)) (hw _ (List.mem_of_getElem? (i := 8) rfl)) (hw _ (List.mem_of_getElem? (i := 9) rfl)) d1_1 rfl (by decide) (W := 0) (Nat.le_of_eq rfl) (by decide) ?_
  intro T1 X1
  refine OG.aloadN X1 d1_4 rfl rfl ?_
  refine OG.aloadN X1 d1_5 rfl rfl ?_
  refine OG.putF X1 (host := "") (Or.inl (hw _ (List.mem_of_getElem? (i := 10) rfl))) Via.refl F_bytes_a E_a (Or.inr ⟨(hw _ (List.mem_of_getElem? (i := 11) rfl)), rfl, rfl⟩) (hw _ (List.mem_of_getElem? (i := 2) rfl)) (ty := (.array .byte)) (by decide) rfl rfl d1_6 g_a ?_
  intro T2 h3 X2 W4
  replace E_a := E_a.wr W4
  replace Z0 := Nat.le_trans Z0 (Keep.of_wr W4).1
  replace K0 := K0.wr W4 (Or.inl (by simp))
  replace F_bytes_a := F_bytes_a.same W4
  replace F_at_a := F_at_a.other W4 (Or.inr (slot_ne (Or.inl (hw _ (List.mem_of_getElem? (i := 13) rfl))) (Or.inr (hw _ (List.mem_of_getElem? (i := 11) rfl))) (by decide) (t := .int) (t' := (.array .byte)) (by decide) (by decide)))
  replace F_end_a := F_end_a.other W4 (Or.inr (slot_ne (Or.inr (hw _ (List.mem_of_getElem? (i := 15) rfl))) (Or.inr (hw _ (List.mem_of_getElem? (i := 11) rfl))) (by decide) (t := .int) (t' := (.array .byte)) (by decide) (by decide)))
  refine OG.aloadN X2 d1_9 rfl rfl ?_
  refine OG.iloadN X2 d1_10 rfl ?_
  refine OG.putF X2 (host := "") (Or.inl (hw _ (List.mem_of_getElem? (i := 12) rfl))) Via.refl F_at_a E_a (Or.inl (hw _ (List.mem_of_getElem? (i := 13) rfl))) (hw _ (List.mem_of_getElem? (i := 2) rfl)) (ty := .int) (by decide) rfl rfl d1_11 g_a ?_
  intro T5 h6 X5 W7
  replace E_a := E_a.wr W7
  replace Z0 := Nat.le_trans Z0 (Keep.of_wr W7).1
  replace K0 := K0.wr W7 (Or.inl (by simp))
  replace F_bytes_a := F_bytes_a.other W7 (Or.inr (slot_ne (Or.inr (hw _ (List.mem_of_getElem? (i := 11) rfl))) (Or.inl (hw _ (List.mem_of_getElem? (i := 13) rfl))) (by decide) (t := (.array .byte)) (t' := .int) (by decide) (by decide)))
  replace F_at_a := F_at_a.same W7
  replace F_end_a := F_end_a.other W7 (Or.inr (slot_ne (Or.inr (hw _ (List.mem_of_getElem? (i := 15) rfl))) (Or.inl (hw _ (List.mem_of_getElem? (i := 13) rfl))) (by decide) (t := .int) (t' := .int) (by decide) (by decide)))
  refine OG.aloadN X5 d1_14 rfl rfl ?_
  refine OG.iloadN X5 d1_15 rfl ?_
  refine OG.iloadN X5 d1_16 rfl ?_
  refine OG.iadd X5 d1_17 ?_
  refine OG.putF X5 (host := "") (Or.inl (hw _ (List.mem_of_getElem? (i := 14) rfl))) Via.refl F_end_a E_a (Or.inr ⟨(hw _ (List.mem_of_getElem? (i := 15) rfl)), rfl, rfl⟩) (hw _ (List.mem_of_getElem? (i := 2) rfl)) (ty := .int) (by decide) rfl rfl d1_18 g_a ?_
  intro T8 h9 X8 W10
  replace E_a := E_a.wr W10
  replace Z0 := Nat.le_trans Z0 (Keep.of_wr W10).1
  replace K0 := K0.wr W10 (Or.inl (by simp))
  replace F_bytes_a := F_bytes_a.other W10 (Or.inr (slot_ne (Or.inr (hw _ (List.mem_of_getElem? (i := 11) rfl))) (Or.inr (hw _ (List.mem_of_getElem? (i := 15) rfl))) (by decide) (t := (.array .byte)) (t' := .int) (by decide) (by decide)))
  replace F_at_a := F_at_a.other W10 (Or.inr (slot_ne (Or.inl (hw _ (List.mem_of_getElem? (i := 13) rfl))) (Or.inr (hw _ (List.mem_of_getElem? (i := 15) rfl))) (by decide) (t := .int) (t' := .int) (by decide) (by decide)))
  replace F_end_a := F_end_a.same W10
  exact OG.retV X8 d1_21 (by decide) (by decide) ⟨rfl, K0, E_a, F_bytes_a, F_at_a, F_end_a⟩
theorem d3_0 : decode prog_47_method_2_code 0 = .ok (.aload_n 0, 1) := by decide +kernel
theorem d3_1 : decode prog_47_method_2_code 1 = .ok (.getfield 13, 3) := by decide +kernel
theorem d3_4 : decode prog_47_method_2_code 4 = .ok (.iload_n 1, 1) := by decide +kernel
theorem d3_5 : decode prog_47_method_2_code 5 = .ok (.if_icmp .ge 7, 3) := by decide +kernel
theorem d3_12 : decode prog_47_method_2_code 12 = .ok (.iconst 0, 1) := by decide +kernel
theorem d3_13 : decode prog_47_method_2_code 13 = .ok (.ireturn, 1) := by decide +kernel
theorem d3_8 : decode prog_47_method_2_code 8 = .ok (.iconst 1, 1) := by decide +kernel
theorem d3_9 : decode prog_47_method_2_code 9 = .ok (.goto 4, 3) := by decide +kernel
def F3 (x : Int32) (o : Int32) : Int32 := (if o < x then (1 : Int32) else (0 : Int32))
theorem pn_3 : plainName "com/example/resolvent/resolvent/ldap/Ber$Reader" = true := by first | (simp [plainName, overriddenIn]; done) | decide +kernel
theorem ef_3 (m : MethodId) (a : Addr) (x : Int32) : entryFrame m #[(.ref a), (.int x)] 2 = mkF m 0 #[.val (.ref a), .val (.int x)] [] := by first | (simp [entryFrame, mkF, argsToLocals, Value.category]; done) | rfl
def Q3 (Z : State) (a : Addr) (x : Int32) (o : Int32) (h0 : Heap) : Option Value → Heap → Prop := fun v h => v = some (.int (F3 x o)) ∧ h = h0
abbrev room3 : Room := { frames := 0, cells := 0, slots := 0, locals := 0 }
set_option maxRecDepth 65536 in
set_option maxHeartbeats 40000000 in
theorem rm3 (l : Launch) (Z : State) (a0 : Array Value) (hw : ∀ d ∈ tables_1, d.before a0 Z = true) (ws : List Jvm.Cond) (a : Addr) (x : Int32) (o : Int32) (h0 : Heap) (n0 : Nat) (F_at_a : Fld Z h0 a "com/example/resolvent/resolvent/ldap/Ber$Reader" "at" "I" (.int o)) :
    OM l (⟨"com/example/resolvent/resolvent/ldap/Ber$Reader", "before", "(I)Z"⟩ : MethodName) prog_47_method_2_code 2 (some .boolean) room3 ws Z #[(.ref a), (.int x)] h0 n0 (Q3 Z a x o h0) := by
  refine OM.of (plainFor_of_name pn_3) (fun m => ef_3 m a x) ?_
  intro p e s m below meth c T X
  refine OG.aloadN X d3_0 rfl rfl ?_
  refine OG.getF X (host := "") (Or.inl (hw _ (List.mem_of_getElem? (i := 12) rfl))) Via.refl F_at_a d3_1 ?_
  intro T1 X1
  refine OG.iloadN X1 d3_4 rfl ?_
  refine OG.icmp_ge X1 d3_5 (pc' := 12) (by decide) ?_ ?_
  · intro c5
    refine OG.iconst X1 d3_12 (z := (0 : Int32)) rfl ?_
    exact OG.retN X1 (t := .boolean) d3_13 (by simp) (by decide) (by decide) ⟨by rw [F3, if_neg c5]; try rfl, rfl⟩
  · intro c5
    refine OG.iconst X1 d3_8 (z := (1 : Int32)) rfl ?_
    refine OG.goto X1 d3_9 (pc' := 13) (by decide) ?_
    exact OG.retN X1 (t := .boolean) d3_13 (by simp) (by decide) (by decide) ⟨by rw [F3, if_pos c5]; try rfl, rfl⟩
theorem pn_6 : plainName "com/example/resolvent/resolvent/ldap/Ber$Reader" = true := by first | (simp [plainName, overriddenIn]; done) | decide +kernel
theorem ef_6 (m : MethodId) (a : Addr) : entryFrame m #[(.ref a)] 1 = mkF m 0 #[.val (.ref a)] [] := by first | (simp [entryFrame, mkF, argsToLocals, Value.category]; done) | rfl
def Q6 (Z : State) (a : Addr) (b : Addr) (o z : Int32) (f : Nat → Int32) (h0 : Heap) : Option Value → Heap → Prop := fun v h => v = some (.int (fi f o)) ∧ h = h0
theorem d6_0 : decode prog_47_method_3_code 0 = .ok (.aload_n 0, 1) := by decide +kernel
theorem d6_1 : decode prog_47_method_3_code 1 = .ok (.getfield 13, 3) := by decide +kernel
theorem d6_4 : decode prog_47_method_3_code 4 = .ok (.aload_n 0, 1) := by decide +kernel
theorem d6_5 : decode prog_47_method_3_code 5 = .ok (.getfield 17, 3) := by decide +kernel
theorem d6_8 : decode prog_47_method_3_code 8 = .ok (.if_icmp .lt 9, 3) := by decide +kernel
theorem d6_17 : decode prog_47_method_3_code 17 = .ok (.aload_n 0, 1) := by decide +kernel
theorem d6_18 : decode prog_47_method_3_code 18 = .ok (.getfield 7, 3) := by decide +kernel
theorem d6_21 : decode prog_47_method_3_code 21 = .ok (.aload_n 0, 1) := by decide +kernel
theorem d6_22 : decode prog_47_method_3_code 22 = .ok (.getfield 13, 3) := by decide +kernel
theorem d6_25 : decode prog_47_method_3_code 25 = .ok (.baload, 1) := by decide +kernel
theorem d6_26 : decode prog_47_method_3_code 26 = .ok (.sipush 255, 3) := by decide +kernel
theorem d6_29 : decode prog_47_method_3_code 29 = .ok (.iand, 1) := by decide +kernel
theorem d6_30 : decode prog_47_method_3_code 30 = .ok (.ireturn, 1) := by decide +kernel
abbrev room6 : Room := { frames := 0, cells := 0, slots := 0, locals := 0 }
set_option maxRecDepth 65536 in
set_option maxHeartbeats 40000000 in
theorem rm6 (l : Launch) (Z : State) (a0 : Array Value) (hw : ∀ d ∈ tables_1, d.before a0 Z = true) (ws : List Jvm.Cond) (a : Addr) (b : Addr) (o z : Int32) (f : Nat → Int32) (h0 : Heap) (n0 : Nat) (Z0 : n0 ≤ h0.size) (E_a : Exa Z h0 a "com/example/resolvent/resolvent/ldap/Ber$Reader") (g_a : n0 ≤ a) (F_bytes_a : Fld Z h0 a "com/example/resolvent/resolvent/ldap/Ber$Reader" "bytes" "[B" (.ref b)) (F_at_a : Fld Z h0 a "com/example/resolvent/resolvent/ldap/Ber$Reader" "at" "I" (.int o)) (F_end_a : Fld Z h0 a "com/example/resolvent/resolvent/ldap/Ber$Reader" "end" "I" (.int z)) (A_b : Ia Z h0 b .byte 8 f) (n_b : b ≠ a) (hlt : o < z) (hin : 0 ≤ o.toInt ∧ o.toInt < (8 : Nat)) :
    OM l (⟨"com/example/resolvent/resolvent/ldap/Ber$Reader", "peekTag", "()I"⟩ : MethodName) prog_47_method_3_code 1 (some .int) room6 ws Z #[(.ref a)] h0 n0 (Q6 Z a b o z f h0) := by
  refine OM.of (plainFor_of_name pn_6) (fun m => ef_6 m a) ?_
  intro p e s m below meth c T X
  refine OG.aloadN X d6_0 rfl rfl ?_
  refine OG.getF X (host := "") (Or.inl (hw _ (List.mem_of_getElem? (i := 12) rfl))) Via.refl F_at_a d6_1 ?_
  intro T1 X1
  refine OG.aloadN X1 d6_4 rfl rfl ?_
  refine OG.getF X1 (host := "") (Or.inl (hw _ (List.mem_of_getElem? (i := 14) rfl))) Via.refl F_end_a d6_5 ?_
  intro T2 X2
  refine OG.icmp_lt_t X2 d6_8 (pc' := 17) (by decide) hlt ?_
  refine OG.aloadN X2 d6_17 rfl rfl ?_
  refine OG.getF X2 (host := "") (Or.inl (hw _ (List.mem_of_getElem? (i := 10) rfl))) Via.refl F_bytes_a d6_18 ?_
  intro T3 X3
  refine OG.aloadN X3 d6_21 rfl rfl ?_
  refine OG.getF X3 (host := "") (Or.inl (hw _ (List.mem_of_getElem? (i := 12) rfl))) Via.refl F_at_a d6_22 ?_
  intro T4 X4
  refine OG.baload X4 A_b hin d6_25 ?_
  refine OG.sipush X4 d6_26 (z := (255 : Int32)) rfl ?_
  refine OG.iand X4 d6_29 ?_
  exact OG.retI X4 d6_30 (by decide) (by decide) ⟨rfl, rfl⟩
theorem own_fi0 (f : Nat → Int32) (o : Int32) : ¬ fi f o < 0 := by
  rw [Int32.lt_iff_toInt_lt]
  have := own_fi f o
  have e : (0 : Int32).toInt = 0 := rfl
  omega
theorem pn_5 : plainName "com/example/resolvent/resolvent/ldap/Ber$Reader" = true := by first | (simp [plainName, overriddenIn]; done) | decide +kernel
theorem ef_5 (m : MethodId) (a : Addr) (t : Int32) : entryFrame m #[(.ref a), (.int t)] 3 = mkF m 0 #[.val (.ref a), .val (.int t), .unset] [] := by first | (simp [entryFrame, mkF, argsToLocals, Value.category]; done) | rfl
def Q5 (Z : State) (a : Addr) (t : Int32) (b : Addr) (o z : Int32) (f : Nat → Int32) (h0 : Heap) : Option Value → Heap → Prop := fun v h => v = some (.int (fi f (o + 1))) ∧ Keep h0 h [a] ∧ Exa Z h a "com/example/resolvent/resolvent/ldap/Ber$Reader" ∧ Fld Z h a "com/example/resolvent/resolvent/ldap/Ber$Reader" "bytes" "[B" (.ref b) ∧ Fld Z h a "com/example/resolvent/resolvent/ldap/Ber$Reader" "at" "I" (.int (o + 1 + 1)) ∧ Fld Z h a "com/example/resolvent/resolvent/ldap/Ber$Reader" "end" "I" (.int z)
theorem d5_0 : decode prog_47_method_8_code 0 = .ok (.aload_n 0, 1) := by decide +kernel
theorem d5_1 : decode prog_47_method_8_code 1 = .ok (.invokevirtual 56, 3) := by decide +kernel
theorem pd_0 : parseMethodDescriptor "()I" = some ⟨[], some .int⟩ := by decide +kernel
theorem d5_4 : decode prog_47_method_8_code 4 = .ok (.iload_n 1, 1) := by decide +kernel
theorem d5_5 : decode prog_47_method_8_code 5 = .ok (.if_icmp .eq 23, 3) := by decide +kernel
theorem d5_28 : decode prog_47_method_8_code 28 = .ok (.aload_n 0, 1) := by decide +kernel
theorem d5_29 : decode prog_47_method_8_code 29 = .ok (.dup, 1) := by decide +kernel
theorem d5_30 : decode prog_47_method_8_code 30 = .ok (.getfield 13, 3) := by decide +kernel
theorem d5_33 : decode prog_47_method_8_code 33 = .ok (.iconst 1, 1) := by decide +kernel
theorem d5_34 : decode prog_47_method_8_code 34 = .ok (.iadd, 1) := by decide +kernel
theorem d5_35 : decode prog_47_method_8_code 35 = .ok (.putfield 13, 3) := by decide +kernel
theorem d5_38 : decode prog_47_method_8_code 38 = .ok (.aload_n 0, 1) := by decide +kernel
theorem d5_39 : decode prog_47_method_8_code 39 = .ok (.getfield 7, 3) := by decide +kernel
theorem d5_42 : decode prog_47_method_8_code 42 = .ok (.aload_n 0, 1) := by decide +kernel
theorem d5_43 : decode prog_47_method_8_code 43 = .ok (.getfield 13, 3) := by decide +kernel
theorem d5_46 : decode prog_47_method_8_code 46 = .ok (.aload_n 0, 1) := by decide +kernel
theorem d5_47 : decode prog_47_method_8_code 47 = .ok (.getfield 17, 3) := by decide +kernel
theorem d5_50 : decode prog_47_method_8_code 50 = .ok (.invokestatic 70, 3) := by decide +kernel
theorem pd_1 : parseMethodDescriptor "([BII)I" = some ⟨[(.array .byte), .int, .int], some .int⟩ := by decide +kernel
theorem d5_53 : decode prog_47_method_8_code 53 = .ok (.istore_n 2, 1) := by decide +kernel
theorem d5_54 : decode prog_47_method_8_code 54 = .ok (.iload_n 2, 1) := by decide +kernel
theorem d5_55 : decode prog_47_method_8_code 55 = .ok (.ifCond .ge 9, 3) := by decide +kernel
theorem d5_64 : decode prog_47_method_8_code 64 = .ok (.aload_n 0, 1) := by decide +kernel
theorem d5_65 : decode prog_47_method_8_code 65 = .ok (.dup, 1) := by decide +kernel
theorem d5_66 : decode prog_47_method_8_code 66 = .ok (.getfield 13, 3) := by decide +kernel
theorem d5_69 : decode prog_47_method_8_code 69 = .ok (.aload_n 0, 1) := by decide +kernel
theorem d5_70 : decode prog_47_method_8_code 70 = .ok (.getfield 7, 3) := by decide +kernel
theorem d5_73 : decode prog_47_method_8_code 73 = .ok (.aload_n 0, 1) := by decide +kernel
theorem d5_74 : decode prog_47_method_8_code 74 = .ok (.getfield 13, 3) := by decide +kernel
theorem d5_77 : decode prog_47_method_8_code 77 = .ok (.invokestatic 78, 3) := by decide +kernel
theorem pd_2 : parseMethodDescriptor "([BI)I" = some ⟨[(.array .byte), .int], some .int⟩ := by decide +kernel
theorem d5_80 : decode prog_47_method_8_code 80 = .ok (.iadd, 1) := by decide +kernel
theorem d5_81 : decode prog_47_method_8_code 81 = .ok (.putfield 13, 3) := by decide +kernel
theorem d5_84 : decode prog_47_method_8_code 84 = .ok (.iload_n 2, 1) := by decide +kernel
theorem d5_85 : decode prog_47_method_8_code 85 = .ok (.aload_n 0, 1) := by decide +kernel
theorem d5_86 : decode prog_47_method_8_code 86 = .ok (.getfield 17, 3) := by decide +kernel
theorem d5_89 : decode prog_47_method_8_code 89 = .ok (.aload_n 0, 1) := by decide +kernel
theorem d5_90 : decode prog_47_method_8_code 90 = .ok (.getfield 13, 3) := by decide +kernel
theorem d5_93 : decode prog_47_method_8_code 93 = .ok (.isub, 1) := by decide +kernel
theorem d5_94 : decode prog_47_method_8_code 94 = .ok (.if_icmp .le 9, 3) := by decide +kernel
theorem d5_103 : decode prog_47_method_8_code 103 = .ok (.iload_n 2, 1) := by decide +kernel
theorem d5_104 : decode prog_47_method_8_code 104 = .ok (.ireturn, 1) := by decide +kernel
abbrev room5 : Room := { frames := 1, cells := 0, slots := 0, locals := 18 }
set_option maxRecDepth 65536 in
set_option maxHeartbeats 40000000 in
theorem rm5 (l : Launch) (Z : State) (a0 : Array Value) (hw : ∀ d ∈ tables_1, d.before a0 Z = true) (ws : List Jvm.Cond) (a : Addr) (t : Int32) (b : Addr) (o z : Int32) (f : Nat → Int32) (h0 : Heap) (n0 : Nat) (Z0 : n0 ≤ h0.size) (E_a : Exa Z h0 a "com/example/resolvent/resolvent/ldap/Ber$Reader") (g_a : n0 ≤ a) (F_bytes_a : Fld Z h0 a "com/example/resolvent/resolvent/ldap/Ber$Reader" "bytes" "[B" (.ref b)) (F_at_a : Fld Z h0 a "com/example/resolvent/resolvent/ldap/Ber$Reader" "at" "I" (.int o)) (F_end_a : Fld Z h0 a "com/example/resolvent/resolvent/ldap/Ber$Reader" "end" "I" (.int z)) (A_b : Ia Z h0 b .byte 8 f) (n_b : b ≠ a) (hlt : o < z) (hin : 0 ≤ o.toInt ∧ o.toInt < (8 : Nat)) (hin1 : 0 ≤ (o + 1).toInt ∧ (o + 1).toInt < (8 : Nat)) (htag : fi f o = t) (h128 : fi f (o + 1) < 128) (hlt1 : o + 1 < z) (hle : ¬ z - (o + 1 + 1) < fi f (o + 1)) :
    OM l (⟨"com/example/resolvent/resolvent/ldap/Ber$Reader", "header", "(I)I"⟩ : MethodName) prog_47_method_8_code 3 (some .int) room5 ws Z #[(.ref a), (.int t)] h0 n0 (Q5 Z a t b o z f h0) := by
  refine OM.of (plainFor_of_name pn_5) (fun m => ef_5 m a t) ?_
  intro p e s m below meth c T X
  have K0 : Keep h0 h0 [a] := Keep.refl _ _
  have hLA : LA f (o + 1) z = fi f (o + 1) := by rw [LA, if_pos hlt1, if_pos h128]
  have hFS : F8 (o + 1) f = 1 := if_pos h128
  refine OG.aloadN X d5_0 rfl rfl ?_
  refine OG.callV X (hw _ (List.mem_of_getElem? (i := 30) rfl)) (hw _ (List.mem_of_getElem? (i := 31) rfl)) (notFace_of_selects (args := #[]) (mvT X.warm (hw _ (List.mem_of_getElem? (i := 33) rfl)))) (hw _ (List.mem_of_getElem? (i := 33) rfl)) (hw _ (List.mem_of_getElem? (i := 32) rfl)) (by decide) E_a (rm6 l Z a0 hw [] a b o z f h0 n0 Z0 E_a g_a F_bytes_a F_at_a F_end_a A_b n_b hlt hin) (hw _ (List.mem_of_getElem? (i := 34) rfl)) (hw _ (List.mem_of_getElem? (i := 3) rfl)) (by decide) (W := 0) (by decide) rfl (argsL := []) pd_0 rfl d5_1 rfl (Nat.le_of_eq rfl) (by decide) (by decide) ?_
  rintro _ T1 h2 X1 ⟨rfl, eh2⟩
  rw [eh2] at X1
  show OG p e below s n0 room5.cells room5.slots (Q5 Z a t b o z f h0) (T1.setTop (mkF m 4 #[.val (.ref a), .val (.int t), .unset] [(.int (fi f o))]))
  refine OG.iloadN X1 d5_4 rfl ?_
  refine OG.icmp_eq_t X1 d5_5 (pc' := 28) (by decide) htag ?_
  refine OG.aloadN X1 d5_28 rfl rfl ?_
  refine OG.dup X1 d5_29 rfl ?_
  refine OG.getF X1 (host := "") (Or.inl (hw _ (List.mem_of_getElem? (i := 12) rfl))) Via.refl F_at_a d5_30 ?_
  intro T3 X3
  refine OG.iconst X3 d5_33 (z := (1 : Int32)) rfl ?_
  refine OG.iadd X3 d5_34 ?_
  refine OG.putF X3 (host := "") (Or.inl (hw _ (List.mem_of_getElem? (i := 12) rfl))) Via.refl F_at_a E_a (Or.inl (hw _ (List.mem_of_getElem? (i := 13) rfl))) (hw _ (List.mem_of_getElem? (i := 2) rfl)) (ty := .int) (by decide) rfl rfl d5_35 g_a ?_
  intro T4 h5 X4 W6
  replace E_a := E_a.wr W6
  replace Z0 := Nat.le_trans Z0 (Keep.of_wr W6).1
  replace F_bytes_a := F_bytes_a.other W6 (Or.inr (slot_ne (Or.inr (hw _ (List.mem_of_getElem? (i := 11) rfl))) (Or.inl (hw _ (List.mem_of_getElem? (i := 13) rfl))) (by decide) (t := (.array .byte)) (t' := .int) (by decide) (by decide)))
  replace F_at_a := F_at_a.same W6
  replace F_end_a := F_end_a.other W6 (Or.inr (slot_ne (Or.inr (hw _ (List.mem_of_getElem? (i := 15) rfl))) (Or.inl (hw _ (List.mem_of_getElem? (i := 13) rfl))) (by decide) (t := .int) (t' := .int) (by decide) (by decide)))
  replace A_b := A_b.other W6 n_b
  replace K0 := K0.wr W6 (Or.inl (by simp))
  refine OG.aloadN X4 d5_38 rfl rfl ?_
  refine OG.getF X4 (host := "") (Or.inl (hw _ (List.mem_of_getElem? (i := 10) rfl))) Via.refl F_bytes_a d5_39 ?_
  intro T7 X7
  refine OG.aloadN X7 d5_42 rfl rfl ?_
  refine OG.getF X7 (host := "") (Or.inl (hw _ (List.mem_of_getElem? (i := 12) rfl))) Via.refl F_at_a d5_43 ?_
  intro T8 X8
  refine OG.aloadN X8 d5_46 rfl rfl ?_
  refine OG.getF X8 (host := "") (Or.inl (hw _ (List.mem_of_getElem? (i := 14) rfl))) Via.refl F_end_a d5_47 ?_
  intro T9 X9
  refine OG.callS X9 (hw _ (List.mem_of_getElem? (i := 35) rfl)) (hw _ (List.mem_of_getElem? (i := 36) rfl)) (by decide) (rm7 l Z a0 hw [] b (o + (1 : Int32)) z f h5 n0 A_b hin1 (fun q => absurd h128 q) (fun q => absurd h128 q) (fun q => absurd h128 q)) (hw _ (List.mem_of_getElem? (i := 38) rfl)) (hw _ (List.mem_of_getElem? (i := 37) rfl)) (by decide) (W := 0) (by decide) rfl (argsL := [(.ref b), (.int (o + (1 : Int32))), (.int z)]) pd_1 rfl d5_50 rfl (Nat.le_of_eq rfl) (by decide) (by decide) ?_
  rintro _ T10 h11 X10 ⟨rfl, eh11⟩
  rw [eh11] at X10
  show OG p e below s n0 room5.cells room5.slots (Q5 Z a t b o z f h0) (T10.setTop (mkF m 53 #[.val (.ref a), .val (.int t), .unset] [(.int (LA f (o + (1 : Int32)) z))]))
  rw [hLA]
  refine OG.istoreN X10 d5_53 (l' := #[.val (.ref a), .val (.int t), .val (.int (fi f (o + (1 : Int32))))]) rfl ?_
  refine OG.iloadN X10 d5_54 rfl ?_
  refine OG.if_ge_t X10 d5_55 (pc' := 64) (by decide) (own_fi0 f _) ?_
  refine OG.aloadN X10 d5_64 rfl rfl ?_
  refine OG.dup X10 d5_65 rfl ?_
  refine OG.getF X10 (host := "") (Or.inl (hw _ (List.mem_of_getElem? (i := 12) rfl))) Via.refl F_at_a d5_66 ?_
  intro T12 X12
  refine OG.aloadN X12 d5_69 rfl rfl ?_
  refine OG.getF X12 (host := "") (Or.inl (hw _ (List.mem_of_getElem? (i := 10) rfl))) Via.refl F_bytes_a d5_70 ?_
  intro T13 X13
  refine OG.aloadN X13 d5_73 rfl rfl ?_
  refine OG.getF X13 (host := "") (Or.inl (hw _ (List.mem_of_getElem? (i := 12) rfl))) Via.refl F_at_a d5_74 ?_
  intro T14 X14
  refine OG.callS X14 (hw _ (List.mem_of_getElem? (i := 39) rfl)) (hw _ (List.mem_of_getElem? (i := 40) rfl)) (by decide) (rm8 l Z a0 hw [] b (o + (1 : Int32)) f h5 n0 A_b hin1) (hw _ (List.mem_of_getElem? (i := 41) rfl)) (hw _ (List.mem_of_getElem? (i := 37) rfl)) (by decide) (W := 2) (by decide) rfl (argsL := [(.ref b), (.int (o + (1 : Int32)))]) pd_2 rfl d5_77 rfl (Nat.le_of_eq rfl) (by decide) (by decide) ?_
  rintro _ T15 h16 X15 ⟨rfl, eh16⟩
  rw [eh16] at X15
  show OG p e below s n0 room5.cells room5.slots (Q5 Z a t b o z f h0) (T15.setTop (mkF m 80 #[.val (.ref a), .val (.int t), .val (.int (fi f (o + (1 : Int32))))] [(.int (F8 (o + (1 : Int32)) f)), (.int (o + (1 : Int32))), (.ref a)]))
  rw [hFS]
  refine OG.iadd X15 d5_80 ?_
  refine OG.putF X15 (host := "") (Or.inl (hw _ (List.mem_of_getElem? (i := 12) rfl))) Via.refl F_at_a E_a (Or.inl (hw _ (List.mem_of_getElem? (i := 13) rfl))) (hw _ (List.mem_of_getElem? (i := 2) rfl)) (ty := .int) (by decide) rfl rfl d5_81 g_a ?_
  intro T17 h18 X17 W19
  replace E_a := E_a.wr W19
  replace Z0 := Nat.le_trans Z0 (Keep.of_wr W19).1
  replace F_bytes_a := F_bytes_a.other W19 (Or.inr (slot_ne (Or.inr (hw _ (List.mem_of_getElem? (i := 11) rfl))) (Or.inl (hw _ (List.mem_of_getElem? (i := 13) rfl))) (by decide) (t := (.array .byte)) (t' := .int) (by decide) (by decide)))
  replace F_at_a := F_at_a.same W19
  replace F_end_a := F_end_a.other W19 (Or.inr (slot_ne (Or.inr (hw _ (List.mem_of_getElem? (i := 15) rfl))) (Or.inl (hw _ (List.mem_of_getElem? (i := 13) rfl))) (by decide) (t := .int) (t' := .int) (by decide) (by decide)))
  replace A_b := A_b.other W19 n_b
  replace K0 := K0.wr W19 (Or.inl (by simp))
  refine OG.iloadN X17 d5_84 rfl ?_
  refine OG.aloadN X17 d5_85 rfl rfl ?_
  refine OG.getF X17 (host := "") (Or.inl (hw _ (List.mem_of_getElem? (i := 14) rfl))) Via.refl F_end_a d5_86 ?_
  intro T20 X20
  refine OG.aloadN X20 d5_89 rfl rfl ?_
  refine OG.getF X20 (host := "") (Or.inl (hw _ (List.mem_of_getElem? (i := 12) rfl))) Via.refl F_at_a d5_90 ?_
  intro T21 X21
  refine OG.isub X21 d5_93 ?_
  refine OG.icmp_le_t X21 d5_94 (pc' := 103) (by decide) hle ?_
  refine OG.iloadN X21 d5_103 rfl ?_
  exact OG.retI X21 d5_104 (by decide) (by decide) ⟨rfl, K0, E_a, F_bytes_a, F_at_a, F_end_a⟩
theorem pn_4 : plainName "com/example/resolvent/resolvent/ldap/Ber$Reader" = true := by first | (simp [plainName, overriddenIn]; done) | decide +kernel
theorem ef_4 (m : MethodId) (a : Addr) (t : Int32) : entryFrame m #[(.ref a), (.int t)] 3 = mkF m 0 #[.val (.ref a), .val (.int t), .unset] [] := by first | (simp [entryFrame, mkF, argsToLocals, Value.category]; done) | rfl
def Q4 (Z : State) (a : Addr) (t : Int32) (b : Addr) (o z : Int32) (f : Nat → Int32) (h0 : Heap) : Option Value → Heap → Prop := fun v h => v = some (.int (o + 1 + 1 + fi f (o + 1))) ∧ Keep h0 h [a] ∧ Exa Z h a "com/example/resolvent/resolvent/ldap/Ber$Reader" ∧ Fld Z h a "com/example/resolvent/resolvent/ldap/Ber$Reader" "bytes" "[B" (.ref b) ∧ Fld Z h a "com/example/resolvent/resolvent/ldap/Ber$Reader" "at" "I" (.int (o + 1 + 1)) ∧ Fld Z h a "com/example/resolvent/resolvent/ldap/Ber$Reader" "end" "I" (.int z)
theorem d4_0 : decode prog_47_method_4_code 0 = .ok (.aload_n 0, 1) := by decide +kernel
theorem d4_1 : decode prog_47_method_4_code 1 = .ok (.iload_n 1, 1) := by decide +kernel
theorem d4_2 : decode prog_47_method_4_code 2 = .ok (.invokevirtual 26, 3) := by decide +kernel
theorem pd_3 : parseMethodDescriptor "(I)I" = some ⟨[.int], some .int⟩ := by decide +kernel
theorem d4_5 : decode prog_47_method_4_code 5 = .ok (.istore_n 2, 1) := by decide +kernel
theorem d4_6 : decode prog_47_method_4_code 6 = .ok (.aload_n 0, 1) := by decide +kernel
theorem d4_7 : decode prog_47_method_4_code 7 = .ok (.getfield 13, 3) := by decide +kernel
theorem d4_10 : decode prog_47_method_4_code 10 = .ok (.iload_n 2, 1) := by decide +kernel
theorem d4_11 : decode prog_47_method_4_code 11 = .ok (.iadd, 1) := by decide +kernel
theorem d4_12 : decode prog_47_method_4_code 12 = .ok (.ireturn, 1) := by decide +kernel
abbrev room4 : Room := { frames := 2, cells := 0, slots := 0, locals := 32 }
set_option maxRecDepth 65536 in
set_option maxHeartbeats 40000000 in
theorem rm4 (l : Launch) (Z : State) (a0 : Array Value) (hw : ∀ d ∈ tables_1, d.before a0 Z = true) (ws : List Jvm.Cond) (a : Addr) (t : Int32) (b : Addr) (o z : Int32) (f : Nat → Int32) (h0 : Heap) (n0 : Nat) (Z0 : n0 ≤ h0.size) (E_a : Exa Z h0 a "com/example/resolvent/resolvent/ldap/Ber$Reader") (g_a : n0 ≤ a) (F_bytes_a : Fld Z h0 a "com/example/resolvent/resolvent/ldap/Ber$Reader" "bytes" "[B" (.ref b)) (F_at_a : Fld Z h0 a "com/example/resolvent/resolvent/ldap/Ber$Reader" "at" "I" (.int o)) (F_end_a : Fld Z h0 a "com/example/resolvent/resolvent/ldap/Ber$Reader" "end" "I" (.int z)) (A_b : Ia Z h0 b .byte 8 f) (n_b : b ≠ a) (hlt : o < z) (hin : 0 ≤ o.toInt ∧ o.toInt < (8 : Nat)) (hin1 : 0 ≤ (o + 1).toInt ∧ (o + 1).toInt < (8 : Nat)) (htag : fi f o = t) (h128 : fi f (o + 1) < 128) (hlt1 : o + 1 < z) (hle : ¬ z - (o + 1 + 1) < fi f (o + 1)) :
    OM l (⟨"com/example/resolvent/resolvent/ldap/Ber$Reader", "enter", "(I)I"⟩ : MethodName) prog_47_method_4_code 3 (some .int) room4 ws Z #[(.ref a), (.int t)] h0 n0 (Q4 Z a t b o z f h0) := by
  refine OM.of (plainFor_of_name pn_4) (fun m => ef_4 m a t) ?_
  intro p e s m below meth c T X
  have K0 : Keep h0 h0 [a] := Keep.refl _ _
  refine OG.aloadN X d4_0 rfl rfl ?_
  refine OG.iloadN X d4_1 rfl ?_
  refine OG.callP X (y' := (⟨"com/example/resolvent/resolvent/ldap/Ber$Reader", "before", "(I)Z"⟩ : MethodName)) (hw _ (List.mem_of_getElem? (i := 26) rfl)) (hw _ (List.mem_of_getElem? (i := 27) rfl)) rfl (hw _ (List.mem_of_getElem? (i := 19) rfl)) (hw _ (List.mem_of_getElem? (i := 28) rfl)) (by decide) E_a (rm5 l Z a0 hw [] a t b o z f h0 n0 Z0 E_a g_a F_bytes_a F_at_a F_end_a A_b n_b hlt hin hin1 htag h128 hlt1 hle) (hw _ (List.mem_of_getElem? (i := 29) rfl)) (hw _ (List.mem_of_getElem? (i := 3) rfl)) (by decide) (W := 0) (by decide) rfl (argsL := [(.int t)]) pd_3 rfl d4_2 rfl (Nat.le_of_eq rfl) (by decide) (by decide) ?_
  rintro _ T1 h2 X1 ⟨rfl, K1, E1, G1, H1, I1⟩
  replace E_a := E_a.keep K1
  replace Z0 := Nat.le_trans Z0 K1.1
  replace A_b := A_b.keep K1 (ninS n_b nin0)
  replace K0 := K0.trans K1 ((allS (Or.inl (by simp)) all0))
  replace E_a := E1
  clear F_bytes_a F_at_a F_end_a
  have F_bytes_a := G1; have F_at_a := H1; have F_end_a := I1
  show OG p e below s n0 room4.cells room4.slots (Q4 Z a t b o z f h0) (T1.setTop (mkF m 5 #[.val (.ref a), .val (.int t), .unset] [(.int (fi f (o + (1 : Int32))))]))
  refine OG.istoreN X1 d4_5 (l' := #[.val (.ref a), .val (.int t), .val (.int (fi f (o + (1 : Int32))))]) rfl ?_
  refine OG.aloadN X1 d4_6 rfl rfl ?_
  refine OG.getF X1 (host := "") (Or.inl (hw _ (List.mem_of_getElem? (i := 12) rfl))) Via.refl F_at_a d4_7 ?_
  intro T3 X3
  refine OG.iloadN X3 d4_10 rfl ?_
  refine OG.iadd X3 d4_11 ?_
  exact OG.retI X3 d4_12 (by decide) (by decide) ⟨rfl, K0, E_a, F_bytes_a, F_at_a, F_end_a⟩
theorem pn_9 : plainName "com/example/resolvent/resolvent/ldap/Ber$Reader" = true := by first | (simp [plainName, overriddenIn]; done) | decide +kernel
theorem ef_9 (m : MethodId) (a : Addr) (t : Int32) : entryFrame m #[(.ref a), (.int t)] 5 = mkF m 0 #[.val (.ref a), .val (.int t), .unset, .unset, .unset] [] := by first | (simp [entryFrame, mkF, argsToLocals, Value.category]; done) | rfl
def Q9 (Z : State) (a : Addr) (t : Int32) (b : Addr) (o z : Int32) (f : Nat → Int32) (h0 : Heap) : Option Value → Heap → Prop := fun v h => v = some (.int ((0 : Int32) <<< ((8 : Int32) &&& 31) ||| fi f (o + 1 + 1))) ∧ Keep h0 h [a] ∧ Exa Z h a "com/example/resolvent/resolvent/ldap/Ber$Reader" ∧ Fld Z h a "com/example/resolvent/resolvent/ldap/Ber$Reader" "bytes" "[B" (.ref b) ∧ Fld Z h a "com/example/resolvent/resolvent/ldap/Ber$Reader" "at" "I" (.int (o + 1 + 1 + 1)) ∧ Fld Z h a "com/example/resolvent/resolvent/ldap/Ber$Reader" "end" "I" (.int z)
theorem d9_0 : decode prog_47_method_5_code 0 = .ok (.aload_n 0, 1) := by decide +kernel
theorem d9_1 : decode prog_47_method_5_code 1 = .ok (.iload_n 1, 1) := by decide +kernel
theorem d9_2 : decode prog_47_method_5_code 2 = .ok (.invokevirtual 26, 3) := by decide +kernel
theorem d9_5 : decode prog_47_method_5_code 5 = .ok (.istore_n 2, 1) := by decide +kernel
theorem d9_6 : decode prog_47_method_5_code 6 = .ok (.iload_n 2, 1) := by decide +kernel
theorem d9_7 : decode prog_47_method_5_code 7 = .ok (.iconst 1, 1) := by decide +kernel
theorem d9_8 : decode prog_47_method_5_code 8 = .ok (.if_icmp .lt 20, 3) := by decide +kernel
theorem d9_11 : decode prog_47_method_5_code 11 = .ok (.iload_n 2, 1) := by decide +kernel
theorem d9_12 : decode prog_47_method_5_code 12 = .ok (.iconst 4, 1) := by decide +kernel
theorem d9_13 : decode prog_47_method_5_code 13 = .ok (.if_icmp .gt 15, 3) := by decide +kernel
theorem d9_16 : decode prog_47_method_5_code 16 = .ok (.aload_n 0, 1) := by decide +kernel
theorem d9_17 : decode prog_47_method_5_code 17 = .ok (.getfield 7, 3) := by decide +kernel
theorem d9_20 : decode prog_47_method_5_code 20 = .ok (.aload_n 0, 1) := by decide +kernel
theorem d9_21 : decode prog_47_method_5_code 21 = .ok (.getfield 13, 3) := by decide +kernel
theorem d9_24 : decode prog_47_method_5_code 24 = .ok (.baload, 1) := by decide +kernel
theorem d9_25 : decode prog_47_method_5_code 25 = .ok (.ifCond .ge 9, 3) := by decide +kernel
theorem d9_34 : decode prog_47_method_5_code 34 = .ok (.iconst 0, 1) := by decide +kernel
theorem d9_35 : decode prog_47_method_5_code 35 = .ok (.istore_n 3, 1) := by decide +kernel
theorem d9_36 : decode prog_47_method_5_code 36 = .ok (.iconst 0, 1) := by decide +kernel
theorem d9_37 : decode prog_47_method_5_code 37 = .ok (.istore 4, 2) := by decide +kernel
theorem d9_39 : decode prog_47_method_5_code 39 = .ok (.iload 4, 2) := by decide +kernel
theorem d9_41 : decode prog_47_method_5_code 41 = .ok (.iload_n 2, 1) := by decide +kernel
theorem d9_42 : decode prog_47_method_5_code 42 = .ok (.if_icmp .ge 35, 3) := by decide +kernel
theorem d9_45 : decode prog_47_method_5_code 45 = .ok (.iload_n 3, 1) := by decide +kernel
theorem d9_46 : decode prog_47_method_5_code 46 = .ok (.bipush 8, 2) := by decide +kernel
theorem d9_48 : decode prog_47_method_5_code 48 = .ok (.ishl, 1) := by decide +kernel
theorem d9_49 : decode prog_47_method_5_code 49 = .ok (.aload_n 0, 1) := by decide +kernel
theorem d9_50 : decode prog_47_method_5_code 50 = .ok (.getfield 7, 3) := by decide +kernel
theorem d9_53 : decode prog_47_method_5_code 53 = .ok (.aload_n 0, 1) := by decide +kernel
theorem d9_54 : decode prog_47_method_5_code 54 = .ok (.dup, 1) := by decide +kernel
theorem d9_55 : decode prog_47_method_5_code 55 = .ok (.getfield 13, 3) := by decide +kernel
theorem d9_58 : decode prog_47_method_5_code 58 = .ok (.dup_x1, 1) := by decide +kernel
theorem d9_59 : decode prog_47_method_5_code 59 = .ok (.iconst 1, 1) := by decide +kernel
theorem d9_60 : decode prog_47_method_5_code 60 = .ok (.iadd, 1) := by decide +kernel
theorem d9_61 : decode prog_47_method_5_code 61 = .ok (.putfield 13, 3) := by decide +kernel
theorem d9_64 : decode prog_47_method_5_code 64 = .ok (.baload, 1) := by decide +kernel
theorem d9_65 : decode prog_47_method_5_code 65 = .ok (.sipush 255, 3) := by decide +kernel
theorem d9_68 : decode prog_47_method_5_code 68 = .ok (.iand, 1) := by decide +kernel
theorem d9_69 : decode prog_47_method_5_code 69 = .ok (.ior, 1) := by decide +kernel
theorem d9_70 : decode prog_47_method_5_code 70 = .ok (.istore_n 3, 1) := by decide +kernel
theorem d9_71 : decode prog_47_method_5_code 71 = .ok (.iinc 4 1, 3) := by decide +kernel
theorem d9_74 : decode prog_47_method_5_code 74 = .ok (.goto (-35), 3) := by decide +kernel
theorem d9_77 : decode prog_47_method_5_code 77 = .ok (.iload_n 3, 1) := by decide +kernel
theorem d9_78 : decode prog_47_method_5_code 78 = .ok (.ireturn, 1) := by decide +kernel
abbrev room9 : Room := { frames := 2, cells := 0, slots := 0, locals := 32 }
set_option maxRecDepth 65536 in
set_option maxHeartbeats 40000000 in
theorem rm9 (l : Launch) (Z : State) (a0 : Array Value) (hw : ∀ d ∈ tables_1, d.before a0 Z = true) (ws : List Jvm.Cond) (a : Addr) (t : Int32) (b : Addr) (o z : Int32) (f : Nat → Int32) (h0 : Heap) (n0 : Nat) (Z0 : n0 ≤ h0.size) (E_a : Exa Z h0 a "com/example/resolvent/resolvent/ldap/Ber$Reader") (g_a : n0 ≤ a) (F_bytes_a : Fld Z h0 a "com/example/resolvent/resolvent/ldap/Ber$Reader" "bytes" "[B" (.ref b)) (F_at_a : Fld Z h0 a "com/example/resolvent/resolvent/ldap/Ber$Reader" "at" "I" (.int o)) (F_end_a : Fld Z h0 a "com/example/resolvent/resolvent/ldap/Ber$Reader" "end" "I" (.int z)) (A_b : Ia Z h0 b .byte 8 f) (n_b : b ≠ a) (hlt : o < z) (hin : 0 ≤ o.toInt ∧ o.toInt < (8 : Nat)) (hin1 : 0 ≤ (o + 1).toInt ∧ (o + 1).toInt < (8 : Nat)) (htag : fi f o = t) (h128 : fi f (o + 1) < 128) (hlt1 : o + 1 < z) (hle : ¬ z - (o + 1 + 1) < fi f (o + 1)) (hone : fi f (o + 1) = 1) (hin2 : 0 ≤ (o + 1 + 1).toInt ∧ (o + 1 + 1).toInt < (8 : Nat)) (hnn : ¬ f (o + 1 + 1).toInt.toNat < 0) :
    OM l (⟨"com/example/resolvent/resolvent/ldap/Ber$Reader", "integer", "(I)I"⟩ : MethodName) prog_47_method_5_code 5 (some .int) room9 ws Z #[(.ref a), (.int t)] h0 n0 (Q9 Z a t b o z f h0) := by
  refine OM.of (plainFor_of_name pn_9) (fun m => ef_9 m a t) ?_
  intro p e s m below meth c T X
  have K0 : Keep h0 h0 [a] := Keep.refl _ _
  refine OG.aloadN X d9_0 rfl rfl ?_
  refine OG.iloadN X d9_1 rfl ?_
  refine OG.callP X (y' := (⟨"com/example/resolvent/resolvent/ldap/Ber$Reader", "before", "(I)Z"⟩ : MethodName)) (hw _ (List.mem_of_getElem? (i := 26) rfl)) (hw _ (List.mem_of_getElem? (i := 27) rfl)) rfl (hw _ (List.mem_of_getElem? (i := 19) rfl)) (hw _ (List.mem_of_getElem? (i := 28) rfl)) (by decide) E_a (rm5 l Z a0 hw [] a t b o z f h0 n0 Z0 E_a g_a F_bytes_a F_at_a F_end_a A_b n_b hlt hin hin1 htag h128 hlt1 hle) (hw _ (List.mem_of_getElem? (i := 29) rfl)) (hw _ (List.mem_of_getElem? (i := 3) rfl)) (by decide) (W := 0) (by decide) rfl (argsL := [(.int t)]) pd_3 rfl d9_2 rfl (Nat.le_of_eq rfl) (by decide) (by decide) ?_
  rintro _ T1 h2 X1 ⟨rfl, K1, E1, G1, H1, I1⟩
  replace E_a := E_a.keep K1
  replace Z0 := Nat.le_trans Z0 K1.1
  replace A_b := A_b.keep K1 (ninS n_b nin0)
  replace K0 := K0.trans K1 ((allS (Or.inl (by simp)) all0))
  replace E_a := E1
  clear F_bytes_a F_at_a F_end_a
  have F_bytes_a := G1; have F_at_a := H1; have F_end_a := I1
  show OG p e below s n0 room9.cells room9.slots (Q9 Z a t b o z f h0) (T1.setTop (mkF m 5 #[.val (.ref a), .val (.int t), .unset, .unset, .unset] [(.int (fi f (o + (1 : Int32))))]))
  rw [hone]
  refine OG.istoreN X1 d9_5 (l' := #[.val (.ref a), .val (.int t), .val (.int (1 : Int32)), .unset, .unset]) rfl ?_
  refine OG.iloadN X1 d9_6 rfl ?_
  refine OG.iconst X1 d9_7 (z := (1 : Int32)) rfl ?_
  refine OG.icmp_lt_f X1 d9_8 (by decide) ?_
  refine OG.iloadN X1 d9_11 rfl ?_
  refine OG.iconst X1 d9_12 (z := (4 : Int32)) rfl ?_
  refine OG.icmp_gt_f X1 d9_13 (by decide) ?_
  refine OG.aloadN X1 d9_16 rfl rfl ?_
  refine OG.getF X1 (host := "") (Or.inl (hw _ (List.mem_of_getElem? (i := 10) rfl))) Via.refl F_bytes_a d9_17 ?_
  intro T3 X3
  refine OG.aloadN X3 d9_20 rfl rfl ?_
  refine OG.getF X3 (host := "") (Or.inl (hw _ (List.mem_of_getElem? (i := 12) rfl))) Via.refl F_at_a d9_21 ?_
  intro T4 X4
  refine OG.baload X4 A_b hin2 d9_24 ?_
  refine OG.if_ge_t X4 d9_25 (pc' := 34) (by decide) hnn ?_
  refine OG.iconst X4 d9_34 (z := (0 : Int32)) rfl ?_
  refine OG.istoreN X4 d9_35 (l' := #[.val (.ref a), .val (.int t), .val (.int (1 : Int32)), .val (.int (0 : Int32)), .unset]) rfl ?_
  refine OG.iconst X4 d9_36 (z := (0 : Int32)) rfl ?_
  refine OG.istore X4 d9_37 (l' := #[.val (.ref a), .val (.int t), .val (.int (1 : Int32)), .val (.int (0 : Int32)), .val (.int (0 : Int32))]) rfl ?_
  refine OG.iload X4 d9_39 rfl ?_
  refine OG.iloadN X4 d9_41 rfl ?_
  refine OG.icmp_ge_f X4 d9_42 (by decide) ?_
  refine OG.iloadN X4 d9_45 rfl ?_
  refine OG.bipush X4 d9_46 (z := (8 : Int32)) rfl ?_
  refine OG.ishl X4 d9_48 ?_
  refine OG.aloadN X4 d9_49 rfl rfl ?_
  refine OG.getF X4 (host := "") (Or.inl (hw _ (List.mem_of_getElem? (i := 10) rfl))) Via.refl F_bytes_a d9_50 ?_
  intro T5 X5
  refine OG.aloadN X5 d9_53 rfl rfl ?_
  refine OG.dup X5 d9_54 rfl ?_
  refine OG.getF X5 (host := "") (Or.inl (hw _ (List.mem_of_getElem? (i := 12) rfl))) Via.refl F_at_a d9_55 ?_
  intro T6 X6
  refine OG.dupX1 X6 d9_58 rfl rfl ?_
  refine OG.iconst X6 d9_59 (z := (1 : Int32)) rfl ?_
  refine OG.iadd X6 d9_60 ?_
  refine OG.putF X6 (host := "") (Or.inl (hw _ (List.mem_of_getElem? (i := 12) rfl))) Via.refl F_at_a E_a (Or.inl (hw _ (List.mem_of_getElem? (i := 13) rfl))) (hw _ (List.mem_of_getElem? (i := 2) rfl)) (ty := .int) (by decide) rfl rfl d9_61 g_a ?_
  intro T7 h8 X7 W9
  replace E_a := E_a.wr W9
  replace Z0 := Nat.le_trans Z0 (Keep.of_wr W9).1
  replace A_b := A_b.other W9 n_b
  replace K0 := K0.wr W9 (Or.inl (by simp))
  replace F_bytes_a := F_bytes_a.other W9 (Or.inr (slot_ne (Or.inr (hw _ (List.mem_of_getElem? (i := 11) rfl))) (Or.inl (hw _ (List.mem_of_getElem? (i := 13) rfl))) (by decide) (t := (.array .byte)) (t' := .int) (by decide) (by decide)))
  replace F_at_a := F_at_a.same W9
  replace F_end_a := F_end_a.other W9 (Or.inr (slot_ne (Or.inr (hw _ (List.mem_of_getElem? (i := 15) rfl))) (Or.inl (hw _ (List.mem_of_getElem? (i := 13) rfl))) (by decide) (t := .int) (t' := .int) (by decide) (by decide)))
  refine OG.baload X7 A_b hin2 d9_64 ?_
  refine OG.sipush X7 d9_65 (z := (255 : Int32)) rfl ?_
  refine OG.iand X7 d9_68 ?_
  refine OG.ior X7 d9_69 ?_
  refine OG.istoreN X7 d9_70 (l' := #[.val (.ref a), .val (.int t), .val (.int (1 : Int32)), .val (.int (((0 : Int32) <<< ((8 : Int32) &&& 31)) ||| ((f ((o + (1 : Int32)) + (1 : Int32)).toInt.toNat) &&& (255 : Int32)))), .val (.int (0 : Int32))]) rfl ?_
  refine OG.iinc X7 d9_71 rfl (z := (1 : Int32)) rfl (l' := #[.val (.ref a), .val (.int t), .val (.int (1 : Int32)), .val (.int (((0 : Int32) <<< ((8 : Int32) &&& 31)) ||| ((f ((o + (1 : Int32)) + (1 : Int32)).toInt.toNat) &&& (255 : Int32)))), .val (.int ((0 : Int32) + (1 : Int32)))]) rfl ?_
  refine OG.goto X7 d9_74 (pc' := 39) (by decide) ?_
  refine OG.iload X7 d9_39 rfl ?_
  refine OG.iloadN X7 d9_41 rfl ?_
  refine OG.icmp_ge_t X7 d9_42 (pc' := 77) (by decide) (by decide) ?_
  refine OG.iloadN X7 d9_77 rfl ?_
  exact OG.retI X7 d9_78 (by decide) (by decide) ⟨rfl, K0, E_a, F_bytes_a, F_at_a, F_end_a⟩
theorem own_fu {u q : Int32} (h : u = if q = 0 then 0 else 1) (c : ¬ u = 0) : u = 1 := by
  by_cases p : q = 0
  · rw [if_pos p] at h; exact absurd h c
  · rw [if_neg p] at h; exact h
theorem own_o {o q : Int32} (h : o = q &&& 3) : o = 0 ∨ o = 1 ∨ o = 2 ∨ o = 3 := by
  have h1 := c_and q 3 (by decide)
  rw [← h] at h1
  simp only [← Int32.toInt_inj]
  have e0 : (0 : Int32).toInt = 0 := rfl
  have e1 : (1 : Int32).toInt = 1 := rfl
  have e2 : (2 : Int32).toInt = 2 := rfl
  have e3 : (3 : Int32).toInt = 3 := rfl
  omega
theorem own_k {P : Int32 → Prop} {o : Int32} (h : o = 0 ∨ o = 1 ∨ o = 2 ∨ o = 3) (h0 : P 0) (h1 : P 1) (h2 : P 2) (h3 : P 3) : P o := by
  rcases h with rfl | rfl | rfl | rfl <;> assumption
theorem own_i2b (x : Int32) : x.toInt8.toInt32.toInt8.toInt32 = x.toInt8.toInt32 := by
  rw [← Int32.toInt_inj]
  have h1 := c_i2b x
  have h2 := c_i2b x.toInt8.toInt32
  omega
theorem own_v {u q y : Int32} (hu : u = q &&& 127) (hy : y = u.toInt8.toInt32.toInt8.toInt32) : ¬ y < 0 ∧ (0 : Int32) <<< ((8 : Int32) &&& 31) ||| (y &&& 255) = u := by
  have h1 := c_and q 127 (by decide)
  rw [← hu] at h1
  have e : (127 : Int32).toInt = 127 := rfl
  have e0 : (0 : Int32).toInt = 0 := rfl
  rw [own_i2b] at hy
  have h2 := c_i2b u
  rw [← hy] at h2
  have h3 : y = u := by rw [← Int32.toInt_inj]; omega
  have h4 := c_mask u 255 8 (by decide) (by decide)
  have h5 : ((2 ^ 8 : Nat) : Int) = 256 := by decide
  rw [h5] at h4
  subst h3
  refine ⟨by rw [Int32.lt_iff_toInt_lt]; omega, ?_⟩
  rw [show (0 : Int32) <<< ((8 : Int32) &&& 31) = 0 from by decide, Int32.zero_or, ← Int32.toInt_inj]; omega
theorem pn_0 : plainName "com/example/resolvent/resolvent/ldap/ReaderBeforePinLaw" = true := by first | (simp [plainName, overriddenIn]; done) | decide +kernel
theorem ef_0 (m : MethodId) (i0 : Int32) (i1 : Int32) (i2 : Int32) (i3 : Int32) : entryFrame m #[(.int i0), (.int i1), (.int i2), (.int i3)] maxLocals = mkF m 0 #[.val (.int i0), .val (.int i1), .val (.int i2), .val (.int i3), .unset, .unset, .unset, .unset, .unset, .unset] [] := by first | (simp [entryFrame, mkF, argsToLocals, Value.category, maxLocals]; done) | rfl
def Q0 (Z : State) (i0 : Int32) (i1 : Int32) (i2 : Int32) (i3 : Int32)  (h0 : Heap) : Option Value → Heap → Prop := fun v h => v = some (.int 1)
theorem pd_4 : parseMethodDescriptor "([BII)V" = some ⟨[(.array .byte), .int, .int], none⟩ := by decide +kernel
theorem pd_5 : parseMethodDescriptor "(I)Z" = some ⟨[.int], some .boolean⟩ := by decide +kernel
set_option maxRecDepth 65536 in
set_option maxHeartbeats 40000000 in
theorem rm0 (l : Launch) (Z : State) (a0 : Array Value) (hw : ∀ d ∈ tables_1, d.before a0 Z = true) (ws : List Jvm.Cond) (i0 : Int32) (i1 : Int32) (i2 : Int32) (i3 : Int32)  (h0 : Heap) (n0 : Nat) (Z0 : n0 ≤ h0.size)  :
    OM l x code maxLocals ret room_1 ws Z #[(.int i0), (.int i1), (.int i2), (.int i3)] h0 n0 (Q0 Z i0 i1 i2 i3  h0) := by
  refine OM.of (plainFor_of_name pn_0) (fun m => ef_0 m i0 i1 i2 i3) ?_
  intro p e s m below meth c T X
  refine OG.iloadN X at_0 rfl ?_
  refine OG.iconst X at_1 (z := (3 : Int32)) rfl ?_
  refine OG.iand X at_2 ?_
  refine OG.istoreV X at_3 (l' := fun z => #[.val (.int i0), .val (.int i1), .val (.int i2), .val (.int i3), .val (.int z), .unset, .unset, .unset, .unset, .unset]) (fun _ => rfl) ?_
  intro o ho
  have ho2 := own_o ho
  refine OG.iloadN X at_5 rfl ?_
  refine OG.bipush X at_6 (z := (127 : Int32)) rfl ?_
  refine OG.iand X at_8 ?_
  refine OG.istoreV X at_9 (l' := fun z => #[.val (.int i0), .val (.int i1), .val (.int i2), .val (.int i3), .val (.int o), .val (.int z), .unset, .unset, .unset, .unset]) (fun _ => rfl) ?_
  intro vv hvv
  refine OG.iloadN X at_11 rfl ?_
  refine OG.iconst X at_12 (z := (1 : Int32)) rfl ?_
  refine OG.iand X at_13 ?_
  have hj1 : ∀ fu : Int32, fu = (if (i0 &&& (1 : Int32)) = (0 : Int32) then (0 : Int32) else (1 : Int32)) → OG p e below s n0 room_1.cells room_1.slots (Q0 Z i0 i1 i2 i3  h0) (T.setTop (mkF m 22 #[.val (.int i0), .val (.int i1), .val (.int i2), .val (.int i3), .val (.int o), .val (.int vv), .unset, .unset, .unset, .unset] [(.int fu)])) := by
    intro fu hfu
    refine OG.istore X at_22 (l' := #[.val (.int i0), .val (.int i1), .val (.int i2), .val (.int i3), .val (.int o), .val (.int vv), .val (.int fu), .unset, .unset, .unset]) rfl ?_
    refine OG.bipush X at_24 (z := (8 : Int32)) rfl ?_
    refine OG.newP X (hw _ (List.mem_of_getElem? (i := 0) rfl)) at_26 (by decide) (cap := 8) (by decide) (by decide) (by decide) (by decide) ?_
    rintro T2 h3 b5 gb5 X2 E4 ⟨cAb5, Nb5⟩
    have g_b5 : n0 ≤ b5 := Nat.le_trans Z0 (Nat.le_of_eq gb5.symm)
    replace Z0 := Nat.le_trans Z0 E4.1
    have A_b5 : Ia Z h3 b5 .byte 8 (fun _ => 0) := Ia.new Nb5 (by decide) rfl rfl
    refine OG.astore X2 at_28 (l' := #[.val (.int i0), .val (.int i1), .val (.int i2), .val (.int i3), .val (.int o), .val (.int vv), .val (.int fu), .val (.ref b5), .unset, .unset]) rfl rfl ?_
    refine OG.aload X2 at_30 rfl rfl ?_
    refine OG.iload X2 at_32 rfl ?_
    refine OG.bipush X2 at_34 (z := (48 : Int32)) rfl ?_
    refine OG.bastore X2 A_b5 (own_k (P := fun o => 0 ≤ o.toInt ∧ o.toInt < (8 : Nat)) ho2 (by decide) (by decide) (by decide) (by decide)) at_36 g_b5 ?_
    intro T6 h7 X6 W8 A6
    replace Z0 := Nat.le_trans Z0 (Keep.of_wr W8).1
    replace A_b5 := A6
    refine OG.iload X6 at_37 rfl ?_
    refine OG.if_eq X6 at_39 (pc' := 76) (by decide) ?_ ?_
    · intro c39
      obtain ⟨ff, A_ff, e0, e1⟩ : ∃ ff, Ia Z h7 b5 .byte 8 ff ∧ fi ff o = 48 ∧ fi ff (o + 1) = 0 := by
        refine ⟨_, A_b5, ?_⟩
        rcases ho2 with rfl | rfl | rfl | rfl <;> exact ⟨rfl, rfl⟩
      refine OG.newO X6 (hw _ (List.mem_of_getElem? (i := 1) rfl)) (hw _ (List.mem_of_getElem? (i := 2) rfl)) (hw _ (List.mem_of_getElem? (i := 3) rfl)) at_76 (by decide) (by decide) ?_
      intro T9 h10 b12 gb12 X9 E11 E_b12 D_b12
      have ne_b5_b12 : b5 ≠ b12 := Nat.ne_of_lt (Nat.lt_of_lt_of_le A_ff.lt (Nat.le_of_eq gb12.symm))
      have g_b12 : n0 ≤ b12 := Nat.le_trans Z0 (Nat.le_of_eq gb12.symm)
      replace Z0 := Nat.le_trans Z0 E11.1
      replace A_ff := A_ff.ext E11
      have F_bytes_b12 : Fld Z h10 b12 "com/example/resolvent/resolvent/ldap/Ber$Reader" "bytes" "[B" .null := D_b12 (Or.inr (hw _ (List.mem_of_getElem? (i := 11) rfl))) (ty := (.array .byte)) (by decide)
      have F_at_b12 : Fld Z h10 b12 "com/example/resolvent/resolvent/ldap/Ber$Reader" "at" "I" (.int 0) := D_b12 (Or.inl (hw _ (List.mem_of_getElem? (i := 13) rfl))) (ty := .int) (by decide)
      have F_end_b12 : Fld Z h10 b12 "com/example/resolvent/resolvent/ldap/Ber$Reader" "end" "I" (.int 0) := D_b12 (Or.inr (hw _ (List.mem_of_getElem? (i := 15) rfl))) (ty := .int) (by decide)
      refine OG.dup X9 at_79 rfl ?_
      refine OG.aload X9 at_80 rfl rfl ?_
      refine OG.iload X9 at_82 rfl ?_
      refine OG.iload X9 at_84 rfl ?_
      refine OG.if_eq_t X9 at_86 (pc' := 93) (by decide) c39 ?_
      refine OG.iconst X9 at_93 (z := (2 : Int32)) rfl ?_
      refine OG.callC X9 rfl (hw _ (List.mem_of_getElem? (i := 4) rfl)) (hw _ (List.mem_of_getElem? (i := 5) rfl)) (by decide) (rm1 l Z a0 hw [] b12 b5 o (2 : Int32)  h10 n0 Z0 E_b12 g_b12 F_bytes_b12 F_at_b12 F_end_b12) (hw _ (List.mem_of_getElem? (i := 6) rfl)) (hw _ (List.mem_of_getElem? (i := 3) rfl)) (by decide) (W := 1) (by decide) rfl (argsL := [(.ref b5), (.int o), (.int (2 : Int32))]) pd_4 rfl at_94 rfl (Nat.le_of_eq rfl) (by decide) (by decide) ?_
      rintro _ T13 h14 X13 ⟨rfl, K13, E13, G13_0, G13_1, G13_2⟩
      replace Z0 := Nat.le_trans Z0 K13.1
      replace A_ff := A_ff.keep K13 (ninS ne_b5_b12 nin0)
      replace E_b12 := E_b12.keep K13
      replace E_b12 := E13
      clear F_bytes_b12; have F_bytes_b12 := G13_0
      clear F_at_b12; have F_at_b12 := G13_1
      clear F_end_b12; have F_end_b12 := G13_2
      show OG p e below s n0 room_1.cells room_1.slots (Q0 Z i0 i1 i2 i3  h0) (T13.setTop (mkF m 97 #[.val (.int i0), .val (.int i1), .val (.int i2), .val (.int i3), .val (.int o), .val (.int vv), .val (.int fu), .val (.ref b5), .unset, .unset] [(.ref b12)]))
      refine OG.astore X13 at_97 (l' := #[.val (.int i0), .val (.int i1), .val (.int i2), .val (.int i3), .val (.int o), .val (.int vv), .val (.int fu), .val (.ref b5), .val (.ref b12), .unset]) rfl rfl ?_
      refine OG.aload X13 at_99 rfl rfl ?_
      refine OG.iloadN X13 at_101 rfl ?_
      refine OG.callV X13 (hw _ (List.mem_of_getElem? (i := 16) rfl)) (hw _ (List.mem_of_getElem? (i := 17) rfl)) (notFace_of_selects (args := #[]) (mvT X13.warm (hw _ (List.mem_of_getElem? (i := 19) rfl)))) (hw _ (List.mem_of_getElem? (i := 19) rfl)) (hw _ (List.mem_of_getElem? (i := 18) rfl)) (by decide) E_b12 (rm3 l Z a0 hw [] b12 i3 o h14 n0 F_at_b12) (hw _ (List.mem_of_getElem? (i := 20) rfl)) (hw _ (List.mem_of_getElem? (i := 3) rfl)) (by decide) (W := 0) (by decide) rfl (argsL := [(.int i3)]) pd_5 rfl at_102 rfl (Nat.le_of_eq rfl) (by decide) (by decide) ?_
      rintro _ T15 h16 X15 ⟨rfl, eh16⟩
      rw [eh16] at X15
      show OG p e below s n0 room_1.cells room_1.slots (Q0 Z i0 i1 i2 i3  h0) (T15.setTop (mkF m 105 #[.val (.int i0), .val (.int i1), .val (.int i2), .val (.int i3), .val (.int o), .val (.int vv), .val (.int fu), .val (.ref b5), .val (.ref b12), .unset] [(.int (F3 i3 o))]))
      refine OG.iload X15 at_105 rfl ?_
      refine OG.iloadN X15 at_107 rfl ?_
      have hj17 : ∀ x1 : Int32, x1 = (if o < i3 then (1 : Int32) else (0 : Int32)) → OG p e below s n0 room_1.cells room_1.slots (Q0 Z i0 i1 i2 i3  h0) (T15.setTop (mkF m 116 #[.val (.int i0), .val (.int i1), .val (.int i2), .val (.int i3), .val (.int o), .val (.int vv), .val (.int fu), .val (.ref b5), .val (.ref b12), .unset] [(.int x1), (.int (F3 i3 o))])) := by
        intro x1 hx1
        refine OG.icmp_eq_t X15 at_116 (pc' := 121) (by decide) (by rw [hx1]; rfl) ?_
        refine OG.aload X15 at_121 rfl rfl ?_
        refine OG.bipush X15 at_123 (z := (48 : Int32)) rfl ?_
        refine OG.callV X15 (hw _ (List.mem_of_getElem? (i := 21) rfl)) (hw _ (List.mem_of_getElem? (i := 22) rfl)) (notFace_of_selects (args := #[]) (mvT X15.warm (hw _ (List.mem_of_getElem? (i := 24) rfl)))) (hw _ (List.mem_of_getElem? (i := 24) rfl)) (hw _ (List.mem_of_getElem? (i := 23) rfl)) (by decide) E_b12 (rm4 l Z a0 hw [] b12 (48 : Int32) b5 o (o + (2 : Int32)) ff h14 n0 Z0 E_b12 g_b12 F_bytes_b12 F_at_b12 F_end_b12 A_ff ne_b5_b12 (own_k (P := fun o => o < o + 2) ho2 (by decide) (by decide) (by decide) (by decide)) (own_k (P := fun o => 0 ≤ o.toInt ∧ o.toInt < (8 : Nat)) ho2 (by decide) (by decide) (by decide) (by decide)) (own_k (P := fun o => 0 ≤ (o + 1).toInt ∧ (o + 1).toInt < (8 : Nat)) ho2 (by decide) (by decide) (by decide) (by decide)) e0 (by rw [e1]; decide) (own_k (P := fun o => o + 1 < o + 2) ho2 (by decide) (by decide) (by decide) (by decide)) (by rw [e1]; exact (own_k (P := fun o => ¬ o + 2 - (o + 1 + 1) < 0) ho2 (by decide) (by decide) (by decide) (by decide)))) (hw _ (List.mem_of_getElem? (i := 25) rfl)) (hw _ (List.mem_of_getElem? (i := 3) rfl)) (by decide) (W := 0) (by decide) rfl (argsL := [(.int (48 : Int32))]) pd_3 rfl at_125 rfl (Nat.le_of_eq rfl) (by decide) (by decide) ?_
        rintro _ T18 h19 X18 ⟨rfl, K18, E18, G18, H18, I18⟩
        replace Z0 := Nat.le_trans Z0 K18.1
        replace A_ff := A_ff.keep K18 (ninS ne_b5_b12 nin0)
        replace E_b12 := E_b12.keep K18
        replace E_b12 := E18
        clear F_bytes_b12 F_at_b12 F_end_b12
        have F_bytes_b12 := G18; have F_at_b12 := H18; have F_end_b12 := I18
        show OG p e below s n0 room_1.cells room_1.slots (Q0 Z i0 i1 i2 i3  h0) (T18.setTop (mkF m 128 #[.val (.int i0), .val (.int i1), .val (.int i2), .val (.int i3), .val (.int o), .val (.int vv), .val (.int fu), .val (.ref b5), .val (.ref b12), .unset] [(.int (((o + (1 : Int32)) + (1 : Int32)) + (fi ff (o + (1 : Int32)))))]))
        refine OG.istoreV X18 at_128 (l' := fun z => #[.val (.int i0), .val (.int i1), .val (.int i2), .val (.int i3), .val (.int o), .val (.int vv), .val (.int fu), .val (.ref b5), .val (.ref b12), .val (.int z)]) (fun _ => rfl) ?_
        intro en hen
        refine OG.iload X18 at_130 rfl ?_
        refine OG.iload X18 at_132 rfl ?_
        refine OG.iload X18 at_134 rfl ?_
        refine OG.if_eq_t X18 at_136 (pc' := 143) (by decide) c39 ?_
        refine OG.iconst X18 at_143 (z := (2 : Int32)) rfl ?_
        refine OG.iadd X18 at_144 ?_
        refine OG.icmp_eq_t X18 at_145 (pc' := 150) (by decide) (by rw [hen, e1]; exact (own_k (P := fun o => o + 1 + 1 + 0 = o + 2) ho2 (by decide) (by decide) (by decide) (by decide))) ?_
        refine OG.aload X18 at_150 rfl rfl ?_
        refine OG.iloadN X18 at_152 rfl ?_
        refine OG.callV X18 (hw _ (List.mem_of_getElem? (i := 16) rfl)) (hw _ (List.mem_of_getElem? (i := 17) rfl)) (notFace_of_selects (args := #[]) (mvT X18.warm (hw _ (List.mem_of_getElem? (i := 19) rfl)))) (hw _ (List.mem_of_getElem? (i := 19) rfl)) (hw _ (List.mem_of_getElem? (i := 18) rfl)) (by decide) E_b12 (rm3 l Z a0 hw [] b12 i3 ((o + (1 : Int32)) + (1 : Int32)) h19 n0 F_at_b12) (hw _ (List.mem_of_getElem? (i := 20) rfl)) (hw _ (List.mem_of_getElem? (i := 3) rfl)) (by decide) (W := 0) (by decide) rfl (argsL := [(.int i3)]) pd_5 rfl at_153 rfl (Nat.le_of_eq rfl) (by decide) (by decide) ?_
        rintro _ T20 h21 X20 ⟨rfl, eh21⟩
        rw [eh21] at X20
        show OG p e below s n0 room_1.cells room_1.slots (Q0 Z i0 i1 i2 i3  h0) (T20.setTop (mkF m 156 #[.val (.int i0), .val (.int i1), .val (.int i2), .val (.int i3), .val (.int o), .val (.int vv), .val (.int fu), .val (.ref b5), .val (.ref b12), .val (.int en)] [(.int (F3 i3 ((o + (1 : Int32)) + (1 : Int32))))]))
        refine OG.iload X20 at_156 rfl ?_
        refine OG.iconst X20 at_158 (z := (2 : Int32)) rfl ?_
        refine OG.iadd X20 at_159 ?_
        refine OG.iloadN X20 at_160 rfl ?_
        have hj22 : ∀ x2 : Int32, x2 = (if (o + (2 : Int32)) < i3 then (1 : Int32) else (0 : Int32)) → OG p e below s n0 room_1.cells room_1.slots (Q0 Z i0 i1 i2 i3  h0) (T20.setTop (mkF m 169 #[.val (.int i0), .val (.int i1), .val (.int i2), .val (.int i3), .val (.int o), .val (.int vv), .val (.int fu), .val (.ref b5), .val (.ref b12), .val (.int en)] [(.int x2), (.int (F3 i3 ((o + (1 : Int32)) + (1 : Int32))))])) := by
          intro x2 hx2
          refine OG.icmp_eq_t X20 at_169 (pc' := 174) (by decide) (by rw [hx2, show o + 1 + 1 = o + 2 from (own_k (P := fun o => o + 1 + 1 = o + 2) ho2 (by decide) (by decide) (by decide) (by decide))]; rfl) ?_
          refine OG.aload X20 at_174 rfl rfl ?_
          refine OG.iload X20 at_176 rfl ?_
          refine OG.callV X20 (hw _ (List.mem_of_getElem? (i := 16) rfl)) (hw _ (List.mem_of_getElem? (i := 17) rfl)) (notFace_of_selects (args := #[]) (mvT X20.warm (hw _ (List.mem_of_getElem? (i := 19) rfl)))) (hw _ (List.mem_of_getElem? (i := 19) rfl)) (hw _ (List.mem_of_getElem? (i := 18) rfl)) (by decide) E_b12 (rm3 l Z a0 hw [] b12 en ((o + (1 : Int32)) + (1 : Int32)) h19 n0 F_at_b12) (hw _ (List.mem_of_getElem? (i := 20) rfl)) (hw _ (List.mem_of_getElem? (i := 3) rfl)) (by decide) (W := 0) (by decide) rfl (argsL := [(.int en)]) pd_5 rfl at_178 rfl (Nat.le_of_eq rfl) (by decide) (by decide) ?_
          rintro _ T23 h24 X23 ⟨rfl, eh24⟩
          rw [eh24] at X23
          show OG p e below s n0 room_1.cells room_1.slots (Q0 Z i0 i1 i2 i3  h0) (T23.setTop (mkF m 181 #[.val (.int i0), .val (.int i1), .val (.int i2), .val (.int i3), .val (.int o), .val (.int vv), .val (.int fu), .val (.ref b5), .val (.ref b12), .val (.int en)] [(.int (F3 en ((o + (1 : Int32)) + (1 : Int32))))]))
          refine OG.iload X23 at_181 rfl ?_
          refine OG.icmp_eq_t X23 at_183 (pc' := 188) (by decide) (by rw [c39, hen, e1]; exact (own_k (P := fun o => F3 (o + 1 + 1 + 0) (o + 1 + 1) = 0) ho2 (by decide) (by decide) (by decide) (by decide))) ?_
          refine OG.iload X23 at_188 rfl ?_
          refine OG.if_eq_t X23 at_190 (pc' := 242) (by decide) c39 ?_
          refine OG.iconst X23 at_242 (z := (1 : Int32)) rfl ?_
          exact OG.retN X23 (t := .boolean) at_243 (by simp) (by decide) (by decide) rfl
        refine OG.icmp_ge X20 at_161 (pc' := 168) (by decide) ?_ ?_
        · intro c161
          refine OG.iconst X20 at_168 (z := (0 : Int32)) rfl ?_
          exact hj22 _ (by rw [if_neg c161])
        · intro c161
          refine OG.iconst X20 at_164 (z := (1 : Int32)) rfl ?_
          refine OG.goto X20 at_165 (pc' := 169) (by decide) ?_
          exact hj22 _ (by rw [if_pos c161])
      refine OG.icmp_ge X15 at_108 (pc' := 115) (by decide) ?_ ?_
      · intro c108
        refine OG.iconst X15 at_115 (z := (0 : Int32)) rfl ?_
        exact hj17 _ (by rw [if_neg c108])
      · intro c108
        refine OG.iconst X15 at_111 (z := (1 : Int32)) rfl ?_
        refine OG.goto X15 at_112 (pc' := 116) (by decide) ?_
        exact hj17 _ (by rw [if_pos c108])
    · intro c39
      have hfu2 := own_fu hfu c39
      refine OG.aload X6 at_42 rfl rfl ?_
      refine OG.iload X6 at_44 rfl ?_
      refine OG.iconst X6 at_46 (z := (1 : Int32)) rfl ?_
      refine OG.iadd X6 at_47 ?_
      refine OG.iconst X6 at_48 (z := (3 : Int32)) rfl ?_
      refine OG.bastore X6 A_b5 (own_k (P := fun o => 0 ≤ (o + (1 : Int32)).toInt ∧ (o + (1 : Int32)).toInt < (8 : Nat)) ho2 (by decide) (by decide) (by decide) (by decide)) at_49 g_b5 ?_
      intro T25 h26 X25 W27 A25
      replace Z0 := Nat.le_trans Z0 (Keep.of_wr W27).1
      replace A_b5 := A25
      refine OG.aload X25 at_50 rfl rfl ?_
      refine OG.iload X25 at_52 rfl ?_
      refine OG.iconst X25 at_54 (z := (2 : Int32)) rfl ?_
      refine OG.iadd X25 at_55 ?_
      refine OG.iconst X25 at_56 (z := (2 : Int32)) rfl ?_
      refine OG.bastore X25 A_b5 (own_k (P := fun o => 0 ≤ (o + (2 : Int32)).toInt ∧ (o + (2 : Int32)).toInt < (8 : Nat)) ho2 (by decide) (by decide) (by decide) (by decide)) at_57 g_b5 ?_
      intro T28 h29 X28 W30 A28
      replace Z0 := Nat.le_trans Z0 (Keep.of_wr W30).1
      replace A_b5 := A28
      refine OG.aload X28 at_58 rfl rfl ?_
      refine OG.iload X28 at_60 rfl ?_
      refine OG.iconst X28 at_62 (z := (3 : Int32)) rfl ?_
      refine OG.iadd X28 at_63 ?_
      refine OG.iconst X28 at_64 (z := (1 : Int32)) rfl ?_
      refine OG.bastore X28 A_b5 (own_k (P := fun o => 0 ≤ (o + (3 : Int32)).toInt ∧ (o + (3 : Int32)).toInt < (8 : Nat)) ho2 (by decide) (by decide) (by decide) (by decide)) at_65 g_b5 ?_
      intro T31 h32 X31 W33 A31
      replace Z0 := Nat.le_trans Z0 (Keep.of_wr W33).1
      replace A_b5 := A31
      refine OG.aload X31 at_66 rfl rfl ?_
      refine OG.iload X31 at_68 rfl ?_
      refine OG.iconst X31 at_70 (z := (4 : Int32)) rfl ?_
      refine OG.iadd X31 at_71 ?_
      refine OG.iload X31 at_72 rfl ?_
      refine OG.i2b X31 at_74 ?_
      refine OG.bastore X31 A_b5 (own_k (P := fun o => 0 ≤ (o + (4 : Int32)).toInt ∧ (o + (4 : Int32)).toInt < (8 : Nat)) ho2 (by decide) (by decide) (by decide) (by decide)) at_75 g_b5 ?_
      intro T34 h35 X34 W36 A34
      replace Z0 := Nat.le_trans Z0 (Keep.of_wr W36).1
      replace A_b5 := A34
      obtain ⟨ff, A_ff, e0, e1, e2, e3, e4⟩ : ∃ ff, Ia Z h35 b5 .byte 8 ff ∧ fi ff o = 48 ∧ fi ff (o + 1) = 3 ∧ fi ff (o + 1 + 1) = 2 ∧ fi ff (o + 1 + 1 + 1) = 1 ∧ ff (o + 1 + 1 + 1 + 1).toInt.toNat = vv.toInt8.toInt32.toInt8.toInt32 := by
        refine ⟨_, A_b5, ?_⟩
        rcases ho2 with rfl | rfl | rfl | rfl <;> refine ⟨?_, ?_, ?_, ?_, ?_⟩ <;> simp +decide only [fi, ↓reduceIte]
      refine OG.newO X34 (hw _ (List.mem_of_getElem? (i := 1) rfl)) (hw _ (List.mem_of_getElem? (i := 2) rfl)) (hw _ (List.mem_of_getElem? (i := 3) rfl)) at_76 (by decide) (by decide) ?_
      intro T37 h38 b40 gb40 X37 E39 E_b40 D_b40
      have ne_b5_b40 : b5 ≠ b40 := Nat.ne_of_lt (Nat.lt_of_lt_of_le A_ff.lt (Nat.le_of_eq gb40.symm))
      have g_b40 : n0 ≤ b40 := Nat.le_trans Z0 (Nat.le_of_eq gb40.symm)
      replace Z0 := Nat.le_trans Z0 E39.1
      replace A_ff := A_ff.ext E39
      have F_bytes_b40 : Fld Z h38 b40 "com/example/resolvent/resolvent/ldap/Ber$Reader" "bytes" "[B" .null := D_b40 (Or.inr (hw _ (List.mem_of_getElem? (i := 11) rfl))) (ty := (.array .byte)) (by decide)
      have F_at_b40 : Fld Z h38 b40 "com/example/resolvent/resolvent/ldap/Ber$Reader" "at" "I" (.int 0) := D_b40 (Or.inl (hw _ (List.mem_of_getElem? (i := 13) rfl))) (ty := .int) (by decide)
      have F_end_b40 : Fld Z h38 b40 "com/example/resolvent/resolvent/ldap/Ber$Reader" "end" "I" (.int 0) := D_b40 (Or.inr (hw _ (List.mem_of_getElem? (i := 15) rfl))) (ty := .int) (by decide)
      refine OG.dup X37 at_79 rfl ?_
      refine OG.aload X37 at_80 rfl rfl ?_
      refine OG.iload X37 at_82 rfl ?_
      refine OG.iload X37 at_84 rfl ?_
      refine OG.if_eq_f X37 at_86 c39 ?_
      refine OG.iconst X37 at_89 (z := (5 : Int32)) rfl ?_
      refine OG.goto X37 at_90 (pc' := 94) (by decide) ?_
      refine OG.callC X37 rfl (hw _ (List.mem_of_getElem? (i := 4) rfl)) (hw _ (List.mem_of_getElem? (i := 5) rfl)) (by decide) (rm1 l Z a0 hw [] b40 b5 o (5 : Int32)  h38 n0 Z0 E_b40 g_b40 F_bytes_b40 F_at_b40 F_end_b40) (hw _ (List.mem_of_getElem? (i := 6) rfl)) (hw _ (List.mem_of_getElem? (i := 3) rfl)) (by decide) (W := 1) (by decide) rfl (argsL := [(.ref b5), (.int o), (.int (5 : Int32))]) pd_4 rfl at_94 rfl (Nat.le_of_eq rfl) (by decide) (by decide) ?_
      rintro _ T41 h42 X41 ⟨rfl, K41, E41, G41_0, G41_1, G41_2⟩
      replace Z0 := Nat.le_trans Z0 K41.1
      replace A_ff := A_ff.keep K41 (ninS ne_b5_b40 nin0)
      replace E_b40 := E_b40.keep K41
      replace E_b40 := E41
      clear F_bytes_b40; have F_bytes_b40 := G41_0
      clear F_at_b40; have F_at_b40 := G41_1
      clear F_end_b40; have F_end_b40 := G41_2
      show OG p e below s n0 room_1.cells room_1.slots (Q0 Z i0 i1 i2 i3  h0) (T41.setTop (mkF m 97 #[.val (.int i0), .val (.int i1), .val (.int i2), .val (.int i3), .val (.int o), .val (.int vv), .val (.int fu), .val (.ref b5), .unset, .unset] [(.ref b40)]))
      refine OG.astore X41 at_97 (l' := #[.val (.int i0), .val (.int i1), .val (.int i2), .val (.int i3), .val (.int o), .val (.int vv), .val (.int fu), .val (.ref b5), .val (.ref b40), .unset]) rfl rfl ?_
      refine OG.aload X41 at_99 rfl rfl ?_
      refine OG.iloadN X41 at_101 rfl ?_
      refine OG.callV X41 (hw _ (List.mem_of_getElem? (i := 16) rfl)) (hw _ (List.mem_of_getElem? (i := 17) rfl)) (notFace_of_selects (args := #[]) (mvT X41.warm (hw _ (List.mem_of_getElem? (i := 19) rfl)))) (hw _ (List.mem_of_getElem? (i := 19) rfl)) (hw _ (List.mem_of_getElem? (i := 18) rfl)) (by decide) E_b40 (rm3 l Z a0 hw [] b40 i3 o h42 n0 F_at_b40) (hw _ (List.mem_of_getElem? (i := 20) rfl)) (hw _ (List.mem_of_getElem? (i := 3) rfl)) (by decide) (W := 0) (by decide) rfl (argsL := [(.int i3)]) pd_5 rfl at_102 rfl (Nat.le_of_eq rfl) (by decide) (by decide) ?_
      rintro _ T43 h44 X43 ⟨rfl, eh44⟩
      rw [eh44] at X43
      show OG p e below s n0 room_1.cells room_1.slots (Q0 Z i0 i1 i2 i3  h0) (T43.setTop (mkF m 105 #[.val (.int i0), .val (.int i1), .val (.int i2), .val (.int i3), .val (.int o), .val (.int vv), .val (.int fu), .val (.ref b5), .val (.ref b40), .unset] [(.int (F3 i3 o))]))
      refine OG.iload X43 at_105 rfl ?_
      refine OG.iloadN X43 at_107 rfl ?_
      have hj45 : ∀ x1 : Int32, x1 = (if o < i3 then (1 : Int32) else (0 : Int32)) → OG p e below s n0 room_1.cells room_1.slots (Q0 Z i0 i1 i2 i3  h0) (T43.setTop (mkF m 116 #[.val (.int i0), .val (.int i1), .val (.int i2), .val (.int i3), .val (.int o), .val (.int vv), .val (.int fu), .val (.ref b5), .val (.ref b40), .unset] [(.int x1), (.int (F3 i3 o))])) := by
        intro x1 hx1
        refine OG.icmp_eq_t X43 at_116 (pc' := 121) (by decide) (by rw [hx1]; rfl) ?_
        refine OG.aload X43 at_121 rfl rfl ?_
        refine OG.bipush X43 at_123 (z := (48 : Int32)) rfl ?_
        refine OG.callV X43 (hw _ (List.mem_of_getElem? (i := 21) rfl)) (hw _ (List.mem_of_getElem? (i := 22) rfl)) (notFace_of_selects (args := #[]) (mvT X43.warm (hw _ (List.mem_of_getElem? (i := 24) rfl)))) (hw _ (List.mem_of_getElem? (i := 24) rfl)) (hw _ (List.mem_of_getElem? (i := 23) rfl)) (by decide) E_b40 (rm4 l Z a0 hw [] b40 (48 : Int32) b5 o (o + (5 : Int32)) ff h42 n0 Z0 E_b40 g_b40 F_bytes_b40 F_at_b40 F_end_b40 A_ff ne_b5_b40 (own_k (P := fun o => o < o + 5) ho2 (by decide) (by decide) (by decide) (by decide)) (own_k (P := fun o => 0 ≤ o.toInt ∧ o.toInt < (8 : Nat)) ho2 (by decide) (by decide) (by decide) (by decide)) (own_k (P := fun o => 0 ≤ (o + 1).toInt ∧ (o + 1).toInt < (8 : Nat)) ho2 (by decide) (by decide) (by decide) (by decide)) e0 (by rw [e1]; decide) (own_k (P := fun o => o + 1 < o + 5) ho2 (by decide) (by decide) (by decide) (by decide)) (by rw [e1]; exact (own_k (P := fun o => ¬ o + 5 - (o + 1 + 1) < 3) ho2 (by decide) (by decide) (by decide) (by decide)))) (hw _ (List.mem_of_getElem? (i := 25) rfl)) (hw _ (List.mem_of_getElem? (i := 3) rfl)) (by decide) (W := 0) (by decide) rfl (argsL := [(.int (48 : Int32))]) pd_3 rfl at_125 rfl (Nat.le_of_eq rfl) (by decide) (by decide) ?_
        rintro _ T46 h47 X46 ⟨rfl, K46, E46, G46, H46, I46⟩
        replace Z0 := Nat.le_trans Z0 K46.1
        replace A_ff := A_ff.keep K46 (ninS ne_b5_b40 nin0)
        replace E_b40 := E_b40.keep K46
        replace E_b40 := E46
        clear F_bytes_b40 F_at_b40 F_end_b40
        have F_bytes_b40 := G46; have F_at_b40 := H46; have F_end_b40 := I46
        show OG p e below s n0 room_1.cells room_1.slots (Q0 Z i0 i1 i2 i3  h0) (T46.setTop (mkF m 128 #[.val (.int i0), .val (.int i1), .val (.int i2), .val (.int i3), .val (.int o), .val (.int vv), .val (.int fu), .val (.ref b5), .val (.ref b40), .unset] [(.int (((o + (1 : Int32)) + (1 : Int32)) + (fi ff (o + (1 : Int32)))))]))
        refine OG.istoreV X46 at_128 (l' := fun z => #[.val (.int i0), .val (.int i1), .val (.int i2), .val (.int i3), .val (.int o), .val (.int vv), .val (.int fu), .val (.ref b5), .val (.ref b40), .val (.int z)]) (fun _ => rfl) ?_
        intro en hen
        refine OG.iload X46 at_130 rfl ?_
        refine OG.iload X46 at_132 rfl ?_
        refine OG.iload X46 at_134 rfl ?_
        refine OG.if_eq_f X46 at_136 c39 ?_
        refine OG.iconst X46 at_139 (z := (5 : Int32)) rfl ?_
        refine OG.goto X46 at_140 (pc' := 144) (by decide) ?_
        refine OG.iadd X46 at_144 ?_
        refine OG.icmp_eq_t X46 at_145 (pc' := 150) (by decide) (by rw [hen, e1]; exact (own_k (P := fun o => o + 1 + 1 + 3 = o + 5) ho2 (by decide) (by decide) (by decide) (by decide))) ?_
        refine OG.aload X46 at_150 rfl rfl ?_
        refine OG.iloadN X46 at_152 rfl ?_
        refine OG.callV X46 (hw _ (List.mem_of_getElem? (i := 16) rfl)) (hw _ (List.mem_of_getElem? (i := 17) rfl)) (notFace_of_selects (args := #[]) (mvT X46.warm (hw _ (List.mem_of_getElem? (i := 19) rfl)))) (hw _ (List.mem_of_getElem? (i := 19) rfl)) (hw _ (List.mem_of_getElem? (i := 18) rfl)) (by decide) E_b40 (rm3 l Z a0 hw [] b40 i3 ((o + (1 : Int32)) + (1 : Int32)) h47 n0 F_at_b40) (hw _ (List.mem_of_getElem? (i := 20) rfl)) (hw _ (List.mem_of_getElem? (i := 3) rfl)) (by decide) (W := 0) (by decide) rfl (argsL := [(.int i3)]) pd_5 rfl at_153 rfl (Nat.le_of_eq rfl) (by decide) (by decide) ?_
        rintro _ T48 h49 X48 ⟨rfl, eh49⟩
        rw [eh49] at X48
        show OG p e below s n0 room_1.cells room_1.slots (Q0 Z i0 i1 i2 i3  h0) (T48.setTop (mkF m 156 #[.val (.int i0), .val (.int i1), .val (.int i2), .val (.int i3), .val (.int o), .val (.int vv), .val (.int fu), .val (.ref b5), .val (.ref b40), .val (.int en)] [(.int (F3 i3 ((o + (1 : Int32)) + (1 : Int32))))]))
        refine OG.iload X48 at_156 rfl ?_
        refine OG.iconst X48 at_158 (z := (2 : Int32)) rfl ?_
        refine OG.iadd X48 at_159 ?_
        refine OG.iloadN X48 at_160 rfl ?_
        have hj50 : ∀ x2 : Int32, x2 = (if (o + (2 : Int32)) < i3 then (1 : Int32) else (0 : Int32)) → OG p e below s n0 room_1.cells room_1.slots (Q0 Z i0 i1 i2 i3  h0) (T48.setTop (mkF m 169 #[.val (.int i0), .val (.int i1), .val (.int i2), .val (.int i3), .val (.int o), .val (.int vv), .val (.int fu), .val (.ref b5), .val (.ref b40), .val (.int en)] [(.int x2), (.int (F3 i3 ((o + (1 : Int32)) + (1 : Int32))))])) := by
          intro x2 hx2
          refine OG.icmp_eq_t X48 at_169 (pc' := 174) (by decide) (by rw [hx2, show o + 1 + 1 = o + 2 from (own_k (P := fun o => o + 1 + 1 = o + 2) ho2 (by decide) (by decide) (by decide) (by decide))]; rfl) ?_
          refine OG.aload X48 at_174 rfl rfl ?_
          refine OG.iload X48 at_176 rfl ?_
          refine OG.callV X48 (hw _ (List.mem_of_getElem? (i := 16) rfl)) (hw _ (List.mem_of_getElem? (i := 17) rfl)) (notFace_of_selects (args := #[]) (mvT X48.warm (hw _ (List.mem_of_getElem? (i := 19) rfl)))) (hw _ (List.mem_of_getElem? (i := 19) rfl)) (hw _ (List.mem_of_getElem? (i := 18) rfl)) (by decide) E_b40 (rm3 l Z a0 hw [] b40 en ((o + (1 : Int32)) + (1 : Int32)) h47 n0 F_at_b40) (hw _ (List.mem_of_getElem? (i := 20) rfl)) (hw _ (List.mem_of_getElem? (i := 3) rfl)) (by decide) (W := 0) (by decide) rfl (argsL := [(.int en)]) pd_5 rfl at_178 rfl (Nat.le_of_eq rfl) (by decide) (by decide) ?_
          rintro _ T51 h52 X51 ⟨rfl, eh52⟩
          rw [eh52] at X51
          show OG p e below s n0 room_1.cells room_1.slots (Q0 Z i0 i1 i2 i3  h0) (T51.setTop (mkF m 181 #[.val (.int i0), .val (.int i1), .val (.int i2), .val (.int i3), .val (.int o), .val (.int vv), .val (.int fu), .val (.ref b5), .val (.ref b40), .val (.int en)] [(.int (F3 en ((o + (1 : Int32)) + (1 : Int32))))]))
          refine OG.iload X51 at_181 rfl ?_
          refine OG.icmp_eq_t X51 at_183 (pc' := 188) (by decide) (by rw [hfu2, hen, e1]; exact (own_k (P := fun o => F3 (o + 1 + 1 + 3) (o + 1 + 1) = 1) ho2 (by decide) (by decide) (by decide) (by decide))) ?_
          refine OG.iload X51 at_188 rfl ?_
          refine OG.if_eq_f X51 at_190 c39 ?_
          refine OG.aload X51 at_193 rfl rfl ?_
          refine OG.iconst X51 at_195 (z := (2 : Int32)) rfl ?_
          refine OG.callV X51 (hw _ (List.mem_of_getElem? (i := 42) rfl)) (hw _ (List.mem_of_getElem? (i := 43) rfl)) (notFace_of_selects (args := #[]) (mvT X51.warm (hw _ (List.mem_of_getElem? (i := 45) rfl)))) (hw _ (List.mem_of_getElem? (i := 45) rfl)) (hw _ (List.mem_of_getElem? (i := 44) rfl)) (by decide) E_b40 (rm9 l Z a0 hw [] b40 (2 : Int32) b5 ((o + (1 : Int32)) + (1 : Int32)) (o + (5 : Int32)) ff h47 n0 Z0 E_b40 g_b40 F_bytes_b40 F_at_b40 F_end_b40 A_ff ne_b5_b40 (own_k (P := fun o => o + 1 + 1 < o + 5) ho2 (by decide) (by decide) (by decide) (by decide)) (own_k (P := fun o => 0 ≤ (o + 1 + 1).toInt ∧ (o + 1 + 1).toInt < (8 : Nat)) ho2 (by decide) (by decide) (by decide) (by decide)) (own_k (P := fun o => 0 ≤ (o + 1 + 1 + 1).toInt ∧ (o + 1 + 1 + 1).toInt < (8 : Nat)) ho2 (by decide) (by decide) (by decide) (by decide)) e2 (by rw [e3]; decide) (own_k (P := fun o => o + 1 + 1 + 1 < o + 5) ho2 (by decide) (by decide) (by decide) (by decide)) (by rw [e3]; exact (own_k (P := fun o => ¬ o + 5 - (o + 1 + 1 + 1 + 1) < 1) ho2 (by decide) (by decide) (by decide) (by decide))) e3 (own_k (P := fun o => 0 ≤ (o + 1 + 1 + 1 + 1).toInt ∧ (o + 1 + 1 + 1 + 1).toInt < (8 : Nat)) ho2 (by decide) (by decide) (by decide) (by decide)) (own_v hvv e4).1) (hw _ (List.mem_of_getElem? (i := 46) rfl)) (hw _ (List.mem_of_getElem? (i := 3) rfl)) (by decide) (W := 0) (by decide) rfl (argsL := [(.int (2 : Int32))]) pd_3 rfl at_196 rfl (Nat.le_of_eq rfl) (by decide) (by decide) ?_
          rintro _ T53 h54 X53 ⟨rfl, K53, E53, G53, H53, I53⟩
          replace Z0 := Nat.le_trans Z0 K53.1
          replace A_ff := A_ff.keep K53 (ninS ne_b5_b40 nin0)
          replace E_b40 := E_b40.keep K53
          replace E_b40 := E53
          clear F_bytes_b40 F_at_b40 F_end_b40
          have F_bytes_b40 := G53; have F_at_b40 := H53; have F_end_b40 := I53
          show OG p e below s n0 room_1.cells room_1.slots (Q0 Z i0 i1 i2 i3  h0) (T53.setTop (mkF m 199 #[.val (.int i0), .val (.int i1), .val (.int i2), .val (.int i3), .val (.int o), .val (.int vv), .val (.int fu), .val (.ref b5), .val (.ref b40), .val (.int en)] [(.int ((0 : Int32) <<< ((8 : Int32) &&& 31) ||| fi ff ((((o + (1 : Int32)) + (1 : Int32)) + (1 : Int32)) + (1 : Int32))))]))
          refine OG.iload X53 at_199 rfl ?_
          refine OG.icmp_eq_t X53 at_201 (pc' := 206) (by decide) (by show (0 : Int32) <<< ((8 : Int32) &&& 31) ||| (ff (o + 1 + 1 + 1 + 1).toInt.toNat &&& 255) = vv; exact (own_v hvv e4).2) ?_
          refine OG.aload X53 at_206 rfl rfl ?_
          refine OG.iload X53 at_208 rfl ?_
          refine OG.callV X53 (hw _ (List.mem_of_getElem? (i := 16) rfl)) (hw _ (List.mem_of_getElem? (i := 17) rfl)) (notFace_of_selects (args := #[]) (mvT X53.warm (hw _ (List.mem_of_getElem? (i := 19) rfl)))) (hw _ (List.mem_of_getElem? (i := 19) rfl)) (hw _ (List.mem_of_getElem? (i := 18) rfl)) (by decide) E_b40 (rm3 l Z a0 hw [] b40 en (((((o + (1 : Int32)) + (1 : Int32)) + (1 : Int32)) + (1 : Int32)) + (1 : Int32)) h54 n0 F_at_b40) (hw _ (List.mem_of_getElem? (i := 20) rfl)) (hw _ (List.mem_of_getElem? (i := 3) rfl)) (by decide) (W := 0) (by decide) rfl (argsL := [(.int en)]) pd_5 rfl at_210 rfl (Nat.le_of_eq rfl) (by decide) (by decide) ?_
          rintro _ T55 h56 X55 ⟨rfl, eh56⟩
          rw [eh56] at X55
          show OG p e below s n0 room_1.cells room_1.slots (Q0 Z i0 i1 i2 i3  h0) (T55.setTop (mkF m 213 #[.val (.int i0), .val (.int i1), .val (.int i2), .val (.int i3), .val (.int o), .val (.int vv), .val (.int fu), .val (.ref b5), .val (.ref b40), .val (.int en)] [(.int (F3 en (((((o + (1 : Int32)) + (1 : Int32)) + (1 : Int32)) + (1 : Int32)) + (1 : Int32))))]))
          refine OG.if_eq_t X55 at_213 (pc' := 218) (by decide) (by rw [hen, e1]; exact (own_k (P := fun o => F3 (o + 1 + 1 + 3) (o + 1 + 1 + 1 + 1 + 1) = 0) ho2 (by decide) (by decide) (by decide) (by decide))) ?_
          refine OG.aload X55 at_218 rfl rfl ?_
          refine OG.iloadN X55 at_220 rfl ?_
          refine OG.callV X55 (hw _ (List.mem_of_getElem? (i := 16) rfl)) (hw _ (List.mem_of_getElem? (i := 17) rfl)) (notFace_of_selects (args := #[]) (mvT X55.warm (hw _ (List.mem_of_getElem? (i := 19) rfl)))) (hw _ (List.mem_of_getElem? (i := 19) rfl)) (hw _ (List.mem_of_getElem? (i := 18) rfl)) (by decide) E_b40 (rm3 l Z a0 hw [] b40 i3 (((((o + (1 : Int32)) + (1 : Int32)) + (1 : Int32)) + (1 : Int32)) + (1 : Int32)) h54 n0 F_at_b40) (hw _ (List.mem_of_getElem? (i := 20) rfl)) (hw _ (List.mem_of_getElem? (i := 3) rfl)) (by decide) (W := 0) (by decide) rfl (argsL := [(.int i3)]) pd_5 rfl at_221 rfl (Nat.le_of_eq rfl) (by decide) (by decide) ?_
          rintro _ T57 h58 X57 ⟨rfl, eh58⟩
          rw [eh58] at X57
          show OG p e below s n0 room_1.cells room_1.slots (Q0 Z i0 i1 i2 i3  h0) (T57.setTop (mkF m 224 #[.val (.int i0), .val (.int i1), .val (.int i2), .val (.int i3), .val (.int o), .val (.int vv), .val (.int fu), .val (.ref b5), .val (.ref b40), .val (.int en)] [(.int (F3 i3 (((((o + (1 : Int32)) + (1 : Int32)) + (1 : Int32)) + (1 : Int32)) + (1 : Int32))))]))
          refine OG.iload X57 at_224 rfl ?_
          refine OG.iconst X57 at_226 (z := (5 : Int32)) rfl ?_
          refine OG.iadd X57 at_227 ?_
          refine OG.iloadN X57 at_228 rfl ?_
          have hj59 : ∀ x3 : Int32, x3 = (if (o + (5 : Int32)) < i3 then (1 : Int32) else (0 : Int32)) → OG p e below s n0 room_1.cells room_1.slots (Q0 Z i0 i1 i2 i3  h0) (T57.setTop (mkF m 237 #[.val (.int i0), .val (.int i1), .val (.int i2), .val (.int i3), .val (.int o), .val (.int vv), .val (.int fu), .val (.ref b5), .val (.ref b40), .val (.int en)] [(.int x3), (.int (F3 i3 (((((o + (1 : Int32)) + (1 : Int32)) + (1 : Int32)) + (1 : Int32)) + (1 : Int32))))])) := by
            intro x3 hx3
            refine OG.icmp_eq_t X57 at_237 (pc' := 242) (by decide) (by rw [hx3, show o + 1 + 1 + 1 + 1 + 1 = o + 5 from (own_k (P := fun o => o + 1 + 1 + 1 + 1 + 1 = o + 5) ho2 (by decide) (by decide) (by decide) (by decide))]; rfl) ?_
            refine OG.iconst X57 at_242 (z := (1 : Int32)) rfl ?_
            exact OG.retN X57 (t := .boolean) at_243 (by simp) (by decide) (by decide) rfl
          refine OG.icmp_ge X57 at_229 (pc' := 236) (by decide) ?_ ?_
          · intro c229
            refine OG.iconst X57 at_236 (z := (0 : Int32)) rfl ?_
            exact hj59 _ (by rw [if_neg c229])
          · intro c229
            refine OG.iconst X57 at_232 (z := (1 : Int32)) rfl ?_
            refine OG.goto X57 at_233 (pc' := 237) (by decide) ?_
            exact hj59 _ (by rw [if_pos c229])
        refine OG.icmp_ge X48 at_161 (pc' := 168) (by decide) ?_ ?_
        · intro c161
          refine OG.iconst X48 at_168 (z := (0 : Int32)) rfl ?_
          exact hj50 _ (by rw [if_neg c161])
        · intro c161
          refine OG.iconst X48 at_164 (z := (1 : Int32)) rfl ?_
          refine OG.goto X48 at_165 (pc' := 169) (by decide) ?_
          exact hj50 _ (by rw [if_pos c161])
      refine OG.icmp_ge X43 at_108 (pc' := 115) (by decide) ?_ ?_
      · intro c108
        refine OG.iconst X43 at_115 (z := (0 : Int32)) rfl ?_
        exact hj45 _ (by rw [if_neg c108])
      · intro c108
        refine OG.iconst X43 at_111 (z := (1 : Int32)) rfl ?_
        refine OG.goto X43 at_112 (pc' := 116) (by decide) ?_
        exact hj45 _ (by rw [if_pos c108])
  refine OG.if_eq X at_14 (pc' := 21) (by decide) ?_ ?_
  · intro c14
    refine OG.iconst X at_21 (z := (0 : Int32)) rfl ?_
    exact hj1 _ (by rw [if_pos c14])
  · intro c14
    refine OG.iconst X at_17 (z := (1 : Int32)) rfl ?_
    refine OG.goto X at_18 (pc' := 22) (by decide) ?_
    exact hj1 _ (by rw [if_neg c14])
set_option maxRecDepth 65536 in
set_option maxHeartbeats 40000000 in
theorem comes_1 {Post : Tables → Env → Array Value → State → Outcome → State → Prop} (hpost : ∀ tb e args s v u, (limb_1_1.after args s (.returned v) u = true ∧ limb_1_2.after args s (.returned v) u = true ∧ True) → FrameEnd s (.returned v) u (Jvm.fieldLocs frame_1_writes args s ++ Jvm.arrayLocs frame_1_arrays args s ++ Jvm.staticLocs frame_1_statics s) 16 128 → Post tb e args s (.returned v) u) :
    ArmFor flags0 classFile x code maxLocals ret World_1 tables_1 room_1 Calls_1 rest_1 Pre_1 Post := by
  intro l hfl _ _ p e ha hc hk s m args below hf hA hF happ hP
  obtain ⟨hcalls, hrest, hpre⟩ := hP
  obtain ⟨-, -, -, hnamed, -, -, -, hat⟩ := (Spec.applies_iff hf).mp happ
  obtain ⟨hg, hn⟩ := and_e (Cond.before_iff.mp (show (Jvm.Cond.and given_1 narrow_1).before args s = true from hpre))
  obtain ⟨g1, g2⟩ := and_e hg
  obtain ⟨g3, g4⟩ := and_e g2
  obtain ⟨g5, g6⟩ := and_e g4
  obtain ⟨g7, g8⟩ := and_e g6
  obtain ⟨w0, w1, w2, w3, rfl⟩ : ∃ w0 w1 w2 w3 : Value, args = #[w0, w1, w2, w3] := by
    have hs : args.size = 4 := by simpa [Cond.value, given_1] using g1
    obtain ⟨L⟩ := args
    match L, hs with
    | [w0, w1, w2, w3], _ => exact ⟨w0, w1, w2, w3, rfl⟩
  have hw := fun d (hd : d ∈ tables_1) => atoms_spec (ws := Jvm.Cond.code x code maxLocals ret :: tables_1) hat d (List.mem_cons_of_mem _ hd)
  have hfit : Fit s := fun {y c} hc i hi => by
    obtain ⟨ha, rfl⟩ := Array.getElem?_eq_some_iff.mp hc
    have q := List.all_eq_true.mp ((Array.all_eq_true_iff_forall_mem.mp hF) _ (Array.getElem_mem ha)) i (List.mem_range.mpr hi)
    simpa [Array.getElem?_eq_getElem hi] using q
  obtain ⟨i0, ei0⟩ := is_v g3
  obtain rfl : w0 = (.int i0) := Option.some.inj ei0
  obtain ⟨i1, ei1⟩ := is_v g5
  obtain rfl : w1 = (.int i1) := Option.some.inj ei1
  obtain ⟨i2, ei2⟩ := is_v g7
  obtain rfl : w2 = (.int i2) := Option.some.inj ei2
  obtain ⟨i3, ei3⟩ := is_v g8
  obtain rfl : w3 = (.int i3) := Option.some.inj ei3
  obtain ⟨n, o, h1, h2, h3, _, L, rfl, ⟨rfl, N⟩, hq⟩ := rm0 l s _ hw tables_1 i0 i1 i2 i3 s.heap s.heap.size (Nat.le_refl _)  p e ha hc hk s m _ below hf ((Spec.applies_iff_loose hf).mp happ).1 ⟨rfl, State.Warmed39.refl s, rfl⟩ trivial
  refine ⟨n, _, h1, h2, h3, hpost _ _ _ _ _ _ ⟨Cond.after_iff.mpr rfl, Cond.after_iff.mpr (eq_i res_at (Term.int_eval (1)) rfl), trivial⟩ ⟨hq.1, hq.2.1, (hq.2.2.sift fun y hy => Or.inr (N y hy)).mono (by decide) (by decide)⟩⟩
theorem main_1_1 : Claimed_1_1 := comes_1 fun _ _ _ _ _ _ h hF => ⟨h.1, hF⟩
theorem main_1_2 : Claimed_1_2 := comes_1 fun _ _ _ _ _ _ h hF => ⟨h.2.1, hF⟩
end Jvm.Pilot.@@N@@
namespace Jvm.Pilot.@@N@@
open Jvm Jvm.ClassFile Sem Op Lib Jvm.Free Jvm.Stand Jvm.Pilot.@@N@@.Jvm.D
/-! MADE BY PROGRAM (witnessworld.py) out of the Statement's table words and the real class files: 10 classes; the members and pool entries that the words name. The judged class is class 1, her method 1. -/
namespace start1
open Jvm.ClassFile
def u (s : String) : CpInfo := .utf8 (stringToUtf16 s)
/-- a pool by its gaps: so many unusable entries, then the entry; so many at the end -/
def gap : Nat → List CpInfo → List CpInfo
  | 0, r => r
  | n + 1, r => .unusable :: gap n r
def poolList (es : List (Nat × CpInfo)) (last : Nat) : List CpInfo := es.foldr (fun e r => gap e.1 (e.2 :: r)) (gap last [])
def pool (es : List (Nat × CpInfo)) (last : Nat) : Array CpInfo := ⟨poolList es last⟩
def fileOf (pool : Array CpInfo) (this : Nat) (attrs : Array Attribute := #[]) (ms : Array MethodInfo := #[]) (fl : Nat := 33) (sup : Nat := 0) (ifs : Array Nat := #[]) (fds : Array FieldInfo := #[]) : ClassFile where
  minorVersion := 0
  majorVersion := 65
  constantPool := pool
  accessFlags := fl
  thisClass := this
  superClass := sup
  interfaces := ifs
  fields := fds
  methods := ms
  attributes := attrs
def plain (name : String) (sup : Option ClassId) : Class where
  name := name
  kind := .ordinary
  loader := none
  accessFlags := 33
  super := sup
  interfaces := #[]
  cf := none
  fields := #[]
  methods := #[]
  instanceTypes := #[]
  staticTypes := #[]
  resolved := #[]
  callSites := []
  init := .initialized
  statics := none
  mirror := none

def pool0 : Array CpInfo := pool [(5, u "<init>"), (0, u "()V"), (1, .class_ 10), (1, u "java/lang/Object")] 113

def k0c0 : Code := { maxStack := 0, maxLocals := 1, code := object_method_1_code, exceptionTable := #[], attributes := #[] }
def k0m0 : Method := { name := "<init>", desc := "()V", sig := { parameters := [], returnType := none }, accessFlags := 1, code := some k0c0 }
/-- java/lang/Object -/
def k0 : Class := { plain "java/lang/Object" none with
  accessFlags := 33
  interfaces := #[]
  cf := some (fileOf pool0 8 #[] #[{ accessFlags := 1, nameIndex := 5, descriptorIndex := 6, attributes := #[] }] 33 0 #[] #[])
  fields := #[]
  methods := #[k0m0]
  instanceTypes := #[]
  staticTypes := #[]
  resolved := Array.replicate 124 none
  statics := none }

def pool1 : Array CpInfo := pool [(2, .class_ 4), (1, u "java/lang/Object"), (0, u "<init>"), (0, u "()V"), (0, .class_ 8), (0, u "com/example/resolvent/resolvent/ldap/Ber$Reader"), (0, .methodref 7 10), (0, .nameAndType 5 11), (0, u "([BII)V"), (0, .methodref 7 13), (0, .nameAndType 14 15), (0, u "before"), (0, u "(I)Z"), (2, .methodref 7 19), (0, .nameAndType 20 21), (0, u "enter"), (0, u "(I)I"), (0, .methodref 7 23), (0, .nameAndType 24 21), (0, u "integer"), (0, .class_ 26), (0, u "com/example/resolvent/resolvent/ldap/ReaderBeforePinLaw"), (2, u "law"), (0, u "(IIII)Z")] 10

def k1m0 : Method := { name := "<init>", desc := "()V", sig := { parameters := [], returnType := none }, accessFlags := 1, code := none }
def k1c1 : Code := { maxStack := 5, maxLocals := 10, code := code, exceptionTable := #[], attributes := #[] }
def k1m1 : Method := { name := "law", desc := "(IIII)Z", sig := { parameters := [.int, .int, .int, .int], returnType := some .boolean }, accessFlags := 9, code := some k1c1 }
/-- com/example/resolvent/resolvent/ldap/ReaderBeforePinLaw -/
def k1 : Class := { plain "com/example/resolvent/resolvent/ldap/ReaderBeforePinLaw" (some 0) with
  accessFlags := 49
  interfaces := #[]
  cf := some (fileOf pool1 25 #[] #[{ accessFlags := 1, nameIndex := 5, descriptorIndex := 6, attributes := #[] }, { accessFlags := 9, nameIndex := 29, descriptorIndex := 30, attributes := #[] }] 49 2 #[] #[])
  fields := #[]
  methods := #[k1m0, k1m1]
  instanceTypes := #[]
  staticTypes := #[]
  resolved := Array.replicate 41 none
  statics := none }

def pool2 : Array CpInfo := pool [(1, .methodref 2 3), (0, .class_ 4), (0, .nameAndType 5 6), (0, u "java/lang/Object"), (0, u "<init>"), (0, u "()V"), (0, .fieldref 8 9), (0, .class_ 10), (0, .nameAndType 11 12), (0, u "com/example/resolvent/resolvent/ldap/Ber$Reader"), (0, u "bytes"), (0, u "[B"), (0, .fieldref 8 14), (0, .nameAndType 15 16), (0, u "at"), (0, u "I"), (0, .fieldref 8 18), (0, .nameAndType 19 16), (0, u "end"), (6, .methodref 8 27), (0, .nameAndType 28 29), (0, u "header"), (0, u "(I)I"), (26, .methodref 8 57), (0, .nameAndType 58 59), (0, u "peekTag"), (0, u "()I"), (10, .methodref 71 72), (0, .class_ 73), (0, .nameAndType 74 75), (0, u "com/example/resolvent/resolvent/ldap/Ber"), (0, u "lengthAt"), (0, u "([BII)I"), (2, .methodref 71 79), (0, .nameAndType 80 81), (0, u "lengthSize"), (0, u "([BI)I"), (10, u "([BII)V"), (2, u "before"), (0, u "(I)Z"), (2, u "enter"), (0, u "integer")] 24

def k2c0 : Code := { maxStack := 3, maxLocals := 4, code := prog_47_method_1_code, exceptionTable := #[], attributes := #[] }
def k2m0 : Method := { name := "<init>", desc := "([BII)V", sig := { parameters := [(.array .byte), .int, .int], returnType := none }, accessFlags := 0, code := some k2c0 }
def k2c1 : Code := { maxStack := 2, maxLocals := 2, code := prog_47_method_2_code, exceptionTable := #[], attributes := #[] }
def k2m1 : Method := { name := "before", desc := "(I)Z", sig := { parameters := [.int], returnType := some .boolean }, accessFlags := 0, code := some k2c1 }
def k2c2 : Code := { maxStack := 2, maxLocals := 1, code := prog_47_method_3_code, exceptionTable := #[], attributes := #[] }
def k2m2 : Method := { name := "peekTag", desc := "()I", sig := { parameters := [], returnType := some .int }, accessFlags := 0, code := some k2c2 }
def k2c3 : Code := { maxStack := 2, maxLocals := 3, code := prog_47_method_4_code, exceptionTable := #[], attributes := #[] }
def k2m3 : Method := { name := "enter", desc := "(I)I", sig := { parameters := [.int], returnType := some .int }, accessFlags := 0, code := some k2c3 }
def k2c4 : Code := { maxStack := 6, maxLocals := 5, code := prog_47_method_5_code, exceptionTable := #[], attributes := #[] }
def k2m4 : Method := { name := "integer", desc := "(I)I", sig := { parameters := [.int], returnType := some .int }, accessFlags := 0, code := some k2c4 }
def k2c5 : Code := { maxStack := 4, maxLocals := 3, code := prog_47_method_8_code, exceptionTable := #[], attributes := #[] }
def k2m5 : Method := { name := "header", desc := "(I)I", sig := { parameters := [.int], returnType := some .int }, accessFlags := 2, code := some k2c5 }
/-- com/example/resolvent/resolvent/ldap/Ber$Reader -/
def k2 : Class := { plain "com/example/resolvent/resolvent/ldap/Ber$Reader" (some 0) with
  accessFlags := 48
  interfaces := #[]
  cf := some (fileOf pool2 8 #[.nestHost 71] #[{ accessFlags := 0, nameIndex := 5, descriptorIndex := 92, attributes := #[] }, { accessFlags := 0, nameIndex := 95, descriptorIndex := 96, attributes := #[] }, { accessFlags := 0, nameIndex := 58, descriptorIndex := 59, attributes := #[] }, { accessFlags := 0, nameIndex := 99, descriptorIndex := 29, attributes := #[] }, { accessFlags := 0, nameIndex := 100, descriptorIndex := 29, attributes := #[] }, { accessFlags := 2, nameIndex := 28, descriptorIndex := 29, attributes := #[] }] 48 2 #[] #[{ accessFlags := 18, nameIndex := 11, descriptorIndex := 12, attributes := #[] }, { accessFlags := 2, nameIndex := 15, descriptorIndex := 16, attributes := #[] }, { accessFlags := 18, nameIndex := 19, descriptorIndex := 16, attributes := #[] }])
  fields := #[{ name := "bytes", type := (.array .byte), accessFlags := 18, slot := 0, constantValue := 0 }, { name := "at", type := .int, accessFlags := 2, slot := 1, constantValue := 0 }, { name := "end", type := .int, accessFlags := 18, slot := 2, constantValue := 0 }]
  methods := #[k2m0, k2m1, k2m2, k2m3, k2m4, k2m5]
  instanceTypes := #[(.array .byte), .int, .int]
  staticTypes := #[]
  resolved := Array.replicate 125 none
  statics := none }

def pool3 : Array CpInfo := pool [(2, .class_ 4), (1, u "java/lang/Object"), (0, u "<init>"), (0, u "()V"), (5, .class_ 14), (1, u "com/example/resolvent/resolvent/ldap/Ber$Reader"), (4, .class_ 20), (0, u "com/example/resolvent/resolvent/ldap/Ber"), (0, u "BOOLEAN"), (0, u "I"), (2, u "INTEGER"), (1, u "OCTET_STRING"), (1, u "ENUMERATED"), (1, u "SEQUENCE"), (1, u "SET"), (3, u "lengthAt"), (0, u "([BII)I"), (6, u "lengthSize"), (0, u "([BI)I"), (3, .class_ 51), (0, u "com/example/resolvent/resolvent/ldap/Ber$Writer")] 3

def k3m0 : Method := { name := "<init>", desc := "()V", sig := { parameters := [], returnType := none }, accessFlags := 2, code := none }
def k3c1 : Code := { maxStack := 4, maxLocals := 7, code := prog_46_method_2_code, exceptionTable := #[], attributes := #[] }
def k3m1 : Method := { name := "lengthAt", desc := "([BII)I", sig := { parameters := [(.array .byte), .int, .int], returnType := some .int }, accessFlags := 8, code := some k3c1 }
def k3c2 : Code := { maxStack := 3, maxLocals := 3, code := prog_46_method_3_code, exceptionTable := #[], attributes := #[] }
def k3m2 : Method := { name := "lengthSize", desc := "([BI)I", sig := { parameters := [(.array .byte), .int], returnType := some .int }, accessFlags := 8, code := some k3c2 }
/-- com/example/resolvent/resolvent/ldap/Ber -/
def k3 : Class := { plain "com/example/resolvent/resolvent/ldap/Ber" (some 0) with
  accessFlags := 48
  interfaces := #[]
  cf := some (fileOf pool3 19 #[.nestMembers #[12, 50]] #[{ accessFlags := 2, nameIndex := 5, descriptorIndex := 6, attributes := #[] }, { accessFlags := 8, nameIndex := 37, descriptorIndex := 38, attributes := #[] }, { accessFlags := 8, nameIndex := 45, descriptorIndex := 46, attributes := #[] }] 48 2 #[] #[{ accessFlags := 24, nameIndex := 21, descriptorIndex := 22, attributes := #[] }, { accessFlags := 24, nameIndex := 25, descriptorIndex := 22, attributes := #[] }, { accessFlags := 24, nameIndex := 27, descriptorIndex := 22, attributes := #[] }, { accessFlags := 24, nameIndex := 29, descriptorIndex := 22, attributes := #[] }, { accessFlags := 24, nameIndex := 31, descriptorIndex := 22, attributes := #[] }, { accessFlags := 24, nameIndex := 33, descriptorIndex := 22, attributes := #[] }])
  fields := #[{ name := "BOOLEAN", type := .int, accessFlags := 24, slot := 0, constantValue := 0 }, { name := "INTEGER", type := .int, accessFlags := 24, slot := 1, constantValue := 0 }, { name := "OCTET_STRING", type := .int, accessFlags := 24, slot := 2, constantValue := 0 }, { name := "ENUMERATED", type := .int, accessFlags := 24, slot := 3, constantValue := 0 }, { name := "SEQUENCE", type := .int, accessFlags := 24, slot := 4, constantValue := 0 }, { name := "SET", type := .int, accessFlags := 24, slot := 5, constantValue := 0 }]
  methods := #[k3m0, k3m1, k3m2]
  instanceTypes := #[]
  staticTypes := #[.int, .int, .int, .int, .int, .int]
  resolved := Array.replicate 55 none
  statics := none }

def pool4 : Array CpInfo := pool [(1, u "java/lang/Cloneable"), (0, .class_ 1), (0, u "java/lang/Object"), (0, .class_ 3)] 3

/-- java/lang/Cloneable -/
def k4 : Class := { plain "java/lang/Cloneable" (some 0) with
  accessFlags := 1537
  interfaces := #[]
  cf := some (fileOf pool4 2 #[] #[] 1537 4 #[] #[])
  fields := #[]
  methods := #[]
  instanceTypes := #[]
  staticTypes := #[]
  resolved := Array.replicate 8 none
  statics := none }

def pool5 : Array CpInfo := pool [(1, u "java/io/Serializable"), (0, .class_ 1), (0, u "java/lang/Object"), (0, .class_ 3)] 3

/-- java/io/Serializable -/
def k5 : Class := { plain "java/io/Serializable" (some 0) with
  accessFlags := 1537
  interfaces := #[]
  cf := some (fileOf pool5 2 #[] #[] 1537 4 #[] #[])
  fields := #[]
  methods := #[]
  instanceTypes := #[]
  staticTypes := #[]
  resolved := Array.replicate 8 none
  statics := none }

/-- the primitive byte -/
def k6 : Class := { plain "byte" none with kind := .primitive 'B', accessFlags := 0x411 }
/-- [B -/
def k7 : Class := { plain "[B" (some 0) with kind := .array 6 .byte, interfaces := #[4, 5], accessFlags := 1041 }

/-- the primitive int -/
def k8 : Class := { plain "int" none with kind := .primitive 'I', accessFlags := 0x411 }
/-- [I -/
def k9 : Class := { plain "[I" (some 0) with kind := .array 8 .int, interfaces := #[4, 5], accessFlags := 1041 }

def heap : Heap := #[]
def classes : Array Class := #[k0, k1, k2, k3, k4, k5, k6, k7, k8, k9]
def interned : List (Array UInt16 × Addr) := []
def slotsUsed : Nat := 0
def theMethod : MethodId := ⟨1, 1⟩
def args0 : Array Value := #[.int 5, .int 300, .int 7, .int 8]
def aboutOver (below : List Frame) : State where
  vm := { classes := classes, interned := interned.toArray }
  heap := heap
  slotsUsed := slotsUsed
  threads := #[{ frames := .invoking theMethod args0 :: below }]
def below0 : List Frame := [.native { method := ⟨0, 0⟩, args := #[] }]
def about1 : State := aboutOver below0
def p0 : Program := .bare "" "" ""
def e0 : Env := launch0.env 0 0 0
theorem w_frames : about1.frames = Frame.invoking theMethod args0 :: below0 := rfl
set_option maxRecDepth 65536 in
theorem w_args : argsFit about1.vm theMethod args0 = true := by decide +kernel
set_option maxRecDepth 65536 in
theorem w_heap : heapFits about1 = true := by decide +kernel
set_option maxRecDepth 65536 in
theorem w_runnable : about1.curStatus? = some .runnable := by decide +kernel
set_option maxRecDepth 65536 in
theorem w_alone : about1.alone = true := by decide +kernel
set_option maxRecDepth 65536 in
theorem w_named : about1.methodNamed? x = some theMethod := by decide +kernel
set_option maxRecDepth 65536 in
theorem w_hears : about1.hears theMethod below0 = true := by decide +kernel
set_option maxRecDepth 65536 in
theorem w_ripe : about1.ripe theMethod args0 below0 = true := by decide +kernel
theorem w_running : about1.status = .running := rfl
set_option maxRecDepth 65536 in
theorem w_room : about1.hasRoom e0.platform room_1 = true :=
  launch0.hasRoom_least _ room_1 (by decide +kernel) (by decide +kernel) (by decide +kernel) (by decide +kernel) (by decide +kernel) (by decide +kernel)
theorem allAtoms_all (ts : List Jvm.Cond) (a : Array Jvm.Value) (st : Jvm.State) : (allAtoms ts).before a st = ts.all (fun c => c.before a st) := by
  induction ts with
  | nil => rfl
  | cons c t ih =>
    show (Jvm.Cond.and c (allAtoms t)).before a st = _
    rw [Jvm.Cond.before_and, ih, List.all_cons]
def words1 : List Jvm.Cond := Jvm.Cond.code x code maxLocals ret :: tables_1
/-- a 'code' word, met by the world's own term for the bytes: nothing is compared byte by byte -/
theorem code_word {y : MethodName} {bytes : ByteArray} {mx : Nat} {rt : Option FieldType} {a : Array Value} {s : State} {m : MethodId} {meth : Method} {c : Code} (h1 : s.methodNamed? y = some m) (h2 : s.vm.method? m = some meth) (h3 : meth.code = some c) (h4 : c.code = bytes)
    (h5 : (c.maxLocals == mx && c.exceptionTable.isEmpty && decide (c.maxStack ≤ mostOperands) && decide (meth.sig.returnType = rt) && !meth.locks && decide (parseMethodDescriptor y.desc = some meth.sig)) = true) : (Jvm.Cond.code y bytes mx rt).before a s = true := by
  simp only [Bool.and_eq_true, beq_iff_eq, Bool.not_eq_true', decide_eq_true_eq] at h5
  obtain ⟨⟨⟨⟨⟨g1, g2⟩, g3⟩, g4⟩, g5⟩, g6⟩ := h5
  simp [Cond.before, Cond.holds, Cond.value, h1, h2, h3, h4, g1, g2, g3, g4, g5, g6]
def isCode : Jvm.Cond → Bool
  | .code _ _ _ _ => true
  | _ => false
theorem all_split {L : List Jvm.Cond} {P : Jvm.Cond → Bool} (h1 : L.all (fun c => isCode c || P c) = true) (h2 : ∀ c ∈ L.filter isCode, P c = true) : L.all P = true := by
  refine List.all_eq_true.mpr fun c hc => ?_
  have h := List.all_eq_true.mp h1 c hc
  rcases Bool.eq_false_or_eq_true (isCode c) with hi | hi
  · exact h2 c (List.mem_filter.mpr ⟨hc, hi⟩)
  · simpa [hi] using h
set_option maxRecDepth 65536 in
theorem w_c0 : (Jvm.Cond.code x code maxLocals ret).before args0 about1 = true := code_word (m := ⟨1, 1⟩) (meth := k1m1) (c := k1c1) (by decide +kernel) rfl rfl rfl (by decide +kernel)
set_option maxRecDepth 65536 in
theorem w_c1 : (Jvm.Cond.code ({ cls := "com/example/resolvent/resolvent/ldap/Ber$Reader", name := "<init>", desc := "([BII)V" } : Jvm.MethodName) prog_47_method_1_code (4 : Nat) (Option.none : Option Jvm.ClassFile.FieldType)).before args0 about1 = true := code_word (m := ⟨2, 0⟩) (meth := k2m0) (c := k2c0) (by decide +kernel) rfl rfl rfl (by decide +kernel)
set_option maxRecDepth 65536 in
theorem w_c2 : (Jvm.Cond.code ({ cls := "java/lang/Object", name := "<init>", desc := "()V" } : Jvm.MethodName) object_method_1_code (1 : Nat) (Option.none : Option Jvm.ClassFile.FieldType)).before args0 about1 = true := code_word (m := ⟨0, 0⟩) (meth := k0m0) (c := k0c0) (by decide +kernel) rfl rfl rfl (by decide +kernel)
set_option maxRecDepth 65536 in
theorem w_c3 : (Jvm.Cond.code ({ cls := "com/example/resolvent/resolvent/ldap/Ber$Reader", name := "before", desc := "(I)Z" } : Jvm.MethodName) prog_47_method_2_code (2 : Nat) (Option.some Jvm.ClassFile.FieldType.boolean)).before args0 about1 = true := code_word (m := ⟨2, 1⟩) (meth := k2m1) (c := k2c1) (by decide +kernel) rfl rfl rfl (by decide +kernel)
set_option maxRecDepth 65536 in
theorem w_c4 : (Jvm.Cond.code ({ cls := "com/example/resolvent/resolvent/ldap/Ber$Reader", name := "enter", desc := "(I)I" } : Jvm.MethodName) prog_47_method_4_code (3 : Nat) (Option.some Jvm.ClassFile.FieldType.int)).before args0 about1 = true := code_word (m := ⟨2, 3⟩) (meth := k2m3) (c := k2c3) (by decide +kernel) rfl rfl rfl (by decide +kernel)
set_option maxRecDepth 65536 in
theorem w_c5 : (Jvm.Cond.code ({ cls := "com/example/resolvent/resolvent/ldap/Ber$Reader", name := "header", desc := "(I)I" } : Jvm.MethodName) prog_47_method_8_code (3 : Nat) (Option.some Jvm.ClassFile.FieldType.int)).before args0 about1 = true := code_word (m := ⟨2, 5⟩) (meth := k2m5) (c := k2c5) (by decide +kernel) rfl rfl rfl (by decide +kernel)
set_option maxRecDepth 65536 in
theorem w_c6 : (Jvm.Cond.code ({ cls := "com/example/resolvent/resolvent/ldap/Ber$Reader", name := "peekTag", desc := "()I" } : Jvm.MethodName) prog_47_method_3_code (1 : Nat) (Option.some Jvm.ClassFile.FieldType.int)).before args0 about1 = true := code_word (m := ⟨2, 2⟩) (meth := k2m2) (c := k2c2) (by decide +kernel) rfl rfl rfl (by decide +kernel)
set_option maxRecDepth 65536 in
theorem w_c7 : (Jvm.Cond.code ({ cls := "com/example/resolvent/resolvent/ldap/Ber", name := "lengthAt", desc := "([BII)I" } : Jvm.MethodName) prog_46_method_2_code (7 : Nat) (Option.some Jvm.ClassFile.FieldType.int)).before args0 about1 = true := code_word (m := ⟨3, 1⟩) (meth := k3m1) (c := k3c1) (by decide +kernel) rfl rfl rfl (by decide +kernel)
set_option maxRecDepth 65536 in
theorem w_c8 : (Jvm.Cond.code ({ cls := "com/example/resolvent/resolvent/ldap/Ber", name := "lengthSize", desc := "([BI)I" } : Jvm.MethodName) prog_46_method_3_code (3 : Nat) (Option.some Jvm.ClassFile.FieldType.int)).before args0 about1 = true := code_word (m := ⟨3, 2⟩) (meth := k3m2) (c := k3c2) (by decide +kernel) rfl rfl rfl (by decide +kernel)
set_option maxRecDepth 65536 in
theorem w_c9 : (Jvm.Cond.code ({ cls := "com/example/resolvent/resolvent/ldap/Ber$Reader", name := "integer", desc := "(I)I" } : Jvm.MethodName) prog_47_method_5_code (5 : Nat) (Option.some Jvm.ClassFile.FieldType.int)).before args0 about1 = true := code_word (m := ⟨2, 4⟩) (meth := k2m4) (c := k2c4) (by decide +kernel) rfl rfl rfl (by decide +kernel)
def codes1 : List Jvm.Cond := [Jvm.Cond.code x code maxLocals ret, Jvm.Cond.code ({ cls := "com/example/resolvent/resolvent/ldap/Ber$Reader", name := "<init>", desc := "([BII)V" } : Jvm.MethodName) prog_47_method_1_code (4 : Nat) (Option.none : Option Jvm.ClassFile.FieldType), Jvm.Cond.code ({ cls := "java/lang/Object", name := "<init>", desc := "()V" } : Jvm.MethodName) object_method_1_code (1 : Nat) (Option.none : Option Jvm.ClassFile.FieldType), Jvm.Cond.code ({ cls := "com/example/resolvent/resolvent/ldap/Ber$Reader", name := "before", desc := "(I)Z" } : Jvm.MethodName) prog_47_method_2_code (2 : Nat) (Option.some Jvm.ClassFile.FieldType.boolean), Jvm.Cond.code ({ cls := "com/example/resolvent/resolvent/ldap/Ber$Reader", name := "enter", desc := "(I)I" } : Jvm.MethodName) prog_47_method_4_code (3 : Nat) (Option.some Jvm.ClassFile.FieldType.int), Jvm.Cond.code ({ cls := "com/example/resolvent/resolvent/ldap/Ber$Reader", name := "header", desc := "(I)I" } : Jvm.MethodName) prog_47_method_8_code (3 : Nat) (Option.some Jvm.ClassFile.FieldType.int), Jvm.Cond.code ({ cls := "com/example/resolvent/resolvent/ldap/Ber$Reader", name := "peekTag", desc := "()I" } : Jvm.MethodName) prog_47_method_3_code (1 : Nat) (Option.some Jvm.ClassFile.FieldType.int), Jvm.Cond.code ({ cls := "com/example/resolvent/resolvent/ldap/Ber", name := "lengthAt", desc := "([BII)I" } : Jvm.MethodName) prog_46_method_2_code (7 : Nat) (Option.some Jvm.ClassFile.FieldType.int), Jvm.Cond.code ({ cls := "com/example/resolvent/resolvent/ldap/Ber", name := "lengthSize", desc := "([BI)I" } : Jvm.MethodName) prog_46_method_3_code (3 : Nat) (Option.some Jvm.ClassFile.FieldType.int), Jvm.Cond.code ({ cls := "com/example/resolvent/resolvent/ldap/Ber$Reader", name := "integer", desc := "(I)I" } : Jvm.MethodName) prog_47_method_5_code (5 : Nat) (Option.some Jvm.ClassFile.FieldType.int)]
set_option maxRecDepth 65536 in
theorem codes_eq : words1.filter isCode = codes1 := rfl
theorem w_codes : ∀ c ∈ words1.filter isCode, c.before args0 about1 = true := by
  rw [codes_eq]
  intro c hc
  simp only [codes1, List.mem_cons, List.not_mem_nil, or_false] at hc
  rcases hc with rfl | rfl | rfl | rfl | rfl | rfl | rfl | rfl | rfl | rfl
  · exact w_c0
  · exact w_c1
  · exact w_c2
  · exact w_c3
  · exact w_c4
  · exact w_c5
  · exact w_c6
  · exact w_c7
  · exact w_c8
  · exact w_c9
set_option maxRecDepth 65536 in
theorem w_t1 : (words1.take 24).all (fun c => isCode c || c.before args0 about1) = true := by decide +kernel
set_option maxRecDepth 65536 in
theorem w_t2 : (words1.drop 24).all (fun c => isCode c || c.before args0 about1) = true := by decide +kernel
theorem w_tables : (allAtoms (Jvm.Cond.code x code maxLocals ret :: tables_1)).before args0 about1 = true := by
  rw [allAtoms_all]
  show words1.all (fun c => c.before args0 about1) = true
  refine all_split ?_ w_codes
  rw [← List.take_append_drop 24 words1, List.all_append, w_t1, w_t2]
  rfl
set_option maxRecDepth 65536 in
theorem w_case : (Jvm.Cond.and given_1 narrow_1).before args0 about1 = true := by decide +kernel
theorem w_applies : (headSpec (Jvm.Cond.code x code maxLocals ret :: tables_1) room_1).applies x e0.platform about1 = true :=
  (Spec.applies_iff w_frames).mpr ⟨w_running, w_runnable, w_alone, w_named, w_hears, w_ripe, w_room, w_tables⟩
theorem atStart : AtStart classFile x code maxLocals ret World_1 tables_1 room_1 Calls_1 rest_1 Pre_1 launch0 p0 e0 about1 theMethod args0 below0 :=
  ⟨lists_1, trivial, launch0.admits_env _ _ _, launch0.least_env, fairChoices_fair.cas, fairChoices_fair.clock, w_frames, w_args, w_heap, w_applies, trivial, trivial, w_case⟩
end start1
theorem witness_1 : WitnessClaimed_1 := ⟨start1.p0, start1.e0, start1.about1, start1.theMethod, start1.args0, start1.below0, start1.atStart⟩
end Jvm.Pilot.@@N@@
