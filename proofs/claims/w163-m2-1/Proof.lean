import JvmDerived
import JvmDerived.Pilot.@@N@@Statement
import JvmDerived.Pilot.@@N@@Code
set_option linter.unusedVariables false
set_option linter.unusedSimpArgs false
namespace Jvm.RoadKit
open Sem ClassFile Op Lib Jvm.Stand Jvm.Free Jvm.LawKit
section New
variable {p : Program} {l : Launch} {e : Env} {R : Room} {s : State} {m : MethodId} {args : Array Value} {below : List Frame} {meth : Method} {c : Code} {T : State} {locs : List Loc} {cells slots : Nat}
theorem retI (X : Stand p l e R s m args below meth c T locs cells slots) (hx : p.tables.exec = Jvm.exec) {pc : Nat} {Ls : Array Slot} {z : Int32} {rest : List Value} (hret : meth.sig.returnType = some .int) (hd : decode c.code pc = .ok (.ireturn, 1)) {fs : List Frame}
    (hl : ∀ (f : JFrame) (acts : List Action), f.method = m → f.locked = none → f.entered = [] → (doReturn e (T.setTop f) acts (some (.int z))).1 = T.setFrames fs) : Steps p.tables e below (T.setTop (mkF m pc Ls (.int z :: rest))) (T.setFrames fs) := by
  have hm' : T.vm.method? m = some meth := X.method'
  have hn : narrow .int (.int z) = .int z := rfl
  show Steps p.tables e below (T.setTop { method := m, pc := pc, locals := Ls, stack := _ :: rest, locked := none }) _
  jvm_step X.here [X.here.top, hx, hd, hm', hret, hn]
  first | (intro acts; rw [hl _ acts rfl rfl rfl]) | rw [hl _ _ rfl rfl rfl]
  exact Steps.refl _
end New
section OwnKit
/-- where the walk of a body stands: the body's own facts, the heap, and that nothing old was written -/
def OS (B : ByteArray) (mL : Nat) (own nm : String) (rt : Option FieldType) (Z : State) (n0 : Nat) (p : Program) (l : Launch) (e : Env) (R : Room) (s : State) (m : MethodId) (args : Array Value) (below : List Frame) (meth : Method) (c : Code) (T : State) (h : Heap) (cells slots : Nat) : Prop :=
  (p.tables.exec = Jvm.exec ∧ c.code = B ∧ c.maxLocals = mL ∧ s.vm.findClass own = some m.cls ∧ meth.name = nm ∧ meth.sig.returnType = rt ∧ meth.locks = false ∧ Z.Warmed39 s.vm) ∧ T.heap = h ∧ ∃ locs, Fr n0 locs ∧ Stand p l e R s m args below meth c T locs cells slots
/-- from here the body comes to its end, with what Q says -/
def OG (p : Program) (e : Env) (below : List Frame) (s : State) (n0 rc rs : Nat) (Q : Option Value → Heap → Prop) (A : State) : Prop :=
  ∃ s₂ o, Steps p.tables e below A s₂ ∧ s₂.status = .running ∧ Ended s₂ below o ∧ ∃ v L, o = .returned v ∧ (Q v s₂.heap ∧ Fr n0 L) ∧ FrameEnd s o s₂ L rc rs
/-- a body's contract -/
def OM (l : Launch) (y : MethodName) (B : ByteArray) (mL : Nat) (rt : Option FieldType) (rm : Room) (ws : List Cond) (Z : State) (as' : Array Value) (h0 : Heap) (n0 : Nat) (Q : Option Value → Heap → Prop) : Prop :=
  MetFree l y (head1 (Cond.code y B mL rt :: ws) rm) (fun a U => a = as' ∧ Z.Warmed39 U.vm ∧ U.heap = h0) (fun _ _ _ _ _ => True) (fun _ U o U' => ∃ v L, o = .returned v ∧ (Q v U'.heap ∧ Fr n0 L) ∧ FrameEnd U o U' L rm.cells rm.slots)
variable {p : Program} {l : Launch} {e : Env} {R : Room} {s : State} {m : MethodId} {args : Array Value} {below : List Frame} {meth : Method} {c : Code} {T : State} {cells slots : Nat} {Z : State} {h : Heap} {n0 : Nat} {B : ByteArray} {mL : Nat} {own nm : String} {rt : Option FieldType} {rc rs : Nat} {Q : Option Value → Heap → Prop} {pc : Nat} {Ls : Array Slot} {st : List Value} {a0 : Array Value}
theorem OG.pre {A A' : State} (h : ∀ t, Steps p.tables e below A' t → Steps p.tables e below A t) (k : OG p e below s n0 rc rs Q A') : OG p e below s n0 rc rs Q A := by
  obtain ⟨s₂, o, h1, r⟩ := k; exact ⟨s₂, o, h _ h1, r⟩
theorem OM.of {y : MethodName} {rm : Room} {ws : List Cond} {as' : Array Value} {h0 : Heap} (hp : plainFor y = true) (hef : ∀ m, entryFrame m as' mL = mkF m 0 Ls []) (body : ∀ p e s m below meth c T, OS B mL y.cls y.name rt Z n0 p l e rm s m as' below meth c T h0 0 0 → OG p e below s n0 rm.cells rm.slots Q (T.setTop (mkF m 0 Ls []))) : OM l y B mL rt rm ws Z as' h0 n0 Q := by
  refine MetFree.of_bodySF hp hisR ?_
  intro p e s m args below meth c s₁ Bd hml0 hP hK
  obtain ⟨rfl, hZ, hh⟩ := hP
  have X0 : Stand p l e rm s m args below meth c s₁ [] 0 0 := Stand.of_body Bd
  have e0 : s₁.heap = h0 := by rw [← hh, Bd.state]; rfl
  have q := body p e s m below meth c s₁ ⟨⟨Bd.exec, Bd.bytes, hml0, findClass_of_methodNamed Bd.named, (name_of_methodNamed Bd.named Bd.method).1, Bd.returns, BodyLoose.notSynchronized Bd, hZ⟩, e0, [], Fr.nil n0, X0⟩
  rw [hef]; exact q
theorem OM.weak {y : MethodName} {rm : Room} {ws : List Cond} {as' : Array Value} {h0 : Heap} {Q' : Option Value → Heap → Prop} (hM : OM l y B mL rt rm ws Z as' h0 n0 Q) (hq : ∀ v h, Q v h → Q' v h) : OM l y B mL rt rm ws Z as' h0 n0 Q' := by
  intro p e ha hc hk s m args below hf happ hP hK
  obtain ⟨n, o, h1, h2, h3, v, L, h4, h5, h6⟩ := hM p e ha hc hk s m args below hf happ hP hK
  exact ⟨n, o, h1, h2, h3, v, L, h4, ⟨hq _ _ h5.1, h5.2⟩, h6⟩
theorem OS.heap (X : OS B mL own nm rt Z n0 p l e R s m args below meth c T h cells slots) : T.heap = h := X.2.1
theorem OS.warm (X : OS B mL own nm rt Z n0 p l e R s m args below meth c T h cells slots) : Z.Warmed39 s.vm := X.1.2.2.2.2.2.2.2
theorem OS.more {k n : Nat} (X : OS B mL own nm rt Z n0 p l e R s m args below meth c T h cells slots) (h1 : cells ≤ k) (h2 : slots ≤ n) : OS B mL own nm rt Z n0 p l e R s m args below meth c T h k n := by
  obtain ⟨h0, e1, locs, N, Y⟩ := X
  exact ⟨h0, e1, locs, N, { Y with same := Y.same.mono h1 h2 }⟩

theorem OG.iload (X : OS B mL own nm rt Z n0 p l e R s m args below meth c T h cells slots) {k : Nat} {v : Int32} (hd : decode B pc = .ok (.iload k, 2)) (hl : Ls[k]? = some (.val (.int v))) (g : OG p e below s n0 rc rs Q (T.setTop (mkF m (pc + 2) Ls (.int v :: st)))) : OG p e below s n0 rc rs Q (T.setTop (mkF m pc Ls st)) := by
  obtain ⟨⟨hx, hby, -⟩, -, locs, -, Y⟩ := X
  exact OG.pre (fun _ k => XS.iload Y.here hx rfl (hb hby hd) hl k) g
theorem OG.iloadN (X : OS B mL own nm rt Z n0 p l e R s m args below meth c T h cells slots) {k : Fin 4} {v : Int32} (hd : decode B pc = .ok (.iload_n k, 1)) (hl : Ls[k.val]? = some (.val (.int v))) (g : OG p e below s n0 rc rs Q (T.setTop (mkF m (pc + 1) Ls (.int v :: st)))) : OG p e below s n0 rc rs Q (T.setTop (mkF m pc Ls st)) := by
  obtain ⟨⟨hx, hby, -⟩, -, locs, -, Y⟩ := X
  exact OG.pre (fun _ k => XS.iloadN Y.here hx rfl (hb hby hd) hl k) g
theorem OG.lload (X : OS B mL own nm rt Z n0 p l e R s m args below meth c T h cells slots) {k : Nat} {v : Int64} (hd : decode B pc = .ok (.lload k, 2)) (hl : Ls[k]? = some (.val (.long v))) (g : OG p e below s n0 rc rs Q (T.setTop (mkF m (pc + 2) Ls (.long v :: st)))) : OG p e below s n0 rc rs Q (T.setTop (mkF m pc Ls st)) := by
  obtain ⟨⟨hx, hby, -⟩, -, locs, -, Y⟩ := X
  exact OG.pre (fun _ k => XS.lload Y.here hx rfl (hb hby hd) hl k) g
theorem OG.lloadN (X : OS B mL own nm rt Z n0 p l e R s m args below meth c T h cells slots) {k : Fin 4} {v : Int64} (hd : decode B pc = .ok (.lload_n k, 1)) (hl : Ls[k.val]? = some (.val (.long v))) (g : OG p e below s n0 rc rs Q (T.setTop (mkF m (pc + 1) Ls (.long v :: st)))) : OG p e below s n0 rc rs Q (T.setTop (mkF m pc Ls st)) := by
  obtain ⟨⟨hx, hby, -⟩, -, locs, -, Y⟩ := X
  exact OG.pre (fun _ k => XS.lloadN Y.here hx rfl (hb hby hd) hl k) g
theorem OG.aload (X : OS B mL own nm rt Z n0 p l e R s m args below meth c T h cells slots) {k : Nat} {v : Value} (hd : decode B pc = .ok (.aload k, 2)) (hl : Ls[k]? = some (.val v)) (hv : v.isRef = true) (g : OG p e below s n0 rc rs Q (T.setTop (mkF m (pc + 2) Ls (v :: st)))) : OG p e below s n0 rc rs Q (T.setTop (mkF m pc Ls st)) := by
  obtain ⟨⟨hx, hby, -⟩, -, locs, -, Y⟩ := X
  exact OG.pre (fun _ k => XS.aload Y.here hx rfl (hb hby hd) hl hv k) g
theorem OG.aloadN (X : OS B mL own nm rt Z n0 p l e R s m args below meth c T h cells slots) {k : Fin 4} {v : Value} (hd : decode B pc = .ok (.aload_n k, 1)) (hl : Ls[k.val]? = some (.val v)) (hv : v.isRef = true) (g : OG p e below s n0 rc rs Q (T.setTop (mkF m (pc + 1) Ls (v :: st)))) : OG p e below s n0 rc rs Q (T.setTop (mkF m pc Ls st)) := by
  obtain ⟨⟨hx, hby, -⟩, -, locs, -, Y⟩ := X
  exact OG.pre (fun _ k => XS.aloadN Y.here hx rfl (hb hby hd) hl hv k) g
theorem OG.istore (X : OS B mL own nm rt Z n0 p l e R s m args below meth c T h cells slots) {k : Nat} {v : Int32} {l' : Array Slot} (hd : decode B pc = .ok (.istore k, 2)) (hl : storeLocals Ls k (.int v) = some l') (g : OG p e below s n0 rc rs Q (T.setTop (mkF m (pc + 2) l' st))) : OG p e below s n0 rc rs Q (T.setTop (mkF m pc Ls (.int v :: st))) := by
  obtain ⟨⟨hx, hby, -⟩, -, locs, -, Y⟩ := X
  exact OG.pre (fun _ k => XS.istore Y.here hx rfl (hb hby hd) rfl hl k) g
theorem OG.istoreV (X : OS B mL own nm rt Z n0 p l e R s m args below meth c T h cells slots) {k : Nat} {v : Int32} {l' : Int32 → Array Slot} (hd : decode B pc = .ok (.istore k, 2)) (hl : ∀ z, storeLocals Ls k (.int z) = some (l' z)) (g : ∀ z, z = v → OG p e below s n0 rc rs Q (T.setTop (mkF m (pc + 2) (l' z) st))) : OG p e below s n0 rc rs Q (T.setTop (mkF m pc Ls (.int v :: st))) := by
  obtain ⟨⟨hx, hby, -⟩, -, locs, -, Y⟩ := X
  exact OG.pre (fun _ k => XS.istore Y.here hx rfl (hb hby hd) rfl (hl v) k) (g v rfl)
theorem OG.istoreN (X : OS B mL own nm rt Z n0 p l e R s m args below meth c T h cells slots) {k : Fin 4} {v : Int32} {l' : Array Slot} (hd : decode B pc = .ok (.istore_n k, 1)) (hl : storeLocals Ls k.val (.int v) = some l') (g : OG p e below s n0 rc rs Q (T.setTop (mkF m (pc + 1) l' st))) : OG p e below s n0 rc rs Q (T.setTop (mkF m pc Ls (.int v :: st))) := by
  obtain ⟨⟨hx, hby, -⟩, -, locs, -, Y⟩ := X
  exact OG.pre (fun _ k => XS.istoreN Y.here hx rfl (hb hby hd) rfl hl k) g
theorem OG.istoreNV (X : OS B mL own nm rt Z n0 p l e R s m args below meth c T h cells slots) {k : Fin 4} {v : Int32} {l' : Int32 → Array Slot} (hd : decode B pc = .ok (.istore_n k, 1)) (hl : ∀ z, storeLocals Ls k.val (.int z) = some (l' z)) (g : ∀ z, z = v → OG p e below s n0 rc rs Q (T.setTop (mkF m (pc + 1) (l' z) st))) : OG p e below s n0 rc rs Q (T.setTop (mkF m pc Ls (.int v :: st))) := by
  obtain ⟨⟨hx, hby, -⟩, -, locs, -, Y⟩ := X
  exact OG.pre (fun _ k => XS.istoreN Y.here hx rfl (hb hby hd) rfl (hl v) k) (g v rfl)
theorem OG.lstore (X : OS B mL own nm rt Z n0 p l e R s m args below meth c T h cells slots) {k : Nat} {v : Int64} {l' : Array Slot} (hd : decode B pc = .ok (.lstore k, 2)) (hl : storeLocals Ls k (.long v) = some l') (g : OG p e below s n0 rc rs Q (T.setTop (mkF m (pc + 2) l' st))) : OG p e below s n0 rc rs Q (T.setTop (mkF m pc Ls (.long v :: st))) := by
  obtain ⟨⟨hx, hby, -⟩, -, locs, -, Y⟩ := X
  exact OG.pre (fun _ k => XS.lstore Y.here hx rfl (hb hby hd) rfl hl k) g
theorem OG.lstoreV (X : OS B mL own nm rt Z n0 p l e R s m args below meth c T h cells slots) {k : Nat} {v : Int64} {l' : Int64 → Array Slot} (hd : decode B pc = .ok (.lstore k, 2)) (hl : ∀ z, storeLocals Ls k (.long z) = some (l' z)) (g : ∀ z, z = v → OG p e below s n0 rc rs Q (T.setTop (mkF m (pc + 2) (l' z) st))) : OG p e below s n0 rc rs Q (T.setTop (mkF m pc Ls (.long v :: st))) := by
  obtain ⟨⟨hx, hby, -⟩, -, locs, -, Y⟩ := X
  exact OG.pre (fun _ k => XS.lstore Y.here hx rfl (hb hby hd) rfl (hl v) k) (g v rfl)
theorem OG.lstoreN (X : OS B mL own nm rt Z n0 p l e R s m args below meth c T h cells slots) {k : Fin 4} {v : Int64} {l' : Array Slot} (hd : decode B pc = .ok (.lstore_n k, 1)) (hl : storeLocals Ls k.val (.long v) = some l') (g : OG p e below s n0 rc rs Q (T.setTop (mkF m (pc + 1) l' st))) : OG p e below s n0 rc rs Q (T.setTop (mkF m pc Ls (.long v :: st))) := by
  obtain ⟨⟨hx, hby, -⟩, -, locs, -, Y⟩ := X
  exact OG.pre (fun _ k => XS.lstoreN Y.here hx rfl (hb hby hd) rfl hl k) g
theorem OG.lstoreNV (X : OS B mL own nm rt Z n0 p l e R s m args below meth c T h cells slots) {k : Fin 4} {v : Int64} {l' : Int64 → Array Slot} (hd : decode B pc = .ok (.lstore_n k, 1)) (hl : ∀ z, storeLocals Ls k.val (.long z) = some (l' z)) (g : ∀ z, z = v → OG p e below s n0 rc rs Q (T.setTop (mkF m (pc + 1) (l' z) st))) : OG p e below s n0 rc rs Q (T.setTop (mkF m pc Ls (.long v :: st))) := by
  obtain ⟨⟨hx, hby, -⟩, -, locs, -, Y⟩ := X
  exact OG.pre (fun _ k => XS.lstoreN Y.here hx rfl (hb hby hd) rfl (hl v) k) (g v rfl)
theorem OG.astore (X : OS B mL own nm rt Z n0 p l e R s m args below meth c T h cells slots) {k : Nat} {v : Value} {l' : Array Slot} (hd : decode B pc = .ok (.astore k, 2)) (hv : v.isRef = true) (hl : storeLocals Ls k v = some l') (g : OG p e below s n0 rc rs Q (T.setTop (mkF m (pc + 2) l' st))) : OG p e below s n0 rc rs Q (T.setTop (mkF m pc Ls (v :: st))) := by
  obtain ⟨⟨hx, hby, -⟩, -, locs, -, Y⟩ := X
  exact OG.pre (fun _ k => XS.astore Y.here hx rfl (hb hby hd) rfl hv hl k) g
theorem OG.astoreN (X : OS B mL own nm rt Z n0 p l e R s m args below meth c T h cells slots) {k : Fin 4} {v : Value} {l' : Array Slot} (hd : decode B pc = .ok (.astore_n k, 1)) (hv : v.isRef = true) (hl : storeLocals Ls k.val v = some l') (g : OG p e below s n0 rc rs Q (T.setTop (mkF m (pc + 1) l' st))) : OG p e below s n0 rc rs Q (T.setTop (mkF m pc Ls (v :: st))) := by
  obtain ⟨⟨hx, hby, -⟩, -, locs, -, Y⟩ := X
  exact OG.pre (fun _ k => XS.astoreN Y.here hx rfl (hb hby hd) rfl hv hl k) g
theorem OG.iconst (X : OS B mL own nm rt Z n0 p l e R s m args below meth c T h cells slots) {i : Int} {z : Int32} (hd : decode B pc = .ok (.iconst i, 1)) (hz : Int32.ofInt i = z) (g : OG p e below s n0 rc rs Q (T.setTop (mkF m (pc + 1) Ls (.int z :: st)))) : OG p e below s n0 rc rs Q (T.setTop (mkF m pc Ls st)) := by
  obtain ⟨⟨hx, hby, -⟩, -, locs, -, Y⟩ := X
  subst hz
  exact OG.pre (fun _ k => XS.iconst Y.here hx rfl (hb hby hd) k) g
theorem OG.bipush (X : OS B mL own nm rt Z n0 p l e R s m args below meth c T h cells slots) {i : Int} {z : Int32} (hd : decode B pc = .ok (.bipush i, 2)) (hz : (Int8.ofInt i).toInt32 = z) (g : OG p e below s n0 rc rs Q (T.setTop (mkF m (pc + 2) Ls (.int z :: st)))) : OG p e below s n0 rc rs Q (T.setTop (mkF m pc Ls st)) := by
  obtain ⟨⟨hx, hby, -⟩, -, locs, -, Y⟩ := X
  subst hz
  exact OG.pre (fun _ k => XS.bipush Y.here hx rfl (hb hby hd) k) g
theorem OG.sipush (X : OS B mL own nm rt Z n0 p l e R s m args below meth c T h cells slots) {i : Int} {z : Int32} (hd : decode B pc = .ok (.sipush i, 3)) (hz : (Int16.ofInt i).toInt32 = z) (g : OG p e below s n0 rc rs Q (T.setTop (mkF m (pc + 3) Ls (.int z :: st)))) : OG p e below s n0 rc rs Q (T.setTop (mkF m pc Ls st)) := by
  obtain ⟨⟨hx, hby, -⟩, -, locs, -, Y⟩ := X
  subst hz
  exact OG.pre (fun _ k => XS.sipush Y.here hx rfl (hb hby hd) k) g
theorem OG.lconst (X : OS B mL own nm rt Z n0 p l e R s m args below meth c T h cells slots) {k : Fin 2} {z : Int64} (hd : decode B pc = .ok (.lconst k, 1)) (hz : Int64.ofNat k = z) (g : OG p e below s n0 rc rs Q (T.setTop (mkF m (pc + 1) Ls (.long z :: st)))) : OG p e below s n0 rc rs Q (T.setTop (mkF m pc Ls st)) := by
  obtain ⟨⟨hx, hby, -⟩, -, locs, -, Y⟩ := X
  subst hz
  exact OG.pre (fun _ q => XS.lconst Y.here hx rfl (hb hby hd) q) g
theorem OG.aconstNull (X : OS B mL own nm rt Z n0 p l e R s m args below meth c T h cells slots)  (hd : decode B pc = .ok (.aconst_null, 1))  (g : OG p e below s n0 rc rs Q (T.setTop (mkF m (pc + 1) Ls (.null :: st)))) : OG p e below s n0 rc rs Q (T.setTop (mkF m pc Ls st)) := by
  obtain ⟨⟨hx, hby, -⟩, -, locs, -, Y⟩ := X
  exact OG.pre (fun _ k => XS.aconstNull Y.here hx rfl (hb hby hd)  k) g
theorem OG.iadd (X : OS B mL own nm rt Z n0 p l e R s m args below meth c T h cells slots) {x y : Int32} (hd : decode B pc = .ok (.iadd, 1))  (g : OG p e below s n0 rc rs Q (T.setTop (mkF m (pc + 1) Ls (.int (x + y) :: st)))) : OG p e below s n0 rc rs Q (T.setTop (mkF m pc Ls (.int y :: .int x :: st))) := by
  obtain ⟨⟨hx, hby, -⟩, -, locs, -, Y⟩ := X
  exact OG.pre (fun _ k => XS.iadd Y.here hx rfl (hb hby hd) rfl k) g
theorem OG.isub (X : OS B mL own nm rt Z n0 p l e R s m args below meth c T h cells slots) {x y : Int32} (hd : decode B pc = .ok (.isub, 1))  (g : OG p e below s n0 rc rs Q (T.setTop (mkF m (pc + 1) Ls (.int (x - y) :: st)))) : OG p e below s n0 rc rs Q (T.setTop (mkF m pc Ls (.int y :: .int x :: st))) := by
  obtain ⟨⟨hx, hby, -⟩, -, locs, -, Y⟩ := X
  exact OG.pre (fun _ k => XS.isub Y.here hx rfl (hb hby hd) rfl k) g
theorem OG.imul (X : OS B mL own nm rt Z n0 p l e R s m args below meth c T h cells slots) {x y : Int32} (hd : decode B pc = .ok (.imul, 1))  (g : OG p e below s n0 rc rs Q (T.setTop (mkF m (pc + 1) Ls (.int (x * y) :: st)))) : OG p e below s n0 rc rs Q (T.setTop (mkF m pc Ls (.int y :: .int x :: st))) := by
  obtain ⟨⟨hx, hby, -⟩, -, locs, -, Y⟩ := X
  exact OG.pre (fun _ k => XS.imul Y.here hx rfl (hb hby hd) rfl k) g
theorem OG.iand (X : OS B mL own nm rt Z n0 p l e R s m args below meth c T h cells slots) {x y : Int32} (hd : decode B pc = .ok (.iand, 1))  (g : OG p e below s n0 rc rs Q (T.setTop (mkF m (pc + 1) Ls (.int (x &&& y) :: st)))) : OG p e below s n0 rc rs Q (T.setTop (mkF m pc Ls (.int y :: .int x :: st))) := by
  obtain ⟨⟨hx, hby, -⟩, -, locs, -, Y⟩ := X
  exact OG.pre (fun _ k => XS.iand Y.here hx rfl (hb hby hd) rfl k) g
theorem OG.ior (X : OS B mL own nm rt Z n0 p l e R s m args below meth c T h cells slots) {x y : Int32} (hd : decode B pc = .ok (.ior, 1))  (g : OG p e below s n0 rc rs Q (T.setTop (mkF m (pc + 1) Ls (.int (x ||| y) :: st)))) : OG p e below s n0 rc rs Q (T.setTop (mkF m pc Ls (.int y :: .int x :: st))) := by
  obtain ⟨⟨hx, hby, -⟩, -, locs, -, Y⟩ := X
  exact OG.pre (fun _ k => XS.ior Y.here hx rfl (hb hby hd) rfl k) g
theorem OG.ixor (X : OS B mL own nm rt Z n0 p l e R s m args below meth c T h cells slots) {x y : Int32} (hd : decode B pc = .ok (.ixor, 1))  (g : OG p e below s n0 rc rs Q (T.setTop (mkF m (pc + 1) Ls (.int (x ^^^ y) :: st)))) : OG p e below s n0 rc rs Q (T.setTop (mkF m pc Ls (.int y :: .int x :: st))) := by
  obtain ⟨⟨hx, hby, -⟩, -, locs, -, Y⟩ := X
  exact OG.pre (fun _ k => XS.ixor Y.here hx rfl (hb hby hd) rfl k) g
theorem OG.ishl (X : OS B mL own nm rt Z n0 p l e R s m args below meth c T h cells slots) {x y : Int32} (hd : decode B pc = .ok (.ishl, 1))  (g : OG p e below s n0 rc rs Q (T.setTop (mkF m (pc + 1) Ls (.int (x <<< (y &&& 31)) :: st)))) : OG p e below s n0 rc rs Q (T.setTop (mkF m pc Ls (.int y :: .int x :: st))) := by
  obtain ⟨⟨hx, hby, -⟩, -, locs, -, Y⟩ := X
  exact OG.pre (fun _ k => XS.ishl Y.here hx rfl (hb hby hd) rfl k) g
theorem OG.ishr (X : OS B mL own nm rt Z n0 p l e R s m args below meth c T h cells slots) {x y : Int32} (hd : decode B pc = .ok (.ishr, 1))  (g : OG p e below s n0 rc rs Q (T.setTop (mkF m (pc + 1) Ls (.int (x >>> (y &&& 31)) :: st)))) : OG p e below s n0 rc rs Q (T.setTop (mkF m pc Ls (.int y :: .int x :: st))) := by
  obtain ⟨⟨hx, hby, -⟩, -, locs, -, Y⟩ := X
  exact OG.pre (fun _ k => XS.ishr Y.here hx rfl (hb hby hd) rfl k) g
theorem OG.iushr (X : OS B mL own nm rt Z n0 p l e R s m args below meth c T h cells slots) {x y : Int32} (hd : decode B pc = .ok (.iushr, 1))  (g : OG p e below s n0 rc rs Q (T.setTop (mkF m (pc + 1) Ls (.int ((x.toUInt32 >>> (y &&& 31).toUInt32).toInt32) :: st)))) : OG p e below s n0 rc rs Q (T.setTop (mkF m pc Ls (.int y :: .int x :: st))) := by
  obtain ⟨⟨hx, hby, -⟩, -, locs, -, Y⟩ := X
  exact OG.pre (fun _ k => XS.iushr Y.here hx rfl (hb hby hd) rfl k) g
theorem OG.ladd (X : OS B mL own nm rt Z n0 p l e R s m args below meth c T h cells slots) {x y : Int64} (hd : decode B pc = .ok (.ladd, 1))  (g : OG p e below s n0 rc rs Q (T.setTop (mkF m (pc + 1) Ls (.long (x + y) :: st)))) : OG p e below s n0 rc rs Q (T.setTop (mkF m pc Ls (.long y :: .long x :: st))) := by
  obtain ⟨⟨hx, hby, -⟩, -, locs, -, Y⟩ := X
  exact OG.pre (fun _ k => XS.ladd Y.here hx rfl (hb hby hd) rfl k) g
theorem OG.lsub (X : OS B mL own nm rt Z n0 p l e R s m args below meth c T h cells slots) {x y : Int64} (hd : decode B pc = .ok (.lsub, 1))  (g : OG p e below s n0 rc rs Q (T.setTop (mkF m (pc + 1) Ls (.long (x - y) :: st)))) : OG p e below s n0 rc rs Q (T.setTop (mkF m pc Ls (.long y :: .long x :: st))) := by
  obtain ⟨⟨hx, hby, -⟩, -, locs, -, Y⟩ := X
  exact OG.pre (fun _ k => XS.lsub Y.here hx rfl (hb hby hd) rfl k) g
theorem OG.lmul (X : OS B mL own nm rt Z n0 p l e R s m args below meth c T h cells slots) {x y : Int64} (hd : decode B pc = .ok (.lmul, 1))  (g : OG p e below s n0 rc rs Q (T.setTop (mkF m (pc + 1) Ls (.long (x * y) :: st)))) : OG p e below s n0 rc rs Q (T.setTop (mkF m pc Ls (.long y :: .long x :: st))) := by
  obtain ⟨⟨hx, hby, -⟩, -, locs, -, Y⟩ := X
  exact OG.pre (fun _ k => XS.lmul Y.here hx rfl (hb hby hd) rfl k) g
theorem OG.land (X : OS B mL own nm rt Z n0 p l e R s m args below meth c T h cells slots) {x y : Int64} (hd : decode B pc = .ok (.land, 1))  (g : OG p e below s n0 rc rs Q (T.setTop (mkF m (pc + 1) Ls (.long (x &&& y) :: st)))) : OG p e below s n0 rc rs Q (T.setTop (mkF m pc Ls (.long y :: .long x :: st))) := by
  obtain ⟨⟨hx, hby, -⟩, -, locs, -, Y⟩ := X
  exact OG.pre (fun _ k => XS.land Y.here hx rfl (hb hby hd) rfl k) g
theorem OG.lor (X : OS B mL own nm rt Z n0 p l e R s m args below meth c T h cells slots) {x y : Int64} (hd : decode B pc = .ok (.lor, 1))  (g : OG p e below s n0 rc rs Q (T.setTop (mkF m (pc + 1) Ls (.long (x ||| y) :: st)))) : OG p e below s n0 rc rs Q (T.setTop (mkF m pc Ls (.long y :: .long x :: st))) := by
  obtain ⟨⟨hx, hby, -⟩, -, locs, -, Y⟩ := X
  exact OG.pre (fun _ k => XS.lor Y.here hx rfl (hb hby hd) rfl k) g
theorem OG.lxor (X : OS B mL own nm rt Z n0 p l e R s m args below meth c T h cells slots) {x y : Int64} (hd : decode B pc = .ok (.lxor, 1))  (g : OG p e below s n0 rc rs Q (T.setTop (mkF m (pc + 1) Ls (.long (x ^^^ y) :: st)))) : OG p e below s n0 rc rs Q (T.setTop (mkF m pc Ls (.long y :: .long x :: st))) := by
  obtain ⟨⟨hx, hby, -⟩, -, locs, -, Y⟩ := X
  exact OG.pre (fun _ k => XS.lxor Y.here hx rfl (hb hby hd) rfl k) g
theorem OG.lshl (X : OS B mL own nm rt Z n0 p l e R s m args below meth c T h cells slots) {x : Int64} {y : Int32} (hd : decode B pc = .ok (.lshl, 1))  (g : OG p e below s n0 rc rs Q (T.setTop (mkF m (pc + 1) Ls (.long (x <<< (y &&& 0x3f).toInt64) :: st)))) : OG p e below s n0 rc rs Q (T.setTop (mkF m pc Ls (.int y :: .long x :: st))) := by
  obtain ⟨⟨hx, hby, -⟩, -, locs, -, Y⟩ := X
  exact OG.pre (fun _ k => XS.lshl Y.here hx rfl (hb hby hd) rfl k) g
theorem OG.lshr (X : OS B mL own nm rt Z n0 p l e R s m args below meth c T h cells slots) {x : Int64} {y : Int32} (hd : decode B pc = .ok (.lshr, 1))  (g : OG p e below s n0 rc rs Q (T.setTop (mkF m (pc + 1) Ls (.long (x >>> (y &&& 0x3f).toInt64) :: st)))) : OG p e below s n0 rc rs Q (T.setTop (mkF m pc Ls (.int y :: .long x :: st))) := by
  obtain ⟨⟨hx, hby, -⟩, -, locs, -, Y⟩ := X
  exact OG.pre (fun _ k => XS.lshr Y.here hx rfl (hb hby hd) rfl k) g
theorem OG.lushr (X : OS B mL own nm rt Z n0 p l e R s m args below meth c T h cells slots) {x : Int64} {y : Int32} (hd : decode B pc = .ok (.lushr, 1))  (g : OG p e below s n0 rc rs Q (T.setTop (mkF m (pc + 1) Ls (.long ((x.toUInt64 >>> (y &&& 0x3f).toInt64.toUInt64).toInt64) :: st)))) : OG p e below s n0 rc rs Q (T.setTop (mkF m pc Ls (.int y :: .long x :: st))) := by
  obtain ⟨⟨hx, hby, -⟩, -, locs, -, Y⟩ := X
  exact OG.pre (fun _ k => XS.lushr Y.here hx rfl (hb hby hd) rfl k) g
theorem OG.idiv (X : OS B mL own nm rt Z n0 p l e R s m args below meth c T h cells slots) {x y : Int32} (hd : decode B pc = .ok (.idiv, 1)) (hy : y ≠ 0) (g : OG p e below s n0 rc rs Q (T.setTop (mkF m (pc + 1) Ls (.int (x / y) :: st)))) : OG p e below s n0 rc rs Q (T.setTop (mkF m pc Ls (.int y :: .int x :: st))) := by
  obtain ⟨⟨hx, hby, -⟩, -, locs, -, Y⟩ := X
  exact OG.pre (fun _ k => XS.idiv Y.here hx rfl (hb hby hd) rfl hy k) g
theorem OG.ldiv (X : OS B mL own nm rt Z n0 p l e R s m args below meth c T h cells slots) {x y : Int64} (hd : decode B pc = .ok (.ldiv, 1)) (hy : y ≠ 0) (g : OG p e below s n0 rc rs Q (T.setTop (mkF m (pc + 1) Ls (.long (x / y) :: st)))) : OG p e below s n0 rc rs Q (T.setTop (mkF m pc Ls (.long y :: .long x :: st))) := by
  obtain ⟨⟨hx, hby, -⟩, -, locs, -, Y⟩ := X
  exact OG.pre (fun _ k => XS.ldiv Y.here hx rfl (hb hby hd) rfl hy k) g
theorem OG.irem (X : OS B mL own nm rt Z n0 p l e R s m args below meth c T h cells slots) {x y : Int32} (hd : decode B pc = .ok (.irem, 1)) (hy : y ≠ 0) (g : OG p e below s n0 rc rs Q (T.setTop (mkF m (pc + 1) Ls (.int (x % y) :: st)))) : OG p e below s n0 rc rs Q (T.setTop (mkF m pc Ls (.int y :: .int x :: st))) := by
  obtain ⟨⟨hx, hby, -⟩, -, locs, -, Y⟩ := X
  exact OG.pre (fun _ k => iremM Y hx rfl (hb hby hd) rfl hy k) g
theorem OG.lrem (X : OS B mL own nm rt Z n0 p l e R s m args below meth c T h cells slots) {x y : Int64} (hd : decode B pc = .ok (.lrem, 1)) (hy : y ≠ 0) (g : OG p e below s n0 rc rs Q (T.setTop (mkF m (pc + 1) Ls (.long (x - x / y * y) :: st)))) : OG p e below s n0 rc rs Q (T.setTop (mkF m pc Ls (.long y :: .long x :: st))) := by
  obtain ⟨⟨hx, hby, -⟩, -, locs, -, Y⟩ := X
  exact OG.pre (fun _ k => XS.lrem Y.here hx rfl (hb hby hd) rfl hy k) g
theorem OG.ineg (X : OS B mL own nm rt Z n0 p l e R s m args below meth c T h cells slots) {x : Int32} (hd : decode B pc = .ok (.ineg, 1))  (g : OG p e below s n0 rc rs Q (T.setTop (mkF m (pc + 1) Ls (.int (-x) :: st)))) : OG p e below s n0 rc rs Q (T.setTop (mkF m pc Ls (.int x :: st))) := by
  obtain ⟨⟨hx, hby, -⟩, -, locs, -, Y⟩ := X
  exact OG.pre (fun _ k => XS.ineg Y.here hx rfl (hb hby hd) rfl k) g
theorem OG.lneg (X : OS B mL own nm rt Z n0 p l e R s m args below meth c T h cells slots) {x : Int64} (hd : decode B pc = .ok (.lneg, 1))  (g : OG p e below s n0 rc rs Q (T.setTop (mkF m (pc + 1) Ls (.long (-x) :: st)))) : OG p e below s n0 rc rs Q (T.setTop (mkF m pc Ls (.long x :: st))) := by
  obtain ⟨⟨hx, hby, -⟩, -, locs, -, Y⟩ := X
  exact OG.pre (fun _ k => XS.lneg Y.here hx rfl (hb hby hd) rfl k) g
theorem OG.i2l (X : OS B mL own nm rt Z n0 p l e R s m args below meth c T h cells slots) {x : Int32} (hd : decode B pc = .ok (.i2l, 1))  (g : OG p e below s n0 rc rs Q (T.setTop (mkF m (pc + 1) Ls (.long (x.toInt64) :: st)))) : OG p e below s n0 rc rs Q (T.setTop (mkF m pc Ls (.int x :: st))) := by
  obtain ⟨⟨hx, hby, -⟩, -, locs, -, Y⟩ := X
  exact OG.pre (fun _ k => XS.i2l Y.here hx rfl (hb hby hd) rfl k) g
theorem OG.l2i (X : OS B mL own nm rt Z n0 p l e R s m args below meth c T h cells slots) {x : Int64} (hd : decode B pc = .ok (.l2i, 1))  (g : OG p e below s n0 rc rs Q (T.setTop (mkF m (pc + 1) Ls (.int (x.toInt32) :: st)))) : OG p e below s n0 rc rs Q (T.setTop (mkF m pc Ls (.long x :: st))) := by
  obtain ⟨⟨hx, hby, -⟩, -, locs, -, Y⟩ := X
  exact OG.pre (fun _ k => XS.l2i Y.here hx rfl (hb hby hd) rfl k) g
theorem OG.i2b (X : OS B mL own nm rt Z n0 p l e R s m args below meth c T h cells slots) {x : Int32} (hd : decode B pc = .ok (.i2b, 1))  (g : OG p e below s n0 rc rs Q (T.setTop (mkF m (pc + 1) Ls (.int (x.toInt8.toInt32) :: st)))) : OG p e below s n0 rc rs Q (T.setTop (mkF m pc Ls (.int x :: st))) := by
  obtain ⟨⟨hx, hby, -⟩, -, locs, -, Y⟩ := X
  exact OG.pre (fun _ k => XS.i2b Y.here hx rfl (hb hby hd) rfl k) g
theorem OG.i2s (X : OS B mL own nm rt Z n0 p l e R s m args below meth c T h cells slots) {x : Int32} (hd : decode B pc = .ok (.i2s, 1))  (g : OG p e below s n0 rc rs Q (T.setTop (mkF m (pc + 1) Ls (.int (x.toInt16.toInt32) :: st)))) : OG p e below s n0 rc rs Q (T.setTop (mkF m pc Ls (.int x :: st))) := by
  obtain ⟨⟨hx, hby, -⟩, -, locs, -, Y⟩ := X
  exact OG.pre (fun _ k => XS.i2s Y.here hx rfl (hb hby hd) rfl k) g
theorem OG.i2c (X : OS B mL own nm rt Z n0 p l e R s m args below meth c T h cells slots) {x : Int32} (hd : decode B pc = .ok (.i2c, 1))  (g : OG p e below s n0 rc rs Q (T.setTop (mkF m (pc + 1) Ls (.int (x.toUInt32.toUInt16.toUInt32.toInt32) :: st)))) : OG p e below s n0 rc rs Q (T.setTop (mkF m pc Ls (.int x :: st))) := by
  obtain ⟨⟨hx, hby, -⟩, -, locs, -, Y⟩ := X
  exact OG.pre (fun _ k => XS.i2c Y.here hx rfl (hb hby hd) rfl k) g
theorem OG.lcmp (X : OS B mL own nm rt Z n0 p l e R s m args below meth c T h cells slots) {x y : Int64} (hd : decode B pc = .ok (.lcmp, 1))  (g : OG p e below s n0 rc rs Q (T.setTop (mkF m (pc + 1) Ls (.int (lcmpW x y) :: st)))) : OG p e below s n0 rc rs Q (T.setTop (mkF m pc Ls (.long y :: .long x :: st))) := by
  obtain ⟨⟨hx, hby, -⟩, -, locs, -, Y⟩ := X
  exact OG.pre (fun _ k => XS.lcmp Y.here hx rfl (hb hby hd) rfl k) g
theorem OG.dup (X : OS B mL own nm rt Z n0 p l e R s m args below meth c T h cells slots) {x : Value} (hd : decode B pc = .ok (.dup, 1)) (hc : x.category = 1) (g : OG p e below s n0 rc rs Q (T.setTop (mkF m (pc + 1) Ls (x :: x :: st)))) : OG p e below s n0 rc rs Q (T.setTop (mkF m pc Ls (x :: st))) := by
  obtain ⟨⟨hx, hby, -⟩, -, locs, -, Y⟩ := X
  exact OG.pre (fun _ k => XS.dup Y.here hx rfl (hb hby hd) rfl hc k) g
theorem OG.pop (X : OS B mL own nm rt Z n0 p l e R s m args below meth c T h cells slots) {x : Value} (hd : decode B pc = .ok (.pop, 1)) (hc : x.category = 1) (g : OG p e below s n0 rc rs Q (T.setTop (mkF m (pc + 1) Ls st))) : OG p e below s n0 rc rs Q (T.setTop (mkF m pc Ls (x :: st))) := by
  obtain ⟨⟨hx, hby, -⟩, -, locs, -, Y⟩ := X
  exact OG.pre (fun _ k => XS.pop Y.here hx rfl (hb hby hd) rfl hc k) g
theorem OG.dupX1 (X : OS B mL own nm rt Z n0 p l e R s m args below meth c T h cells slots) {x y : Value} (hd : decode B pc = .ok (.dup_x1, 1)) (hc : x.category = 1) (hc' : y.category = 1) (g : OG p e below s n0 rc rs Q (T.setTop (mkF m (pc + 1) Ls (x :: y :: x :: st)))) : OG p e below s n0 rc rs Q (T.setTop (mkF m pc Ls (x :: y :: st))) := by
  obtain ⟨⟨hx, hby, -⟩, -, locs, -, Y⟩ := X
  exact OG.pre (fun _ k => XS.dupX1 Y.here hx rfl (hb hby hd) rfl hc hc' k) g
theorem OG.dup2 (X : OS B mL own nm rt Z n0 p l e R s m args below meth c T h cells slots) {x y : Value} (hd : decode B pc = .ok (.dup2, 1)) (hc : x.category = 1) (hc' : y.category = 1) (g : OG p e below s n0 rc rs Q (T.setTop (mkF m (pc + 1) Ls (x :: y :: x :: y :: st)))) : OG p e below s n0 rc rs Q (T.setTop (mkF m pc Ls (x :: y :: st))) := by
  obtain ⟨⟨hx, hby, -⟩, -, locs, -, Y⟩ := X
  exact OG.pre (fun _ k => Jvm.Free.XT.dup2 Y.here hx rfl (hb hby hd) rfl hc hc' k) g
theorem OG.iinc (X : OS B mL own nm rt Z n0 p l e R s m args below meth c T h cells slots) {k : Nat} {i : Int} {x z : Int32} {l' : Array Slot} (hd : decode B pc = .ok (.iinc k i, 3)) (hl : Ls[k]? = some (.val (.int x))) (hz : Int32.ofInt i = z) (hl' : storeLocals Ls k (.int (x + z)) = some l') (g : OG p e below s n0 rc rs Q (T.setTop (mkF m (pc + 3) l' st))) : OG p e below s n0 rc rs Q (T.setTop (mkF m pc Ls st)) := by
  obtain ⟨⟨hx, hby, -⟩, -, locs, -, Y⟩ := X
  subst hz
  exact OG.pre (fun _ q => XS.iinc Y.here hx rfl (hb hby hd) hl hl' q) g
theorem OG.goto (X : OS B mL own nm rt Z n0 p l e R s m args below meth c T h cells slots) {o : Int} {pc' : Nat} (hd : decode B pc = .ok (.goto o, 3)) (hp : 0 ≤ (pc : Int) + o ∧ ((pc : Int) + o).toNat = pc') (g : OG p e below s n0 rc rs Q (T.setTop (mkF m pc' Ls st))) : OG p e below s n0 rc rs Q (T.setTop (mkF m pc Ls st)) := by
  obtain ⟨⟨hx, hby, -⟩, -, locs, -, Y⟩ := X
  exact OG.pre (fun _ q => XS.goto Y.here hx rfl (pc0 := pc) rfl (hb hby hd) hp.1 hp.2 q) g
theorem OG.icmp_lt_t (X : OS B mL own nm rt Z n0 p l e R s m args below meth c T h cells slots) {x y : Int32} {o : Int} {pc' : Nat} (hd : decode B pc = .ok (.if_icmp .lt o, 3)) (hp : 0 ≤ (pc : Int) + o ∧ ((pc : Int) + o).toNat = pc') (hq : x < y) (g : OG p e below s n0 rc rs Q (T.setTop (mkF m pc' Ls st))) : OG p e below s n0 rc rs Q (T.setTop (mkF m pc Ls (.int y :: .int x :: st))) := by
  obtain ⟨⟨hx, hby, -⟩, -, locs, -, Y⟩ := X
  exact OG.pre (fun _ q => XS.icmpYes Y.here hx rfl (pc0 := pc) rfl (hb hby hd) rfl (tlt hq).1 hp.1 hp.2 q) g
theorem OG.icmp_lt_f (X : OS B mL own nm rt Z n0 p l e R s m args below meth c T h cells slots) {x y : Int32} {o : Int} (hd : decode B pc = .ok (.if_icmp .lt o, 3)) (hq : ¬ x < y) (g : OG p e below s n0 rc rs Q (T.setTop (mkF m (pc + 3) Ls st))) : OG p e below s n0 rc rs Q (T.setTop (mkF m pc Ls (.int y :: .int x :: st))) := by
  obtain ⟨⟨hx, hby, -⟩, -, locs, -, Y⟩ := X
  exact OG.pre (fun _ q => XS.icmpNo Y.here hx rfl (hb hby hd) rfl (flt hq).1 q) g
theorem OG.icmp_lt (X : OS B mL own nm rt Z n0 p l e R s m args below meth c T h cells slots) {x y : Int32} {o : Int} {pc' : Nat} (hd : decode B pc = .ok (.if_icmp .lt o, 3)) (hp : 0 ≤ (pc : Int) + o ∧ ((pc : Int) + o).toNat = pc') (g1 : x < y → OG p e below s n0 rc rs Q (T.setTop (mkF m pc' Ls st))) (g2 : ¬ x < y → OG p e below s n0 rc rs Q (T.setTop (mkF m (pc + 3) Ls st))) : OG p e below s n0 rc rs Q (T.setTop (mkF m pc Ls (.int y :: .int x :: st))) :=
  if hq : x < y then OG.icmp_lt_t X hd hp hq (g1 hq) else OG.icmp_lt_f X hd hq (g2 hq)
theorem OG.if_lt_t (X : OS B mL own nm rt Z n0 p l e R s m args below meth c T h cells slots) {x : Int32} {o : Int} {pc' : Nat} (hd : decode B pc = .ok (.ifCond .lt o, 3)) (hp : 0 ≤ (pc : Int) + o ∧ ((pc : Int) + o).toNat = pc') (hq : x < 0) (g : OG p e below s n0 rc rs Q (T.setTop (mkF m pc' Ls st))) : OG p e below s n0 rc rs Q (T.setTop (mkF m pc Ls (.int x :: st))) := by
  obtain ⟨⟨hx, hby, -⟩, -, locs, -, Y⟩ := X
  exact OG.pre (fun _ q => XS.ifYes Y.here hx rfl (pc0 := pc) rfl (hb hby hd) rfl ((if0 _ _).trans (tlt hq).1) hp.1 hp.2 q) g
theorem OG.if_lt_f (X : OS B mL own nm rt Z n0 p l e R s m args below meth c T h cells slots) {x : Int32} {o : Int} (hd : decode B pc = .ok (.ifCond .lt o, 3)) (hq : ¬ x < 0) (g : OG p e below s n0 rc rs Q (T.setTop (mkF m (pc + 3) Ls st))) : OG p e below s n0 rc rs Q (T.setTop (mkF m pc Ls (.int x :: st))) := by
  obtain ⟨⟨hx, hby, -⟩, -, locs, -, Y⟩ := X
  exact OG.pre (fun _ q => XS.ifNo Y.here hx rfl (hb hby hd) rfl ((if0 _ _).trans (flt hq).1) q) g
theorem OG.if_lt (X : OS B mL own nm rt Z n0 p l e R s m args below meth c T h cells slots) {x : Int32} {o : Int} {pc' : Nat} (hd : decode B pc = .ok (.ifCond .lt o, 3)) (hp : 0 ≤ (pc : Int) + o ∧ ((pc : Int) + o).toNat = pc') (g1 : x < 0 → OG p e below s n0 rc rs Q (T.setTop (mkF m pc' Ls st))) (g2 : ¬ x < 0 → OG p e below s n0 rc rs Q (T.setTop (mkF m (pc + 3) Ls st))) : OG p e below s n0 rc rs Q (T.setTop (mkF m pc Ls (.int x :: st))) :=
  if hq : x < 0 then OG.if_lt_t X hd hp hq (g1 hq) else OG.if_lt_f X hd hq (g2 hq)
theorem OG.ifl_lt_t (X : OS B mL own nm rt Z n0 p l e R s m args below meth c T h cells slots) {x y : Int64} {o : Int} {pc' : Nat} (hd : decode B pc = .ok (.ifCond .lt o, 3)) (hp : 0 ≤ (pc : Int) + o ∧ ((pc : Int) + o).toNat = pc') (hq : x < y) (g : OG p e below s n0 rc rs Q (T.setTop (mkF m pc' Ls st))) : OG p e below s n0 rc rs Q (T.setTop (mkF m pc Ls (.int (lcmpW x y) :: st))) := by
  obtain ⟨⟨hx, hby, -⟩, -, locs, -, Y⟩ := X
  exact OG.pre (fun _ q => XS.ifYes Y.here hx rfl (pc0 := pc) rfl (hb hby hd) rfl ((if0 _ _).trans (tlt ((lw_lt x y).mpr hq)).1) hp.1 hp.2 q) g
theorem OG.ifl_lt_f (X : OS B mL own nm rt Z n0 p l e R s m args below meth c T h cells slots) {x y : Int64} {o : Int} (hd : decode B pc = .ok (.ifCond .lt o, 3)) (hq : ¬ x < y) (g : OG p e below s n0 rc rs Q (T.setTop (mkF m (pc + 3) Ls st))) : OG p e below s n0 rc rs Q (T.setTop (mkF m pc Ls (.int (lcmpW x y) :: st))) := by
  obtain ⟨⟨hx, hby, -⟩, -, locs, -, Y⟩ := X
  exact OG.pre (fun _ q => XS.ifNo Y.here hx rfl (hb hby hd) rfl ((if0 _ _).trans (flt (fun q => hq ((lw_lt x y).mp q))).1) q) g
theorem OG.ifl_lt (X : OS B mL own nm rt Z n0 p l e R s m args below meth c T h cells slots) {x y : Int64} {o : Int} {pc' : Nat} (hd : decode B pc = .ok (.ifCond .lt o, 3)) (hp : 0 ≤ (pc : Int) + o ∧ ((pc : Int) + o).toNat = pc') (g1 : x < y → OG p e below s n0 rc rs Q (T.setTop (mkF m pc' Ls st))) (g2 : ¬ x < y → OG p e below s n0 rc rs Q (T.setTop (mkF m (pc + 3) Ls st))) : OG p e below s n0 rc rs Q (T.setTop (mkF m pc Ls (.int (lcmpW x y) :: st))) :=
  if hq : x < y then OG.ifl_lt_t X hd hp hq (g1 hq) else OG.ifl_lt_f X hd hq (g2 hq)
theorem OG.icmp_ge_t (X : OS B mL own nm rt Z n0 p l e R s m args below meth c T h cells slots) {x y : Int32} {o : Int} {pc' : Nat} (hd : decode B pc = .ok (.if_icmp .ge o, 3)) (hp : 0 ≤ (pc : Int) + o ∧ ((pc : Int) + o).toNat = pc') (hq : ¬ x < y) (g : OG p e below s n0 rc rs Q (T.setTop (mkF m pc' Ls st))) : OG p e below s n0 rc rs Q (T.setTop (mkF m pc Ls (.int y :: .int x :: st))) := by
  obtain ⟨⟨hx, hby, -⟩, -, locs, -, Y⟩ := X
  exact OG.pre (fun _ q => XS.icmpYes Y.here hx rfl (pc0 := pc) rfl (hb hby hd) rfl (flt hq).2.1 hp.1 hp.2 q) g
theorem OG.icmp_ge_f (X : OS B mL own nm rt Z n0 p l e R s m args below meth c T h cells slots) {x y : Int32} {o : Int} (hd : decode B pc = .ok (.if_icmp .ge o, 3)) (hq : x < y) (g : OG p e below s n0 rc rs Q (T.setTop (mkF m (pc + 3) Ls st))) : OG p e below s n0 rc rs Q (T.setTop (mkF m pc Ls (.int y :: .int x :: st))) := by
  obtain ⟨⟨hx, hby, -⟩, -, locs, -, Y⟩ := X
  exact OG.pre (fun _ q => XS.icmpNo Y.here hx rfl (hb hby hd) rfl (tlt hq).2.1 q) g
theorem OG.icmp_ge (X : OS B mL own nm rt Z n0 p l e R s m args below meth c T h cells slots) {x y : Int32} {o : Int} {pc' : Nat} (hd : decode B pc = .ok (.if_icmp .ge o, 3)) (hp : 0 ≤ (pc : Int) + o ∧ ((pc : Int) + o).toNat = pc') (g1 : ¬ x < y → OG p e below s n0 rc rs Q (T.setTop (mkF m pc' Ls st))) (g2 : x < y → OG p e below s n0 rc rs Q (T.setTop (mkF m (pc + 3) Ls st))) : OG p e below s n0 rc rs Q (T.setTop (mkF m pc Ls (.int y :: .int x :: st))) :=
  if hq : x < y then OG.icmp_ge_f X hd hq (g2 hq) else OG.icmp_ge_t X hd hp hq (g1 hq)
theorem OG.if_ge_t (X : OS B mL own nm rt Z n0 p l e R s m args below meth c T h cells slots) {x : Int32} {o : Int} {pc' : Nat} (hd : decode B pc = .ok (.ifCond .ge o, 3)) (hp : 0 ≤ (pc : Int) + o ∧ ((pc : Int) + o).toNat = pc') (hq : ¬ x < 0) (g : OG p e below s n0 rc rs Q (T.setTop (mkF m pc' Ls st))) : OG p e below s n0 rc rs Q (T.setTop (mkF m pc Ls (.int x :: st))) := by
  obtain ⟨⟨hx, hby, -⟩, -, locs, -, Y⟩ := X
  exact OG.pre (fun _ q => XS.ifYes Y.here hx rfl (pc0 := pc) rfl (hb hby hd) rfl ((if0 _ _).trans (flt hq).2.1) hp.1 hp.2 q) g
theorem OG.if_ge_f (X : OS B mL own nm rt Z n0 p l e R s m args below meth c T h cells slots) {x : Int32} {o : Int} (hd : decode B pc = .ok (.ifCond .ge o, 3)) (hq : x < 0) (g : OG p e below s n0 rc rs Q (T.setTop (mkF m (pc + 3) Ls st))) : OG p e below s n0 rc rs Q (T.setTop (mkF m pc Ls (.int x :: st))) := by
  obtain ⟨⟨hx, hby, -⟩, -, locs, -, Y⟩ := X
  exact OG.pre (fun _ q => XS.ifNo Y.here hx rfl (hb hby hd) rfl ((if0 _ _).trans (tlt hq).2.1) q) g
theorem OG.if_ge (X : OS B mL own nm rt Z n0 p l e R s m args below meth c T h cells slots) {x : Int32} {o : Int} {pc' : Nat} (hd : decode B pc = .ok (.ifCond .ge o, 3)) (hp : 0 ≤ (pc : Int) + o ∧ ((pc : Int) + o).toNat = pc') (g1 : ¬ x < 0 → OG p e below s n0 rc rs Q (T.setTop (mkF m pc' Ls st))) (g2 : x < 0 → OG p e below s n0 rc rs Q (T.setTop (mkF m (pc + 3) Ls st))) : OG p e below s n0 rc rs Q (T.setTop (mkF m pc Ls (.int x :: st))) :=
  if hq : x < 0 then OG.if_ge_f X hd hq (g2 hq) else OG.if_ge_t X hd hp hq (g1 hq)
theorem OG.ifl_ge_t (X : OS B mL own nm rt Z n0 p l e R s m args below meth c T h cells slots) {x y : Int64} {o : Int} {pc' : Nat} (hd : decode B pc = .ok (.ifCond .ge o, 3)) (hp : 0 ≤ (pc : Int) + o ∧ ((pc : Int) + o).toNat = pc') (hq : ¬ x < y) (g : OG p e below s n0 rc rs Q (T.setTop (mkF m pc' Ls st))) : OG p e below s n0 rc rs Q (T.setTop (mkF m pc Ls (.int (lcmpW x y) :: st))) := by
  obtain ⟨⟨hx, hby, -⟩, -, locs, -, Y⟩ := X
  exact OG.pre (fun _ q => XS.ifYes Y.here hx rfl (pc0 := pc) rfl (hb hby hd) rfl ((if0 _ _).trans (flt (fun q => hq ((lw_lt x y).mp q))).2.1) hp.1 hp.2 q) g
theorem OG.ifl_ge_f (X : OS B mL own nm rt Z n0 p l e R s m args below meth c T h cells slots) {x y : Int64} {o : Int} (hd : decode B pc = .ok (.ifCond .ge o, 3)) (hq : x < y) (g : OG p e below s n0 rc rs Q (T.setTop (mkF m (pc + 3) Ls st))) : OG p e below s n0 rc rs Q (T.setTop (mkF m pc Ls (.int (lcmpW x y) :: st))) := by
  obtain ⟨⟨hx, hby, -⟩, -, locs, -, Y⟩ := X
  exact OG.pre (fun _ q => XS.ifNo Y.here hx rfl (hb hby hd) rfl ((if0 _ _).trans (tlt ((lw_lt x y).mpr hq)).2.1) q) g
theorem OG.ifl_ge (X : OS B mL own nm rt Z n0 p l e R s m args below meth c T h cells slots) {x y : Int64} {o : Int} {pc' : Nat} (hd : decode B pc = .ok (.ifCond .ge o, 3)) (hp : 0 ≤ (pc : Int) + o ∧ ((pc : Int) + o).toNat = pc') (g1 : ¬ x < y → OG p e below s n0 rc rs Q (T.setTop (mkF m pc' Ls st))) (g2 : x < y → OG p e below s n0 rc rs Q (T.setTop (mkF m (pc + 3) Ls st))) : OG p e below s n0 rc rs Q (T.setTop (mkF m pc Ls (.int (lcmpW x y) :: st))) :=
  if hq : x < y then OG.ifl_ge_f X hd hq (g2 hq) else OG.ifl_ge_t X hd hp hq (g1 hq)
theorem OG.icmp_gt_t (X : OS B mL own nm rt Z n0 p l e R s m args below meth c T h cells slots) {x y : Int32} {o : Int} {pc' : Nat} (hd : decode B pc = .ok (.if_icmp .gt o, 3)) (hp : 0 ≤ (pc : Int) + o ∧ ((pc : Int) + o).toNat = pc') (hq : y < x) (g : OG p e below s n0 rc rs Q (T.setTop (mkF m pc' Ls st))) : OG p e below s n0 rc rs Q (T.setTop (mkF m pc Ls (.int y :: .int x :: st))) := by
  obtain ⟨⟨hx, hby, -⟩, -, locs, -, Y⟩ := X
  exact OG.pre (fun _ q => XS.icmpYes Y.here hx rfl (pc0 := pc) rfl (hb hby hd) rfl (tlt hq).2.2.1 hp.1 hp.2 q) g
theorem OG.icmp_gt_f (X : OS B mL own nm rt Z n0 p l e R s m args below meth c T h cells slots) {x y : Int32} {o : Int} (hd : decode B pc = .ok (.if_icmp .gt o, 3)) (hq : ¬ y < x) (g : OG p e below s n0 rc rs Q (T.setTop (mkF m (pc + 3) Ls st))) : OG p e below s n0 rc rs Q (T.setTop (mkF m pc Ls (.int y :: .int x :: st))) := by
  obtain ⟨⟨hx, hby, -⟩, -, locs, -, Y⟩ := X
  exact OG.pre (fun _ q => XS.icmpNo Y.here hx rfl (hb hby hd) rfl (flt hq).2.2.1 q) g
theorem OG.icmp_gt (X : OS B mL own nm rt Z n0 p l e R s m args below meth c T h cells slots) {x y : Int32} {o : Int} {pc' : Nat} (hd : decode B pc = .ok (.if_icmp .gt o, 3)) (hp : 0 ≤ (pc : Int) + o ∧ ((pc : Int) + o).toNat = pc') (g1 : y < x → OG p e below s n0 rc rs Q (T.setTop (mkF m pc' Ls st))) (g2 : ¬ y < x → OG p e below s n0 rc rs Q (T.setTop (mkF m (pc + 3) Ls st))) : OG p e below s n0 rc rs Q (T.setTop (mkF m pc Ls (.int y :: .int x :: st))) :=
  if hq : y < x then OG.icmp_gt_t X hd hp hq (g1 hq) else OG.icmp_gt_f X hd hq (g2 hq)
theorem OG.if_gt_t (X : OS B mL own nm rt Z n0 p l e R s m args below meth c T h cells slots) {x : Int32} {o : Int} {pc' : Nat} (hd : decode B pc = .ok (.ifCond .gt o, 3)) (hp : 0 ≤ (pc : Int) + o ∧ ((pc : Int) + o).toNat = pc') (hq : 0 < x) (g : OG p e below s n0 rc rs Q (T.setTop (mkF m pc' Ls st))) : OG p e below s n0 rc rs Q (T.setTop (mkF m pc Ls (.int x :: st))) := by
  obtain ⟨⟨hx, hby, -⟩, -, locs, -, Y⟩ := X
  exact OG.pre (fun _ q => XS.ifYes Y.here hx rfl (pc0 := pc) rfl (hb hby hd) rfl ((if0 _ _).trans (tlt hq).2.2.1) hp.1 hp.2 q) g
theorem OG.if_gt_f (X : OS B mL own nm rt Z n0 p l e R s m args below meth c T h cells slots) {x : Int32} {o : Int} (hd : decode B pc = .ok (.ifCond .gt o, 3)) (hq : ¬ 0 < x) (g : OG p e below s n0 rc rs Q (T.setTop (mkF m (pc + 3) Ls st))) : OG p e below s n0 rc rs Q (T.setTop (mkF m pc Ls (.int x :: st))) := by
  obtain ⟨⟨hx, hby, -⟩, -, locs, -, Y⟩ := X
  exact OG.pre (fun _ q => XS.ifNo Y.here hx rfl (hb hby hd) rfl ((if0 _ _).trans (flt hq).2.2.1) q) g
theorem OG.if_gt (X : OS B mL own nm rt Z n0 p l e R s m args below meth c T h cells slots) {x : Int32} {o : Int} {pc' : Nat} (hd : decode B pc = .ok (.ifCond .gt o, 3)) (hp : 0 ≤ (pc : Int) + o ∧ ((pc : Int) + o).toNat = pc') (g1 : 0 < x → OG p e below s n0 rc rs Q (T.setTop (mkF m pc' Ls st))) (g2 : ¬ 0 < x → OG p e below s n0 rc rs Q (T.setTop (mkF m (pc + 3) Ls st))) : OG p e below s n0 rc rs Q (T.setTop (mkF m pc Ls (.int x :: st))) :=
  if hq : 0 < x then OG.if_gt_t X hd hp hq (g1 hq) else OG.if_gt_f X hd hq (g2 hq)
theorem OG.ifl_gt_t (X : OS B mL own nm rt Z n0 p l e R s m args below meth c T h cells slots) {x y : Int64} {o : Int} {pc' : Nat} (hd : decode B pc = .ok (.ifCond .gt o, 3)) (hp : 0 ≤ (pc : Int) + o ∧ ((pc : Int) + o).toNat = pc') (hq : y < x) (g : OG p e below s n0 rc rs Q (T.setTop (mkF m pc' Ls st))) : OG p e below s n0 rc rs Q (T.setTop (mkF m pc Ls (.int (lcmpW x y) :: st))) := by
  obtain ⟨⟨hx, hby, -⟩, -, locs, -, Y⟩ := X
  exact OG.pre (fun _ q => XS.ifYes Y.here hx rfl (pc0 := pc) rfl (hb hby hd) rfl ((if0 _ _).trans (tlt ((lw_gt x y).mpr hq)).2.2.1) hp.1 hp.2 q) g
theorem OG.ifl_gt_f (X : OS B mL own nm rt Z n0 p l e R s m args below meth c T h cells slots) {x y : Int64} {o : Int} (hd : decode B pc = .ok (.ifCond .gt o, 3)) (hq : ¬ y < x) (g : OG p e below s n0 rc rs Q (T.setTop (mkF m (pc + 3) Ls st))) : OG p e below s n0 rc rs Q (T.setTop (mkF m pc Ls (.int (lcmpW x y) :: st))) := by
  obtain ⟨⟨hx, hby, -⟩, -, locs, -, Y⟩ := X
  exact OG.pre (fun _ q => XS.ifNo Y.here hx rfl (hb hby hd) rfl ((if0 _ _).trans (flt (fun q => hq ((lw_gt x y).mp q))).2.2.1) q) g
theorem OG.ifl_gt (X : OS B mL own nm rt Z n0 p l e R s m args below meth c T h cells slots) {x y : Int64} {o : Int} {pc' : Nat} (hd : decode B pc = .ok (.ifCond .gt o, 3)) (hp : 0 ≤ (pc : Int) + o ∧ ((pc : Int) + o).toNat = pc') (g1 : y < x → OG p e below s n0 rc rs Q (T.setTop (mkF m pc' Ls st))) (g2 : ¬ y < x → OG p e below s n0 rc rs Q (T.setTop (mkF m (pc + 3) Ls st))) : OG p e below s n0 rc rs Q (T.setTop (mkF m pc Ls (.int (lcmpW x y) :: st))) :=
  if hq : y < x then OG.ifl_gt_t X hd hp hq (g1 hq) else OG.ifl_gt_f X hd hq (g2 hq)
theorem OG.icmp_le_t (X : OS B mL own nm rt Z n0 p l e R s m args below meth c T h cells slots) {x y : Int32} {o : Int} {pc' : Nat} (hd : decode B pc = .ok (.if_icmp .le o, 3)) (hp : 0 ≤ (pc : Int) + o ∧ ((pc : Int) + o).toNat = pc') (hq : ¬ y < x) (g : OG p e below s n0 rc rs Q (T.setTop (mkF m pc' Ls st))) : OG p e below s n0 rc rs Q (T.setTop (mkF m pc Ls (.int y :: .int x :: st))) := by
  obtain ⟨⟨hx, hby, -⟩, -, locs, -, Y⟩ := X
  exact OG.pre (fun _ q => XS.icmpYes Y.here hx rfl (pc0 := pc) rfl (hb hby hd) rfl (flt hq).2.2.2 hp.1 hp.2 q) g
theorem OG.icmp_le_f (X : OS B mL own nm rt Z n0 p l e R s m args below meth c T h cells slots) {x y : Int32} {o : Int} (hd : decode B pc = .ok (.if_icmp .le o, 3)) (hq : y < x) (g : OG p e below s n0 rc rs Q (T.setTop (mkF m (pc + 3) Ls st))) : OG p e below s n0 rc rs Q (T.setTop (mkF m pc Ls (.int y :: .int x :: st))) := by
  obtain ⟨⟨hx, hby, -⟩, -, locs, -, Y⟩ := X
  exact OG.pre (fun _ q => XS.icmpNo Y.here hx rfl (hb hby hd) rfl (tlt hq).2.2.2 q) g
theorem OG.icmp_le (X : OS B mL own nm rt Z n0 p l e R s m args below meth c T h cells slots) {x y : Int32} {o : Int} {pc' : Nat} (hd : decode B pc = .ok (.if_icmp .le o, 3)) (hp : 0 ≤ (pc : Int) + o ∧ ((pc : Int) + o).toNat = pc') (g1 : ¬ y < x → OG p e below s n0 rc rs Q (T.setTop (mkF m pc' Ls st))) (g2 : y < x → OG p e below s n0 rc rs Q (T.setTop (mkF m (pc + 3) Ls st))) : OG p e below s n0 rc rs Q (T.setTop (mkF m pc Ls (.int y :: .int x :: st))) :=
  if hq : y < x then OG.icmp_le_f X hd hq (g2 hq) else OG.icmp_le_t X hd hp hq (g1 hq)
theorem OG.if_le_t (X : OS B mL own nm rt Z n0 p l e R s m args below meth c T h cells slots) {x : Int32} {o : Int} {pc' : Nat} (hd : decode B pc = .ok (.ifCond .le o, 3)) (hp : 0 ≤ (pc : Int) + o ∧ ((pc : Int) + o).toNat = pc') (hq : ¬ 0 < x) (g : OG p e below s n0 rc rs Q (T.setTop (mkF m pc' Ls st))) : OG p e below s n0 rc rs Q (T.setTop (mkF m pc Ls (.int x :: st))) := by
  obtain ⟨⟨hx, hby, -⟩, -, locs, -, Y⟩ := X
  exact OG.pre (fun _ q => XS.ifYes Y.here hx rfl (pc0 := pc) rfl (hb hby hd) rfl ((if0 _ _).trans (flt hq).2.2.2) hp.1 hp.2 q) g
theorem OG.if_le_f (X : OS B mL own nm rt Z n0 p l e R s m args below meth c T h cells slots) {x : Int32} {o : Int} (hd : decode B pc = .ok (.ifCond .le o, 3)) (hq : 0 < x) (g : OG p e below s n0 rc rs Q (T.setTop (mkF m (pc + 3) Ls st))) : OG p e below s n0 rc rs Q (T.setTop (mkF m pc Ls (.int x :: st))) := by
  obtain ⟨⟨hx, hby, -⟩, -, locs, -, Y⟩ := X
  exact OG.pre (fun _ q => XS.ifNo Y.here hx rfl (hb hby hd) rfl ((if0 _ _).trans (tlt hq).2.2.2) q) g
theorem OG.if_le (X : OS B mL own nm rt Z n0 p l e R s m args below meth c T h cells slots) {x : Int32} {o : Int} {pc' : Nat} (hd : decode B pc = .ok (.ifCond .le o, 3)) (hp : 0 ≤ (pc : Int) + o ∧ ((pc : Int) + o).toNat = pc') (g1 : ¬ 0 < x → OG p e below s n0 rc rs Q (T.setTop (mkF m pc' Ls st))) (g2 : 0 < x → OG p e below s n0 rc rs Q (T.setTop (mkF m (pc + 3) Ls st))) : OG p e below s n0 rc rs Q (T.setTop (mkF m pc Ls (.int x :: st))) :=
  if hq : 0 < x then OG.if_le_f X hd hq (g2 hq) else OG.if_le_t X hd hp hq (g1 hq)
theorem OG.ifl_le_t (X : OS B mL own nm rt Z n0 p l e R s m args below meth c T h cells slots) {x y : Int64} {o : Int} {pc' : Nat} (hd : decode B pc = .ok (.ifCond .le o, 3)) (hp : 0 ≤ (pc : Int) + o ∧ ((pc : Int) + o).toNat = pc') (hq : ¬ y < x) (g : OG p e below s n0 rc rs Q (T.setTop (mkF m pc' Ls st))) : OG p e below s n0 rc rs Q (T.setTop (mkF m pc Ls (.int (lcmpW x y) :: st))) := by
  obtain ⟨⟨hx, hby, -⟩, -, locs, -, Y⟩ := X
  exact OG.pre (fun _ q => XS.ifYes Y.here hx rfl (pc0 := pc) rfl (hb hby hd) rfl ((if0 _ _).trans (flt (fun q => hq ((lw_gt x y).mp q))).2.2.2) hp.1 hp.2 q) g
theorem OG.ifl_le_f (X : OS B mL own nm rt Z n0 p l e R s m args below meth c T h cells slots) {x y : Int64} {o : Int} (hd : decode B pc = .ok (.ifCond .le o, 3)) (hq : y < x) (g : OG p e below s n0 rc rs Q (T.setTop (mkF m (pc + 3) Ls st))) : OG p e below s n0 rc rs Q (T.setTop (mkF m pc Ls (.int (lcmpW x y) :: st))) := by
  obtain ⟨⟨hx, hby, -⟩, -, locs, -, Y⟩ := X
  exact OG.pre (fun _ q => XS.ifNo Y.here hx rfl (hb hby hd) rfl ((if0 _ _).trans (tlt ((lw_gt x y).mpr hq)).2.2.2) q) g
theorem OG.ifl_le (X : OS B mL own nm rt Z n0 p l e R s m args below meth c T h cells slots) {x y : Int64} {o : Int} {pc' : Nat} (hd : decode B pc = .ok (.ifCond .le o, 3)) (hp : 0 ≤ (pc : Int) + o ∧ ((pc : Int) + o).toNat = pc') (g1 : ¬ y < x → OG p e below s n0 rc rs Q (T.setTop (mkF m pc' Ls st))) (g2 : y < x → OG p e below s n0 rc rs Q (T.setTop (mkF m (pc + 3) Ls st))) : OG p e below s n0 rc rs Q (T.setTop (mkF m pc Ls (.int (lcmpW x y) :: st))) :=
  if hq : y < x then OG.ifl_le_f X hd hq (g2 hq) else OG.ifl_le_t X hd hp hq (g1 hq)
theorem OG.icmp_eq_t (X : OS B mL own nm rt Z n0 p l e R s m args below meth c T h cells slots) {x y : Int32} {o : Int} {pc' : Nat} (hd : decode B pc = .ok (.if_icmp .eq o, 3)) (hp : 0 ≤ (pc : Int) + o ∧ ((pc : Int) + o).toNat = pc') (hq : x = y) (g : OG p e below s n0 rc rs Q (T.setTop (mkF m pc' Ls st))) : OG p e below s n0 rc rs Q (T.setTop (mkF m pc Ls (.int y :: .int x :: st))) := by
  obtain ⟨⟨hx, hby, -⟩, -, locs, -, Y⟩ := X
  exact OG.pre (fun _ q => XS.icmpYes Y.here hx rfl (pc0 := pc) rfl (hb hby hd) rfl (teq hq).1 hp.1 hp.2 q) g
theorem OG.icmp_eq_f (X : OS B mL own nm rt Z n0 p l e R s m args below meth c T h cells slots) {x y : Int32} {o : Int} (hd : decode B pc = .ok (.if_icmp .eq o, 3)) (hq : ¬ x = y) (g : OG p e below s n0 rc rs Q (T.setTop (mkF m (pc + 3) Ls st))) : OG p e below s n0 rc rs Q (T.setTop (mkF m pc Ls (.int y :: .int x :: st))) := by
  obtain ⟨⟨hx, hby, -⟩, -, locs, -, Y⟩ := X
  exact OG.pre (fun _ q => XS.icmpNo Y.here hx rfl (hb hby hd) rfl (feq hq).1 q) g
theorem OG.icmp_eq (X : OS B mL own nm rt Z n0 p l e R s m args below meth c T h cells slots) {x y : Int32} {o : Int} {pc' : Nat} (hd : decode B pc = .ok (.if_icmp .eq o, 3)) (hp : 0 ≤ (pc : Int) + o ∧ ((pc : Int) + o).toNat = pc') (g1 : x = y → OG p e below s n0 rc rs Q (T.setTop (mkF m pc' Ls st))) (g2 : ¬ x = y → OG p e below s n0 rc rs Q (T.setTop (mkF m (pc + 3) Ls st))) : OG p e below s n0 rc rs Q (T.setTop (mkF m pc Ls (.int y :: .int x :: st))) :=
  if hq : x = y then OG.icmp_eq_t X hd hp hq (g1 hq) else OG.icmp_eq_f X hd hq (g2 hq)
theorem OG.if_eq_t (X : OS B mL own nm rt Z n0 p l e R s m args below meth c T h cells slots) {x : Int32} {o : Int} {pc' : Nat} (hd : decode B pc = .ok (.ifCond .eq o, 3)) (hp : 0 ≤ (pc : Int) + o ∧ ((pc : Int) + o).toNat = pc') (hq : x = 0) (g : OG p e below s n0 rc rs Q (T.setTop (mkF m pc' Ls st))) : OG p e below s n0 rc rs Q (T.setTop (mkF m pc Ls (.int x :: st))) := by
  obtain ⟨⟨hx, hby, -⟩, -, locs, -, Y⟩ := X
  exact OG.pre (fun _ q => XS.ifYes Y.here hx rfl (pc0 := pc) rfl (hb hby hd) rfl ((if0 _ _).trans (teq hq).1) hp.1 hp.2 q) g
theorem OG.if_eq_f (X : OS B mL own nm rt Z n0 p l e R s m args below meth c T h cells slots) {x : Int32} {o : Int} (hd : decode B pc = .ok (.ifCond .eq o, 3)) (hq : ¬ x = 0) (g : OG p e below s n0 rc rs Q (T.setTop (mkF m (pc + 3) Ls st))) : OG p e below s n0 rc rs Q (T.setTop (mkF m pc Ls (.int x :: st))) := by
  obtain ⟨⟨hx, hby, -⟩, -, locs, -, Y⟩ := X
  exact OG.pre (fun _ q => XS.ifNo Y.here hx rfl (hb hby hd) rfl ((if0 _ _).trans (feq hq).1) q) g
theorem OG.if_eq (X : OS B mL own nm rt Z n0 p l e R s m args below meth c T h cells slots) {x : Int32} {o : Int} {pc' : Nat} (hd : decode B pc = .ok (.ifCond .eq o, 3)) (hp : 0 ≤ (pc : Int) + o ∧ ((pc : Int) + o).toNat = pc') (g1 : x = 0 → OG p e below s n0 rc rs Q (T.setTop (mkF m pc' Ls st))) (g2 : ¬ x = 0 → OG p e below s n0 rc rs Q (T.setTop (mkF m (pc + 3) Ls st))) : OG p e below s n0 rc rs Q (T.setTop (mkF m pc Ls (.int x :: st))) :=
  if hq : x = 0 then OG.if_eq_t X hd hp hq (g1 hq) else OG.if_eq_f X hd hq (g2 hq)
theorem OG.ifl_eq_t (X : OS B mL own nm rt Z n0 p l e R s m args below meth c T h cells slots) {x y : Int64} {o : Int} {pc' : Nat} (hd : decode B pc = .ok (.ifCond .eq o, 3)) (hp : 0 ≤ (pc : Int) + o ∧ ((pc : Int) + o).toNat = pc') (hq : x = y) (g : OG p e below s n0 rc rs Q (T.setTop (mkF m pc' Ls st))) : OG p e below s n0 rc rs Q (T.setTop (mkF m pc Ls (.int (lcmpW x y) :: st))) := by
  obtain ⟨⟨hx, hby, -⟩, -, locs, -, Y⟩ := X
  exact OG.pre (fun _ q => XS.ifYes Y.here hx rfl (pc0 := pc) rfl (hb hby hd) rfl ((if0 _ _).trans (teq ((lw_eq x y).mpr hq)).1) hp.1 hp.2 q) g
theorem OG.ifl_eq_f (X : OS B mL own nm rt Z n0 p l e R s m args below meth c T h cells slots) {x y : Int64} {o : Int} (hd : decode B pc = .ok (.ifCond .eq o, 3)) (hq : ¬ x = y) (g : OG p e below s n0 rc rs Q (T.setTop (mkF m (pc + 3) Ls st))) : OG p e below s n0 rc rs Q (T.setTop (mkF m pc Ls (.int (lcmpW x y) :: st))) := by
  obtain ⟨⟨hx, hby, -⟩, -, locs, -, Y⟩ := X
  exact OG.pre (fun _ q => XS.ifNo Y.here hx rfl (hb hby hd) rfl ((if0 _ _).trans (feq (fun q => hq ((lw_eq x y).mp q))).1) q) g
theorem OG.ifl_eq (X : OS B mL own nm rt Z n0 p l e R s m args below meth c T h cells slots) {x y : Int64} {o : Int} {pc' : Nat} (hd : decode B pc = .ok (.ifCond .eq o, 3)) (hp : 0 ≤ (pc : Int) + o ∧ ((pc : Int) + o).toNat = pc') (g1 : x = y → OG p e below s n0 rc rs Q (T.setTop (mkF m pc' Ls st))) (g2 : ¬ x = y → OG p e below s n0 rc rs Q (T.setTop (mkF m (pc + 3) Ls st))) : OG p e below s n0 rc rs Q (T.setTop (mkF m pc Ls (.int (lcmpW x y) :: st))) :=
  if hq : x = y then OG.ifl_eq_t X hd hp hq (g1 hq) else OG.ifl_eq_f X hd hq (g2 hq)
theorem OG.icmp_ne_t (X : OS B mL own nm rt Z n0 p l e R s m args below meth c T h cells slots) {x y : Int32} {o : Int} {pc' : Nat} (hd : decode B pc = .ok (.if_icmp .ne o, 3)) (hp : 0 ≤ (pc : Int) + o ∧ ((pc : Int) + o).toNat = pc') (hq : ¬ x = y) (g : OG p e below s n0 rc rs Q (T.setTop (mkF m pc' Ls st))) : OG p e below s n0 rc rs Q (T.setTop (mkF m pc Ls (.int y :: .int x :: st))) := by
  obtain ⟨⟨hx, hby, -⟩, -, locs, -, Y⟩ := X
  exact OG.pre (fun _ q => XS.icmpYes Y.here hx rfl (pc0 := pc) rfl (hb hby hd) rfl (feq hq).2 hp.1 hp.2 q) g
theorem OG.icmp_ne_f (X : OS B mL own nm rt Z n0 p l e R s m args below meth c T h cells slots) {x y : Int32} {o : Int} (hd : decode B pc = .ok (.if_icmp .ne o, 3)) (hq : x = y) (g : OG p e below s n0 rc rs Q (T.setTop (mkF m (pc + 3) Ls st))) : OG p e below s n0 rc rs Q (T.setTop (mkF m pc Ls (.int y :: .int x :: st))) := by
  obtain ⟨⟨hx, hby, -⟩, -, locs, -, Y⟩ := X
  exact OG.pre (fun _ q => XS.icmpNo Y.here hx rfl (hb hby hd) rfl (teq hq).2 q) g
theorem OG.icmp_ne (X : OS B mL own nm rt Z n0 p l e R s m args below meth c T h cells slots) {x y : Int32} {o : Int} {pc' : Nat} (hd : decode B pc = .ok (.if_icmp .ne o, 3)) (hp : 0 ≤ (pc : Int) + o ∧ ((pc : Int) + o).toNat = pc') (g1 : ¬ x = y → OG p e below s n0 rc rs Q (T.setTop (mkF m pc' Ls st))) (g2 : x = y → OG p e below s n0 rc rs Q (T.setTop (mkF m (pc + 3) Ls st))) : OG p e below s n0 rc rs Q (T.setTop (mkF m pc Ls (.int y :: .int x :: st))) :=
  if hq : x = y then OG.icmp_ne_f X hd hq (g2 hq) else OG.icmp_ne_t X hd hp hq (g1 hq)
theorem OG.if_ne_t (X : OS B mL own nm rt Z n0 p l e R s m args below meth c T h cells slots) {x : Int32} {o : Int} {pc' : Nat} (hd : decode B pc = .ok (.ifCond .ne o, 3)) (hp : 0 ≤ (pc : Int) + o ∧ ((pc : Int) + o).toNat = pc') (hq : ¬ x = 0) (g : OG p e below s n0 rc rs Q (T.setTop (mkF m pc' Ls st))) : OG p e below s n0 rc rs Q (T.setTop (mkF m pc Ls (.int x :: st))) := by
  obtain ⟨⟨hx, hby, -⟩, -, locs, -, Y⟩ := X
  exact OG.pre (fun _ q => XS.ifYes Y.here hx rfl (pc0 := pc) rfl (hb hby hd) rfl ((if0 _ _).trans (feq hq).2) hp.1 hp.2 q) g
theorem OG.if_ne_f (X : OS B mL own nm rt Z n0 p l e R s m args below meth c T h cells slots) {x : Int32} {o : Int} (hd : decode B pc = .ok (.ifCond .ne o, 3)) (hq : x = 0) (g : OG p e below s n0 rc rs Q (T.setTop (mkF m (pc + 3) Ls st))) : OG p e below s n0 rc rs Q (T.setTop (mkF m pc Ls (.int x :: st))) := by
  obtain ⟨⟨hx, hby, -⟩, -, locs, -, Y⟩ := X
  exact OG.pre (fun _ q => XS.ifNo Y.here hx rfl (hb hby hd) rfl ((if0 _ _).trans (teq hq).2) q) g
theorem OG.if_ne (X : OS B mL own nm rt Z n0 p l e R s m args below meth c T h cells slots) {x : Int32} {o : Int} {pc' : Nat} (hd : decode B pc = .ok (.ifCond .ne o, 3)) (hp : 0 ≤ (pc : Int) + o ∧ ((pc : Int) + o).toNat = pc') (g1 : ¬ x = 0 → OG p e below s n0 rc rs Q (T.setTop (mkF m pc' Ls st))) (g2 : x = 0 → OG p e below s n0 rc rs Q (T.setTop (mkF m (pc + 3) Ls st))) : OG p e below s n0 rc rs Q (T.setTop (mkF m pc Ls (.int x :: st))) :=
  if hq : x = 0 then OG.if_ne_f X hd hq (g2 hq) else OG.if_ne_t X hd hp hq (g1 hq)
theorem OG.ifl_ne_t (X : OS B mL own nm rt Z n0 p l e R s m args below meth c T h cells slots) {x y : Int64} {o : Int} {pc' : Nat} (hd : decode B pc = .ok (.ifCond .ne o, 3)) (hp : 0 ≤ (pc : Int) + o ∧ ((pc : Int) + o).toNat = pc') (hq : ¬ x = y) (g : OG p e below s n0 rc rs Q (T.setTop (mkF m pc' Ls st))) : OG p e below s n0 rc rs Q (T.setTop (mkF m pc Ls (.int (lcmpW x y) :: st))) := by
  obtain ⟨⟨hx, hby, -⟩, -, locs, -, Y⟩ := X
  exact OG.pre (fun _ q => XS.ifYes Y.here hx rfl (pc0 := pc) rfl (hb hby hd) rfl ((if0 _ _).trans (feq (fun q => hq ((lw_eq x y).mp q))).2) hp.1 hp.2 q) g
theorem OG.ifl_ne_f (X : OS B mL own nm rt Z n0 p l e R s m args below meth c T h cells slots) {x y : Int64} {o : Int} (hd : decode B pc = .ok (.ifCond .ne o, 3)) (hq : x = y) (g : OG p e below s n0 rc rs Q (T.setTop (mkF m (pc + 3) Ls st))) : OG p e below s n0 rc rs Q (T.setTop (mkF m pc Ls (.int (lcmpW x y) :: st))) := by
  obtain ⟨⟨hx, hby, -⟩, -, locs, -, Y⟩ := X
  exact OG.pre (fun _ q => XS.ifNo Y.here hx rfl (hb hby hd) rfl ((if0 _ _).trans (teq ((lw_eq x y).mpr hq)).2) q) g
theorem OG.ifl_ne (X : OS B mL own nm rt Z n0 p l e R s m args below meth c T h cells slots) {x y : Int64} {o : Int} {pc' : Nat} (hd : decode B pc = .ok (.ifCond .ne o, 3)) (hp : 0 ≤ (pc : Int) + o ∧ ((pc : Int) + o).toNat = pc') (g1 : ¬ x = y → OG p e below s n0 rc rs Q (T.setTop (mkF m pc' Ls st))) (g2 : x = y → OG p e below s n0 rc rs Q (T.setTop (mkF m (pc + 3) Ls st))) : OG p e below s n0 rc rs Q (T.setTop (mkF m pc Ls (.int (lcmpW x y) :: st))) :=
  if hq : x = y then OG.ifl_ne_f X hd hq (g2 hq) else OG.ifl_ne_t X hd hp hq (g1 hq)
theorem OG.ifnullYes (X : OS B mL own nm rt Z n0 p l e R s m args below meth c T h cells slots)  {o : Int} {pc' : Nat} (hd : decode B pc = .ok (.ifnull o, 3)) (hp : 0 ≤ (pc : Int) + o ∧ ((pc : Int) + o).toNat = pc') (g : OG p e below s n0 rc rs Q (T.setTop (mkF m pc' Ls st))) : OG p e below s n0 rc rs Q (T.setTop (mkF m pc Ls (.null :: st))) := by
  obtain ⟨⟨hx, hby, -⟩, -, locs, -, Y⟩ := X
  exact OG.pre (fun _ q => XS.ifnullYes Y.here hx rfl (pc0 := pc) rfl (hb hby hd) rfl hp.1 hp.2 q) g
theorem OG.ifnonnullYes (X : OS B mL own nm rt Z n0 p l e R s m args below meth c T h cells slots) {a : Addr} {o : Int} {pc' : Nat} (hd : decode B pc = .ok (.ifnonnull o, 3)) (hp : 0 ≤ (pc : Int) + o ∧ ((pc : Int) + o).toNat = pc') (g : OG p e below s n0 rc rs Q (T.setTop (mkF m pc' Ls st))) : OG p e below s n0 rc rs Q (T.setTop (mkF m pc Ls (.ref a :: st))) := by
  obtain ⟨⟨hx, hby, -⟩, -, locs, -, Y⟩ := X
  exact OG.pre (fun _ q => XS.ifnonnullYes Y.here hx rfl (pc0 := pc) rfl (hb hby hd) rfl hp.1 hp.2 q) g
theorem OG.ifnullNo (X : OS B mL own nm rt Z n0 p l e R s m args below meth c T h cells slots) {a : Addr} {o : Int} (hd : decode B pc = .ok (.ifnull o, 3)) (g : OG p e below s n0 rc rs Q (T.setTop (mkF m (pc + 3) Ls st))) : OG p e below s n0 rc rs Q (T.setTop (mkF m pc Ls (.ref a :: st))) := by
  obtain ⟨⟨hx, hby, -⟩, -, locs, -, Y⟩ := X
  exact OG.pre (fun _ q => XS.ifnullNo Y.here hx rfl (hb hby hd) rfl q) g
theorem OG.ifnonnullNo (X : OS B mL own nm rt Z n0 p l e R s m args below meth c T h cells slots)  {o : Int} (hd : decode B pc = .ok (.ifnonnull o, 3)) (g : OG p e below s n0 rc rs Q (T.setTop (mkF m (pc + 3) Ls st))) : OG p e below s n0 rc rs Q (T.setTop (mkF m pc Ls (.null :: st))) := by
  obtain ⟨⟨hx, hby, -⟩, -, locs, -, Y⟩ := X
  exact OG.pre (fun _ q => XS.ifnonnullNo Y.here hx rfl (hb hby hd) rfl q) g
theorem OG.acmp_eq_t (X : OS B mL own nm rt Z n0 p l e R s m args below meth c T h cells slots) {x y : Addr} {o : Int} {pc' : Nat} (hd : decode B pc = .ok (.if_acmp .eq o, 3)) (hp : 0 ≤ (pc : Int) + o ∧ ((pc : Int) + o).toNat = pc') (hq : x = y) (g : OG p e below s n0 rc rs Q (T.setTop (mkF m pc' Ls st))) : OG p e below s n0 rc rs Q (T.setTop (mkF m pc Ls (.ref y :: .ref x :: st))) := by
  obtain ⟨⟨hx, hby, -⟩, -, locs, -, Y⟩ := X
  exact OG.pre (fun _ q => RoadKit.acmp Y hx rfl rfl rfl (pc0 := pc) (pc' := pc') (same := true) rfl (hb hby hd) rfl (decide_eq_true (congrArg Value.ref hq)) hp.1 (by simp [acV, hp.2]) q) g
theorem OG.acmp_eq_f (X : OS B mL own nm rt Z n0 p l e R s m args below meth c T h cells slots) {x y : Addr} {o : Int} {pc' : Nat} (hd : decode B pc = .ok (.if_acmp .eq o, 3)) (hp : 0 ≤ (pc : Int) + o ∧ ((pc : Int) + o).toNat = pc') (hq : ¬ x = y) (g : OG p e below s n0 rc rs Q (T.setTop (mkF m (pc + 3) Ls st))) : OG p e below s n0 rc rs Q (T.setTop (mkF m pc Ls (.ref y :: .ref x :: st))) := by
  obtain ⟨⟨hx, hby, -⟩, -, locs, -, Y⟩ := X
  exact OG.pre (fun _ q => RoadKit.acmp Y hx rfl rfl rfl (pc0 := pc) (pc' := (pc + 3)) (same := false) rfl (hb hby hd) rfl (decide_eq_false fun q => hq (Value.ref.inj q)) hp.1 (by simp [acV]) q) g
theorem OG.acmp_ne_f (X : OS B mL own nm rt Z n0 p l e R s m args below meth c T h cells slots) {x y : Addr} {o : Int} {pc' : Nat} (hd : decode B pc = .ok (.if_acmp .ne o, 3)) (hp : 0 ≤ (pc : Int) + o ∧ ((pc : Int) + o).toNat = pc') (hq : x = y) (g : OG p e below s n0 rc rs Q (T.setTop (mkF m (pc + 3) Ls st))) : OG p e below s n0 rc rs Q (T.setTop (mkF m pc Ls (.ref y :: .ref x :: st))) := by
  obtain ⟨⟨hx, hby, -⟩, -, locs, -, Y⟩ := X
  exact OG.pre (fun _ q => RoadKit.acmp Y hx rfl rfl rfl (pc0 := pc) (pc' := (pc + 3)) (same := true) rfl (hb hby hd) rfl (decide_eq_true (congrArg Value.ref hq)) hp.1 (by simp [acV]) q) g
theorem OG.acmp_ne_t (X : OS B mL own nm rt Z n0 p l e R s m args below meth c T h cells slots) {x y : Addr} {o : Int} {pc' : Nat} (hd : decode B pc = .ok (.if_acmp .ne o, 3)) (hp : 0 ≤ (pc : Int) + o ∧ ((pc : Int) + o).toNat = pc') (hq : ¬ x = y) (g : OG p e below s n0 rc rs Q (T.setTop (mkF m pc' Ls st))) : OG p e below s n0 rc rs Q (T.setTop (mkF m pc Ls (.ref y :: .ref x :: st))) := by
  obtain ⟨⟨hx, hby, -⟩, -, locs, -, Y⟩ := X
  exact OG.pre (fun _ q => RoadKit.acmp Y hx rfl rfl rfl (pc0 := pc) (pc' := pc') (same := false) rfl (hb hby hd) rfl (decide_eq_false fun q => hq (Value.ref.inj q)) hp.1 (by simp [acV, hp.2]) q) g
theorem OG.acmp_eq (X : OS B mL own nm rt Z n0 p l e R s m args below meth c T h cells slots) {x y : Addr} {o : Int} {pc' : Nat} (hd : decode B pc = .ok (.if_acmp .eq o, 3)) (hp : 0 ≤ (pc : Int) + o ∧ ((pc : Int) + o).toNat = pc') (g1 : x = y → OG p e below s n0 rc rs Q (T.setTop (mkF m pc' Ls st))) (g2 : ¬ x = y → OG p e below s n0 rc rs Q (T.setTop (mkF m (pc + 3) Ls st))) : OG p e below s n0 rc rs Q (T.setTop (mkF m pc Ls (.ref y :: .ref x :: st))) :=
  if hq : x = y then OG.acmp_eq_t X hd hp hq (g1 hq) else OG.acmp_eq_f X hd hp hq (g2 hq)
theorem OG.acmp_ne (X : OS B mL own nm rt Z n0 p l e R s m args below meth c T h cells slots) {x y : Addr} {o : Int} {pc' : Nat} (hd : decode B pc = .ok (.if_acmp .ne o, 3)) (hp : 0 ≤ (pc : Int) + o ∧ ((pc : Int) + o).toNat = pc') (g1 : x = y → OG p e below s n0 rc rs Q (T.setTop (mkF m (pc + 3) Ls st))) (g2 : ¬ x = y → OG p e below s n0 rc rs Q (T.setTop (mkF m pc' Ls st))) : OG p e below s n0 rc rs Q (T.setTop (mkF m pc Ls (.ref y :: .ref x :: st))) :=
  if hq : x = y then OG.acmp_ne_f X hd hp hq (g1 hq) else OG.acmp_ne_t X hd hp hq (g2 hq)
theorem OG.retI {z : Int32} (X : OS B mL own nm (some .int) Z n0 p l e R s m args below meth c T h cells slots) (hd : decode B pc = .ok (.ireturn, 1))  (hc : cells ≤ rc) (hs : slots ≤ rs) (hQ : Q (some (.int z)) h) : OG p e below s n0 rc rs Q (T.setTop (mkF m pc Ls (.int z :: st))) := by
  obtain ⟨⟨hx, hby, -, -, -, hrt, hlk, -⟩, eT, locs, N, Y⟩ := X
  obtain ⟨fs, hr, hrun, hended, hW, hsame⟩ := Y.leave (v := (some (.int z))) (fun q => by first | rfl | (rw [hrt] at q; cases q)) hlk
  refine ⟨_, _, ?_, hrun, hended, _, _, rfl, ⟨?_, N⟩, ⟨_, rfl⟩, hW, hsame.mono hc hs⟩
  · exact Jvm.RoadKit.retI Y hx hrt (hb hby hd) hr
  · show Q _ T.heap
    rw [eT]; exact hQ
theorem OG.retN {z : Int32} {t : FieldType} (X : OS B mL own nm (some t) Z n0 p l e R s m args below meth c T h cells slots) (hd : decode B pc = .ok (.ireturn, 1)) (ht : t = .boolean ∨ t = .byte ∨ t = .char ∨ t = .short) (hc : cells ≤ rc) (hs : slots ≤ rs) (hQ : Q (some (.int (nar t z))) h) : OG p e below s n0 rc rs Q (T.setTop (mkF m pc Ls (.int z :: st))) := by
  obtain ⟨⟨hx, hby, -, -, -, hrt, hlk, -⟩, eT, locs, N, Y⟩ := X
  obtain ⟨fs, hr, hrun, hended, hW, hsame⟩ := Y.leave (v := (some (.int (nar t z)))) (fun q => by first | rfl | (rw [hrt] at q; cases q)) hlk
  refine ⟨_, _, ?_, hrun, hended, _, _, rfl, ⟨?_, N⟩, ⟨_, rfl⟩, hW, hsame.mono hc hs⟩
  · exact Jvm.RoadKit.retN Y hx (t := t) hrt ht (hb hby hd) hr
  · show Q _ T.heap
    rw [eT]; exact hQ
theorem OG.retJ {z : Int64} (X : OS B mL own nm (some .long) Z n0 p l e R s m args below meth c T h cells slots) (hd : decode B pc = .ok (.lreturn, 1))  (hc : cells ≤ rc) (hs : slots ≤ rs) (hQ : Q (some (.long z)) h) : OG p e below s n0 rc rs Q (T.setTop (mkF m pc Ls (.long z :: st))) := by
  obtain ⟨⟨hx, hby, -, -, -, hrt, hlk, -⟩, eT, locs, N, Y⟩ := X
  obtain ⟨fs, hr, hrun, hended, hW, hsame⟩ := Y.leave (v := (some (.long z))) (fun q => by first | rfl | (rw [hrt] at q; cases q)) hlk
  refine ⟨_, _, ?_, hrun, hended, _, _, rfl, ⟨?_, N⟩, ⟨_, rfl⟩, hW, hsame.mono hc hs⟩
  · exact Jvm.RoadKit.retOut (t := .long) Y hx hrt rfl (Or.inr (Or.inl ⟨rfl, rfl, _, rfl⟩)) (hb hby hd) hr
  · show Q _ T.heap
    rw [eT]; exact hQ
theorem OG.retA {w : Value} {t : FieldType} (X : OS B mL own nm (some t) Z n0 p l e R s m args below meth c T h cells slots) (hd : decode B pc = .ok (.areturn, 1)) (ht : t.isReference = true) (hw : w.isRef = true) (hc : cells ≤ rc) (hs : slots ≤ rs) (hQ : Q (some w) h) : OG p e below s n0 rc rs Q (T.setTop (mkF m pc Ls (w :: st))) := by
  obtain ⟨⟨hx, hby, -, -, -, hrt, hlk, -⟩, eT, locs, N, Y⟩ := X
  obtain ⟨fs, hr, hrun, hended, hW, hsame⟩ := Y.leave (v := (some w)) (fun q => by first | rfl | (rw [hrt] at q; cases q)) hlk
  refine ⟨_, _, ?_, hrun, hended, _, _, rfl, ⟨?_, N⟩, ⟨_, rfl⟩, hW, hsame.mono hc hs⟩
  · exact Jvm.RoadKit.retOut (t := t) Y hx hrt (by rcases ref_cases hw with rfl | ⟨z, rfl⟩ <;> cases t <;> rfl) (Or.inr (Or.inr (Or.inr (Or.inr ⟨rfl, ht, hw⟩)))) (hb hby hd) hr
  · show Q _ T.heap
    rw [eT]; exact hQ
theorem OG.retV  (X : OS B mL own nm none Z n0 p l e R s m args below meth c T h cells slots) (hd : decode B pc = .ok (.return_, 1))  (hc : cells ≤ rc) (hs : slots ≤ rs) (hQ : Q none h) : OG p e below s n0 rc rs Q (T.setTop (mkF m pc Ls [])) := by
  obtain ⟨⟨hx, hby, -, -, -, hrt, hlk, -⟩, eT, locs, N, Y⟩ := X
  obtain ⟨fs, hr, hrun, hended, hW, hsame⟩ := Y.leave (v := none) (fun q => by first | rfl | (rw [hrt] at q; cases q)) hlk
  refine ⟨_, _, ?_, hrun, hended, _, _, rfl, ⟨?_, N⟩, ⟨_, rfl⟩, hW, hsame.mono hc hs⟩
  · exact Y.returnOut hx hrt (hb hby hd) hr
  · show Q _ T.heap
    rw [eT]; exact hQ
theorem OG.ldcInt (X : OS B mL own nm rt Z n0 p l e R s m args below meth c T h cells slots) {index : Nat} {v : Int32} (w : (Cond.constant own index v).before a0 Z = true) (hd : decode B pc = .ok (.ldc index, 2)) (g : OG p e below s n0 rc rs Q (T.setTop (mkF m (pc + 2) Ls (.int v :: st)))) : OG p e below s n0 rc rs Q (T.setTop (mkF m pc Ls st)) := by
  obtain ⟨⟨hx, hby, -, hown, -, -, -, hZ⟩, -, locs, -, Y⟩ := X
  exact OG.pre (fun _ k => Y.ldcInt hx hown (mvT hZ w) (g := mkF m pc Ls st) rfl (hb hby hd) _ k) g
theorem OG.ldcwInt (X : OS B mL own nm rt Z n0 p l e R s m args below meth c T h cells slots) {index : Nat} {v : Int32} (w : (Cond.constant own index v).before a0 Z = true) (hd : decode B pc = .ok (.ldc_w index, 3)) (g : OG p e below s n0 rc rs Q (T.setTop (mkF m (pc + 3) Ls (.int v :: st)))) : OG p e below s n0 rc rs Q (T.setTop (mkF m pc Ls st)) := by
  obtain ⟨⟨hx, hby, -, hown, -, -, -, hZ⟩, -, locs, -, Y⟩ := X
  exact OG.pre (fun _ k => Y.ldcwInt hx hown (mvT hZ w) (g := mkF m pc Ls st) rfl (hb hby hd) _ k) g
theorem OG.ldc2Long (X : OS B mL own nm rt Z n0 p l e R s m args below meth c T h cells slots) {index : Nat} {v : Int64} (w : (Cond.constantLong own index v).before a0 Z = true) (hd : decode B pc = .ok (.ldc2_w index, 3)) (g : OG p e below s n0 rc rs Q (T.setTop (mkF m (pc + 3) Ls (.long v :: st)))) : OG p e below s n0 rc rs Q (T.setTop (mkF m pc Ls st)) := by
  obtain ⟨⟨hx, hby, -, hown, -, -, -, hZ⟩, -, locs, -, Y⟩ := X
  exact OG.pre (fun _ k => Y.ldc2Long hx hown (mvT hZ w) (g := mkF m pc Ls st) rfl (hb hby hd) _ k) g
theorem OG.getF (X : OS B mL own nm rt Z n0 p l e R s m args below meth c T h cells slots) {R0 O n d host : String} {index : Nat} (w : (Cond.fieldLink own index R0 n d).before a0 Z = true ∨ (Cond.fieldLinkNest own index R0 n d host).before a0 Z = true) (via : Via Z R0 O n d) {a : Addr} {v : Value} (F : Fld Z h a O n d v) (hd : decode B pc = .ok (.getfield index, 3)) (g : ∀ T', OS B mL own nm rt Z n0 p l e R s m args below meth c T' h cells slots → OG p e below s n0 rc rs Q (T'.setTop (mkF m (pc + 3) Ls (v :: st)))) : OG p e below s n0 rc rs Q (T.setTop (mkF m pc Ls (.ref a :: st))) := by
  obtain ⟨h0, eT, locs, N, Y⟩ := X
  have h0' := h0
  obtain ⟨hx, hby, -, hown, -, -, -, hZ⟩ := h0'
  obtain ⟨T', Y', e', stp⟩ := RoadKit.getF Y hx hZ hown w via eT F (g := mkF m pc Ls (.ref a :: st)) rfl rfl (hb hby hd)
  exact OG.pre stp (g T' ⟨h0, e', locs, N, Y'⟩)
theorem OG.getS (X : OS B mL own nm rt Z n0 p l e R s m args below meth c T h cells slots) {R0 O n d host : String} {index : Nat} (w : (Cond.fieldLink own index R0 n d).before a0 Z = true ∨ (Cond.fieldLinkNest own index R0 n d host).before a0 Z = true) (via : Via Z R0 O n d) {v : Value} (F : Sta Z h O n d v) (hd : decode B pc = .ok (.getstatic index, 3)) (g : ∀ T', OS B mL own nm rt Z n0 p l e R s m args below meth c T' h cells slots → OG p e below s n0 rc rs Q (T'.setTop (mkF m (pc + 3) Ls (v :: st)))) : OG p e below s n0 rc rs Q (T.setTop (mkF m pc Ls st)) := by
  obtain ⟨h0, eT, locs, N, Y⟩ := X
  have h0' := h0
  obtain ⟨hx, hby, -, hown, -, -, -, hZ⟩ := h0'
  obtain ⟨T', Y', e', stp⟩ := RoadKit.getS2 Y hx hZ hown w via eT F (g := mkF m pc Ls st) rfl (hb hby hd)
  exact OG.pre stp (g T' ⟨h0, e', locs, N, Y'⟩)
theorem OG.putF (X : OS B mL own nm rt Z n0 p l e R s m args below meth c T h cells slots) {R0 O n d host C : String} {index kk : Nat} {ty : FieldType} (w : (Cond.fieldLink own index R0 n d).before a0 Z = true ∨ (Cond.fieldLinkNest own index R0 n d host).before a0 Z = true) (via : Via Z R0 O n d) {a : Addr} {v old : Value} (F : Fld Z h a O n d old) (E : Exa Z h a C) (L : (Cond.lays C O n d).before a0 Z = true ∨ ((Cond.laysFinal C O n d).before a0 Z = true ∧ own = O ∧ nm = "<init>")) (wi : (Cond.instantiable C kk).before a0 Z = true) (hty : parseFieldDescriptor d = some ty) (hn : narrow ty v = v) (hf : fits ty v = true) (hd : decode B pc = .ok (.putfield index, 3)) (ge : n0 ≤ a) (g : ∀ T' h', OS B mL own nm rt Z n0 p l e R s m args below meth c T' h' cells slots → Wr h h' a (slotOf Z O n d) v → OG p e below s n0 rc rs Q (T'.setTop (mkF m (pc + 3) Ls st))) : OG p e below s n0 rc rs Q (T.setTop (mkF m pc Ls (v :: .ref a :: st))) := by
  obtain ⟨h0, eT, locs, N, Y⟩ := X
  have h0' := h0
  obtain ⟨hx, hby, -, hown, hnm, -, -, hZ⟩ := h0'
  obtain ⟨T', h', Y', e', W, stp⟩ := RoadKit.putF Y hx hZ hown w via eT F E (L.imp id fun q => ⟨q.1, q.2.1, hnm.trans q.2.2⟩) wi hty hn hf (g := mkF m pc Ls (v :: .ref a :: st)) rfl rfl (hb hby hd)
  exact OG.pre stp (g T' h' ⟨h0, e', _, Fr.snoc Y' N ge, Y'⟩ W)
theorem OG.putFN (X : OS B mL own nm rt Z n0 p l e R s m args below meth c T h cells slots) {R0 O n d C : String} {index kk : Nat} {ty : FieldType} (w : (Cond.fieldLink own index R0 n d).before a0 Z = true) (via : Via Z R0 O n d) {a : Addr} {v v' old : Value} (F : Fld Z h a O n d old) (E : Exa Z h a C) (L : (Cond.lays C O n d).before a0 Z = true ∨ ((Cond.laysFinal C O n d).before a0 Z = true ∧ own = O ∧ nm = "<init>")) (wi : (Cond.instantiable C kk).before a0 Z = true) (hty : parseFieldDescriptor d = some ty) (hn : narrow ty v = v') (hf : fits ty v' = true) (hd : decode B pc = .ok (.putfield index, 3)) (ge : n0 ≤ a) (g : ∀ T' h', OS B mL own nm rt Z n0 p l e R s m args below meth c T' h' cells slots → Wr h h' a (slotOf Z O n d) v' → OG p e below s n0 rc rs Q (T'.setTop (mkF m (pc + 3) Ls st))) : OG p e below s n0 rc rs Q (T.setTop (mkF m pc Ls (v :: .ref a :: st))) := by
  obtain ⟨h0, eT, locs, N, Y⟩ := X
  have h0' := h0
  obtain ⟨hx, hby, -, hown, hnm, -, -, hZ⟩ := h0'
  obtain ⟨T', h', Y', e', W, stp⟩ := RoadKit.putFN Y hx hZ hown w via eT F E (L.imp id fun q => ⟨q.1, q.2.1, hnm.trans q.2.2⟩) wi hty hn hf (g := mkF m pc Ls (v :: .ref a :: st)) rfl rfl (hb hby hd)
  exact OG.pre stp (g T' h' ⟨h0, e', _, Fr.snoc Y' N ge, Y'⟩ W)
theorem OG.newO (X : OS B mL own nm rt Z n0 p l e R s m args below meth c T h cells slots) {C : String} {index n : Nat} (w : (Cond.classLink own index C).before a0 Z = true) (wi : (Cond.instantiable C n).before a0 Z = true) (wz : (Cond.initialized C).before a0 Z = true) (hd : decode B pc = .ok (.new index, 3)) (hc : cells + 1 ≤ R.cells) (hl : slots + n ≤ R.slots) (g : ∀ T' h' a, a = h.size → OS B mL own nm rt Z n0 p l e R s m args below meth c T' h' (cells + 1) (slots + n) → Ext h h' → Exa Z h' a C → (∀ {O nm d : String} {ty : FieldType}, Laid Z a0 C O nm d → parseFieldDescriptor d = some ty → Fld Z h' a O nm d (defaultValue ty)) → OG p e below s n0 rc rs Q (T'.setTop (mkF m (pc + 3) Ls (.ref a :: st)))) : OG p e below s n0 rc rs Q (T.setTop (mkF m pc Ls st)) := by
  obtain ⟨h0, eT, locs, N, Y⟩ := X
  have h0' := h0
  obtain ⟨hx, hby, -, hown, hnm, -, -, hZ⟩ := h0'
  obtain ⟨T', h', Y', e', E', A', D', -, stp⟩ := RoadKit.newO Y hx hZ hown w wi wz eT (g := mkF m pc Ls st) rfl (hb hby hd) hc hl
  exact OG.pre stp (g T' h' _ rfl ⟨h0, e', _, N, Y'⟩ E' A' D')
theorem OG.newP (X : OS B mL own nm rt Z n0 p l e R s m args below meth c T h cells slots) {aty : ArrayType} (w : (Cond.arrayClass (newarray.typeOf aty)).before a0 Z = true) {n : Int32} (hd : decode B pc = .ok (.newarray aty, 2)) (hn : ¬ n < 0) {cap : Nat} (hcap : n.toNatClampNeg ≤ cap) (hb8 : cap * 8 ≤ 536870912) (hc : cells + 1 ≤ R.cells) (hl : slots + cap ≤ R.slots) (g : ∀ T' h' a, a = h.size → OS B mL own nm rt Z n0 p l e R s m args below meth c T' h' (cells + 1) (slots + cap) → Ext h h' → (∃ cA, Arr Z h' a (newA cA (newarray.typeOf aty) n) (newarray.typeOf aty)) → OG p e below s n0 rc rs Q (T'.setTop (mkF m (pc + 2) Ls (.ref a :: st)))) : OG p e below s n0 rc rs Q (T.setTop (mkF m pc Ls (.int n :: st))) := by
  obtain ⟨h0, eT, locs, N, Y⟩ := X
  have h0' := h0
  obtain ⟨hx, hby, -, hown, hnm, -, -, hZ⟩ := h0'
  obtain ⟨T', h', cA, Y', e', E', A', stp⟩ := RoadKit.newP Y hx hZ w eT (g := mkF m pc Ls (.int n :: st)) rfl (hb hby hd) rfl hn hcap hb8 hc hl
  exact OG.pre stp (g T' h' _ rfl ⟨h0, e', _, N, Y'⟩ E' ⟨cA, A'⟩)
/-- an array of ints, bytes, chars, booleans: its length and what it holds -/
def Ia (Z : State) (h : Heap) (a : Addr) (ty : FieldType) (n : Nat) (f : Nat → Int32) : Prop := ∃ cl : Cell, Arr Z h a cl ty ∧ cl.slots.size = n ∧ n < 2 ^ 31 ∧ ∀ i, i < n → cl.slots[i]? = some (.int (f i))
variable {a b : Addr} {h' : Heap} {ty : FieldType} {n : Nat} {f : Nat → Int32} {sl : Nat} {v : Value} {wl : List Addr}
theorem Ia.lt (F : Ia Z h a ty n f) : a < h.size := by obtain ⟨c, A, -⟩ := F; exact A.lt
theorem Ia.ext (F : Ia Z h a ty n f) (E : Ext h h') : Ia Z h' a ty n f := by obtain ⟨c, A, r⟩ := F; exact ⟨c, A.ext E, r⟩
theorem Ia.other (F : Ia Z h b ty n f) (W : Wr h h' a sl v) (q : b ≠ a) : Ia Z h' b ty n f := by obtain ⟨c, A, r⟩ := F; exact ⟨c, A.other W q, r⟩
theorem Ia.keep (F : Ia Z h a ty n f) (K : Keep h h' wl) (q : a ∉ wl) : Ia Z h' a ty n f := by obtain ⟨c, A, r⟩ := F; exact ⟨c, ⟨K.2.1 a c A.1 q, A.2⟩, r⟩
theorem Ia.congr {f' : Nat → Int32} (F : Ia Z h a ty n f) (q : ∀ i, i < n → f i = f' i) : Ia Z h a ty n f' := by obtain ⟨c, A, r1, r2, r3⟩ := F; exact ⟨c, A, r1, r2, fun i hi => by rw [← q i hi]; exact r3 i hi⟩
theorem Ia.len (F : Ia Z h a ty n f) : n < 2 ^ 31 := by obtain ⟨c, A, r1, r2, r3⟩ := F; exact r2
theorem Ia.new {cA : ClassId} {k : Int32} (A : Arr Z h a (newA cA ty k) ty) (q : ¬ k < 0) (hk : k.toNatClampNeg = n) (hty : defaultValue ty = .int 0) : Ia Z h a ty n (fun _ => 0) := by
  subst hk
  refine ⟨_, A, sz_new _ _ _, ?_, fun i hi => ?_⟩
  · have := k.toInt_lt; simp only [Int32.toNatClampNeg]; omega
  · simp [newA, hi, hty]
theorem Ia.set {j : Nat} {x : Int32} (F : Ia Z h a ty n f) (W : Wr h h' a j (.int x)) : Ia Z h' a ty n (fun i => if i = j then x else f i) := by
  obtain ⟨c, A, r1, r2, r3⟩ := F
  refine ⟨_, A.same W, by rw [sz_set]; exact r1, r2, fun i hi => ?_⟩
  by_cases q : i = j
  · subst q; simp [Cell.setSlot, r1, hi]
  · have := r3 i hi
    simp only [Cell.setSlot, if_neg q]
    rw [Array.getElem?_setIfInBounds_ne (fun u => q u.symm)]; exact this
theorem idx32 {j : Int32} {n : Nat} (h1 : 0 ≤ j.toInt) (h2 : j.toInt < n) : ¬ (j < 0 ∨ n ≤ j.toNatClampNeg) := by
  have e0 : (0 : Int32).toInt = 0 := rfl
  simp only [Int32.lt_iff_toInt_lt, Int32.toNatClampNeg, e0]; omega
theorem len32 {n : Nat} (h : n < 2 ^ 31) : n.toInt32.toInt = n := Int32.toInt_ofNat_small h
theorem OG.iaload (X : OS B mL own nm rt Z n0 p l e R s m args below meth c T h cells slots) {a : Addr} {n : Nat} {f : Nat → Int32} (F : Ia Z h a .int n f) {j : Int32} (hj : 0 ≤ j.toInt ∧ j.toInt < n) (hd : decode B pc = .ok (.iaload, 1)) (g : OG p e below s n0 rc rs Q (T.setTop (mkF m (pc + 1) Ls (.int (f j.toInt.toNat) :: st)))) : OG p e below s n0 rc rs Q (T.setTop (mkF m pc Ls (.int j :: .ref a :: st))) := by
  obtain ⟨⟨hx, hby, -, -, -, -, -, hZ⟩, eT, locs, -, Y⟩ := X
  obtain ⟨cl, A, r1, r2, r3⟩ := F
  have hi := idx32 hj.1 hj.2
  have hq : j.toInt.toNat < n := by omega
  exact OG.pre (fun _ k => Y.iaload hx (j := j) (v := .int (f j.toInt.toNat)) (by rw [eT]; exact A.1) (State.isArrayOf_alike hZ.alike A.2.1) A.2.2 (by rw [r1]; exact hi) (r3 _ hq) (g := mkF m pc Ls (.int j :: .ref a :: st)) rfl rfl (hb hby hd) _ k) g
theorem OG.baload (X : OS B mL own nm rt Z n0 p l e R s m args below meth c T h cells slots) {a : Addr} {n : Nat} {f : Nat → Int32} (F : Ia Z h a .byte n f) {j : Int32} (hj : 0 ≤ j.toInt ∧ j.toInt < n) (hd : decode B pc = .ok (.baload, 1)) (g : OG p e below s n0 rc rs Q (T.setTop (mkF m (pc + 1) Ls (.int (f j.toInt.toNat) :: st)))) : OG p e below s n0 rc rs Q (T.setTop (mkF m pc Ls (.int j :: .ref a :: st))) := by
  obtain ⟨⟨hx, hby, -, -, -, -, -, hZ⟩, eT, locs, -, Y⟩ := X
  obtain ⟨cl, A, r1, r2, r3⟩ := F
  have hi := idx32 hj.1 hj.2
  have hq : j.toInt.toNat < n := by omega
  exact OG.pre (fun _ k => Y.baloadBytes hx (j := j) (v := .int (f j.toInt.toNat)) (by rw [eT]; exact A.1) (State.isArrayOf_alike hZ.alike A.2.1) A.2.2 (by rw [r1]; exact hi) (r3 _ hq) (g := mkF m pc Ls (.int j :: .ref a :: st)) rfl rfl (hb hby hd) _ k) g
theorem OG.zaload (X : OS B mL own nm rt Z n0 p l e R s m args below meth c T h cells slots) {a : Addr} {n : Nat} {f : Nat → Int32} (F : Ia Z h a .boolean n f) {j : Int32} (hj : 0 ≤ j.toInt ∧ j.toInt < n) (hd : decode B pc = .ok (.baload, 1)) (g : OG p e below s n0 rc rs Q (T.setTop (mkF m (pc + 1) Ls (.int (f j.toInt.toNat) :: st)))) : OG p e below s n0 rc rs Q (T.setTop (mkF m pc Ls (.int j :: .ref a :: st))) := by
  obtain ⟨⟨hx, hby, -, -, -, -, -, hZ⟩, eT, locs, -, Y⟩ := X
  obtain ⟨cl, A, r1, r2, r3⟩ := F
  have hi := idx32 hj.1 hj.2
  have hq : j.toInt.toNat < n := by omega
  exact OG.pre (fun _ k => Y.baloadBooleans hx (j := j) (v := .int (f j.toInt.toNat)) (by rw [eT]; exact A.1) (State.isArrayOf_alike hZ.alike A.2.1) A.2.2 (by rw [r1]; exact hi) (r3 _ hq) (g := mkF m pc Ls (.int j :: .ref a :: st)) rfl rfl (hb hby hd) _ k) g
theorem OG.caload (X : OS B mL own nm rt Z n0 p l e R s m args below meth c T h cells slots) {a : Addr} {n : Nat} {f : Nat → Int32} (F : Ia Z h a .char n f) {j : Int32} (hj : 0 ≤ j.toInt ∧ j.toInt < n) (hd : decode B pc = .ok (.caload, 1)) (g : OG p e below s n0 rc rs Q (T.setTop (mkF m (pc + 1) Ls (.int (f j.toInt.toNat) :: st)))) : OG p e below s n0 rc rs Q (T.setTop (mkF m pc Ls (.int j :: .ref a :: st))) := by
  obtain ⟨⟨hx, hby, -, -, -, -, -, hZ⟩, eT, locs, -, Y⟩ := X
  obtain ⟨cl, A, r1, r2, r3⟩ := F
  have hi := idx32 hj.1 hj.2
  have hq : j.toInt.toNat < n := by omega
  exact OG.pre (fun _ k => Y.caload hx (j := j) (v := .int (f j.toInt.toNat)) (by rw [eT]; exact A.1) (State.isArrayOf_alike hZ.alike A.2.1) A.2.2 (by rw [r1]; exact hi) (r3 _ hq) (g := mkF m pc Ls (.int j :: .ref a :: st)) rfl rfl (hb hby hd) _ k) g
theorem OG.saload (X : OS B mL own nm rt Z n0 p l e R s m args below meth c T h cells slots) {a : Addr} {n : Nat} {f : Nat → Int32} (F : Ia Z h a .short n f) {j : Int32} (hj : 0 ≤ j.toInt ∧ j.toInt < n) (hd : decode B pc = .ok (.saload, 1)) (g : OG p e below s n0 rc rs Q (T.setTop (mkF m (pc + 1) Ls (.int (f j.toInt.toNat) :: st)))) : OG p e below s n0 rc rs Q (T.setTop (mkF m pc Ls (.int j :: .ref a :: st))) := by
  obtain ⟨⟨hx, hby, -, -, -, -, -, hZ⟩, eT, locs, -, Y⟩ := X
  obtain ⟨cl, A, r1, r2, r3⟩ := F
  have hi := idx32 hj.1 hj.2
  have hq : j.toInt.toNat < n := by omega
  exact OG.pre (fun _ k => Y.saload hx (j := j) (v := .int (f j.toInt.toNat)) (by rw [eT]; exact A.1) (State.isArrayOf_alike hZ.alike A.2.1) A.2.2 (by rw [r1]; exact hi) (r3 _ hq) (g := mkF m pc Ls (.int j :: .ref a :: st)) rfl rfl (hb hby hd) _ k) g
theorem OG.arraylength (X : OS B mL own nm rt Z n0 p l e R s m args below meth c T h cells slots) {a : Addr} {ty : FieldType} {n : Nat} {f : Nat → Int32} (F : Ia Z h a ty n f) {z : Int32} (hz : z.toInt = n) (hd : decode B pc = .ok (.arraylength, 1)) (g : OG p e below s n0 rc rs Q (T.setTop (mkF m (pc + 1) Ls (.int z :: st)))) : OG p e below s n0 rc rs Q (T.setTop (mkF m pc Ls (.ref a :: st))) := by
  obtain ⟨⟨hx, hby, -, -, -, -, -, hZ⟩, eT, locs, -, Y⟩ := X
  obtain ⟨cl, A, r1, r2, r3⟩ := F
  have ez : cl.slots.size.toInt32 = z := by rw [← Int32.toInt_inj, r1, len32 r2, hz]
  exact OG.pre (fun _ k => Y.arraylength hx (by rw [eT]; exact A.1) (State.isArrayOf_alike hZ.alike A.2.1) (g := mkF m pc Ls (.ref a :: st)) rfl rfl (hb hby hd) _ (by rw [ez]; exact k)) g
theorem OG.iastore (X : OS B mL own nm rt Z n0 p l e R s m args below meth c T h cells slots) {a : Addr} {n : Nat} {f : Nat → Int32} (F : Ia Z h a .int n f) {j x : Int32} (hj : 0 ≤ j.toInt ∧ j.toInt < n) (hd : decode B pc = .ok (.iastore, 1)) (ge : n0 ≤ a) (g : ∀ T' h', OS B mL own nm rt Z n0 p l e R s m args below meth c T' h' cells slots → Wr h h' a j.toInt.toNat (.int (x)) → Ia Z h' a .int n (fun i => if i = j.toInt.toNat then x else f i) → OG p e below s n0 rc rs Q (T'.setTop (mkF m (pc + 1) Ls st))) : OG p e below s n0 rc rs Q (T.setTop (mkF m pc Ls (.int x :: .int j :: .ref a :: st))) := by
  obtain ⟨h0, eT, locs, N, Y⟩ := X
  have h0' := h0
  obtain ⟨hx, hby, -, hown, hnm, -, -, hZ⟩ := h0'
  have F' := F
  obtain ⟨cl, A, r1, r2, r3⟩ := F'
  obtain ⟨T', h', Y', e', W, stp⟩ := RoadKit.stI Y hx hZ eT A (j := j) (by rw [r1]; exact idx32 hj.1 hj.2) (g := mkF m pc Ls (.int x :: .int j :: .ref a :: st)) rfl rfl (hb hby hd)
  exact OG.pre stp (g T' h' ⟨h0, e', _, Fr.snoc Y' N ge, Y'⟩ W (F.set W))
theorem OG.bastore (X : OS B mL own nm rt Z n0 p l e R s m args below meth c T h cells slots) {a : Addr} {n : Nat} {f : Nat → Int32} (F : Ia Z h a .byte n f) {j x : Int32} (hj : 0 ≤ j.toInt ∧ j.toInt < n) (hd : decode B pc = .ok (.bastore, 1)) (ge : n0 ≤ a) (g : ∀ T' h', OS B mL own nm rt Z n0 p l e R s m args below meth c T' h' cells slots → Wr h h' a j.toInt.toNat (.int (x.toInt8.toInt32)) → Ia Z h' a .byte n (fun i => if i = j.toInt.toNat then x.toInt8.toInt32 else f i) → OG p e below s n0 rc rs Q (T'.setTop (mkF m (pc + 1) Ls st))) : OG p e below s n0 rc rs Q (T.setTop (mkF m pc Ls (.int x :: .int j :: .ref a :: st))) := by
  obtain ⟨h0, eT, locs, N, Y⟩ := X
  have h0' := h0
  obtain ⟨hx, hby, -, hown, hnm, -, -, hZ⟩ := h0'
  have F' := F
  obtain ⟨cl, A, r1, r2, r3⟩ := F'
  obtain ⟨T', h', Y', e', W, stp⟩ := RoadKit.stB Y hx hZ eT A (j := j) (by rw [r1]; exact idx32 hj.1 hj.2) (g := mkF m pc Ls (.int x :: .int j :: .ref a :: st)) rfl rfl (hb hby hd)
  exact OG.pre stp (g T' h' ⟨h0, e', _, Fr.snoc Y' N ge, Y'⟩ W (F.set W))
theorem OG.castore (X : OS B mL own nm rt Z n0 p l e R s m args below meth c T h cells slots) {a : Addr} {n : Nat} {f : Nat → Int32} (F : Ia Z h a .char n f) {j x : Int32} (hj : 0 ≤ j.toInt ∧ j.toInt < n) (hd : decode B pc = .ok (.castore, 1)) (ge : n0 ≤ a) (g : ∀ T' h', OS B mL own nm rt Z n0 p l e R s m args below meth c T' h' cells slots → Wr h h' a j.toInt.toNat (.int (x.toUInt32.toUInt16.toUInt32.toInt32)) → Ia Z h' a .char n (fun i => if i = j.toInt.toNat then x.toUInt32.toUInt16.toUInt32.toInt32 else f i) → OG p e below s n0 rc rs Q (T'.setTop (mkF m (pc + 1) Ls st))) : OG p e below s n0 rc rs Q (T.setTop (mkF m pc Ls (.int x :: .int j :: .ref a :: st))) := by
  obtain ⟨h0, eT, locs, N, Y⟩ := X
  have h0' := h0
  obtain ⟨hx, hby, -, hown, hnm, -, -, hZ⟩ := h0'
  have F' := F
  obtain ⟨cl, A, r1, r2, r3⟩ := F'
  obtain ⟨T', h', Y', e', W, stp⟩ := RoadKit.stC Y hx hZ eT A (j := j) (by rw [r1]; exact idx32 hj.1 hj.2) (g := mkF m pc Ls (.int x :: .int j :: .ref a :: st)) rfl rfl (hb hby hd)
  exact OG.pre stp (g T' h' ⟨h0, e', _, Fr.snoc Y' N ge, Y'⟩ W (F.set W))
theorem OG.zastore (X : OS B mL own nm rt Z n0 p l e R s m args below meth c T h cells slots) {a : Addr} {n : Nat} {f : Nat → Int32} (F : Ia Z h a .boolean n f) {j x : Int32} (hj : 0 ≤ j.toInt ∧ j.toInt < n) (hd : decode B pc = .ok (.bastore, 1)) (ge : n0 ≤ a) (g : ∀ T' h', OS B mL own nm rt Z n0 p l e R s m args below meth c T' h' cells slots → Wr h h' a j.toInt.toNat (.int (x &&& 1)) → Ia Z h' a .boolean n (fun i => if i = j.toInt.toNat then x &&& 1 else f i) → OG p e below s n0 rc rs Q (T'.setTop (mkF m (pc + 1) Ls st))) : OG p e below s n0 rc rs Q (T.setTop (mkF m pc Ls (.int x :: .int j :: .ref a :: st))) := by
  obtain ⟨h0, eT, locs, N, Y⟩ := X
  have h0' := h0
  obtain ⟨hx, hby, -, hown, hnm, -, -, hZ⟩ := h0'
  have F' := F
  obtain ⟨cl, A, r1, r2, r3⟩ := F'
  obtain ⟨T', h', Y', e', W, stp⟩ := RoadKit.stZ Y hx hZ eT A (j := j) (by rw [r1]; exact idx32 hj.1 hj.2) (g := mkF m pc Ls (.int x :: .int j :: .ref a :: st)) rfl rfl (hb hby hd)
  exact OG.pre stp (g T' h' ⟨h0, e', _, Fr.snoc Y' N ge, Y'⟩ W (F.set W))
theorem OG.callS (X : OS B mL own nm rt Z n0 p l e R s m args below meth c T h cells slots) {y : MethodName} {index : Nat} {Bc : ByteArray} {mc : Nat} {rtc : Option FieldType} {rmc : Room} {asc : Array Value} {Qc : Option Value → Heap → Prop} (w1 : (Cond.methodLink own index y).before a0 Z = true) (w2 : (Cond.static y).before a0 Z = true) (hy : y.cls ≠ "java/lang/invoke/MethodHandle" ∧ y.cls ≠ "java/lang/invoke/VarHandle") (hM : OM l y Bc mc rtc rmc [] Z asc h n0 Qc) (wc : (Cond.code y Bc mc rtc).before a0 Z = true) (wz : (Cond.initialized y.cls).before a0 Z = true) (hfr : rmc.frames + 1 ≤ R.frames) {W : Nat} (hlo : W + (mc + 11) + rmc.locals ≤ R.locals) (hsz : Ls.size = mL) {argsL : List Value} {ps : List FieldType} {rr : Option FieldType} (hpd : parseMethodDescriptor y.desc = some ⟨ps, rr⟩) (hlen : argsL.length = ps.length) (hd : decode B pc = .ok (.invokestatic index, 3)) (has : argsL.toArray = asc) (hW : (st.map fun v => v.category).sum ≤ W) (hcl : cells + rmc.cells ≤ R.cells) (hsl : slots + rmc.slots ≤ R.slots) (g : ∀ v T' h', OS B mL own nm rt Z n0 p l e R s m args below meth c T' h' (cells + rmc.cells) (slots + rmc.slots) → Qc v h' → OG p e below s n0 rc rs Q (T'.setTop (mkF m (pc + 3) Ls (v.toList ++ st)))) : OG p e below s n0 rc rs Q (T.setTop (mkF m pc Ls (argsL.reverse ++ st))) := by
  obtain ⟨h0, eT, locs, N, Y⟩ := X
  have h0' := h0
  obtain ⟨hx, hby, hml, hown, hnm, -, -, hZ⟩ := h0'
  obtain ⟨_, _, ⟨T', L', k', n'⟩, -, Y', ⟨Lc, hQ, q2, q3, q4⟩, stp⟩ := Jvm.LawKit.callS Y hx (y := y) hown (mvT hZ w1) (mvT hZ w2) (mvT hZ wz) (mvT hZ wc) hy (backOf (W := W) (Z := Z) (h := h) (rm := rmc) (as' := asc) (Q := fun v hh L => Qc v hh ∧ Fr n0 L) hM hZ wc wz hfr hlo) (g := mkF m pc Ls (argsL.reverse ++ st)) rfl (by rw [hml]; exact hsz) (argsL := argsL) (rest := st) (lenOf hpd hlen) rfl (by show 2 * 0 + _ ≤ _; omega) (hb hby hd) (fun _ _ => ⟨has, eT, hcl, hsl⟩)
  dsimp only [Pt.U, Pt.locs, Pt.cells, Pt.slots] at Y' q2 q3 q4 stp hQ
  subst q2 q3 q4
  exact OG.pre stp (g _ T' _ ⟨h0, rfl, _, Fr.app N hQ.2, Y'⟩ hQ.1)

theorem OG.callC (X : OS B mL own nm rt Z n0 p l e R s m args below meth c T h cells slots) {y : MethodName} {index : Nat} {Bc : ByteArray} {mc : Nat} {rmc : Room} {asc : Array Value} {Qc : Option Value → Heap → Prop} (hy1 : y.name = "<init>") (w1 : (Cond.methodLink own index y).before a0 Z = true) (w2 : (Cond.instanceMethod y).before a0 Z = true) (hy : y.cls ≠ "java/lang/invoke/MethodHandle" ∧ y.cls ≠ "java/lang/invoke/VarHandle") {a : Addr} (hM : OM l y Bc mc none rmc [] Z asc h n0 Qc) (wc : (Cond.code y Bc mc none).before a0 Z = true) (wz : (Cond.initialized y.cls).before a0 Z = true) (hfr : rmc.frames + 1 ≤ R.frames) {W : Nat} (hlo : W + (mc + 11) + rmc.locals ≤ R.locals) (hsz : Ls.size = mL) {argsL : List Value} {ps : List FieldType} {rr : Option FieldType} (hpd : parseMethodDescriptor y.desc = some ⟨ps, rr⟩) (hlen : argsL.length = ps.length) (hd : decode B pc = .ok (.invokespecial index, 3)) (has : (Value.ref a :: argsL).toArray = asc) (hW : (st.map fun v => v.category).sum ≤ W) (hcl : cells + rmc.cells ≤ R.cells) (hsl : slots + rmc.slots ≤ R.slots) (g : ∀ v T' h', OS B mL own nm rt Z n0 p l e R s m args below meth c T' h' (cells + rmc.cells) (slots + rmc.slots) → Qc v h' → OG p e below s n0 rc rs Q (T'.setTop (mkF m (pc + 3) Ls (v.toList ++ st)))) : OG p e below s n0 rc rs Q (T.setTop (mkF m pc Ls (argsL.reverse ++ .ref a :: st))) := by
  obtain ⟨h0, eT, locs, N, Y⟩ := X
  have h0' := h0
  obtain ⟨hx, hby, hml, hown, hnm, -, -, hZ⟩ := h0'
  obtain ⟨_, _, ⟨T', L', k', n'⟩, -, Y', ⟨Lc, hQ, q2, q3, q4⟩, stp⟩ := Y.specialBack hx (y := y) hy1 hown (mvT hZ w1) (mvT hZ w2) (mvT hZ wc) hy (backOf (W := W) (Z := Z) (h := h) (rm := rmc) (as' := asc) (Q := fun v hh L => Qc v hh ∧ Fr n0 L) hM hZ wc wz hfr hlo) (g := mkF m pc Ls (argsL.reverse ++ .ref a :: st)) rfl (by rw [hml]; exact hsz) (Steps.refl _) (a := a) (argsL := argsL) (rest := st) (lenOf hpd hlen) rfl (by show 2 * 0 + _ ≤ _; omega) (hb hby hd) (fun _ _ => ⟨has, eT, hcl, hsl⟩)
  dsimp only [Pt.U, Pt.locs, Pt.cells, Pt.slots] at Y' q2 q3 q4 stp hQ
  subst q2 q3 q4
  exact OG.pre (fun _ k => stp.trans k) (g _ T' _ ⟨h0, rfl, _, Fr.app N hQ.2, Y'⟩ hQ.1)

theorem OG.callV (X : OS B mL own nm rt Z n0 p l e R s m args below meth c T h cells slots) {y : MethodName} {index : Nat} {Bc : ByteArray} {mc : Nat} {rtc : Option FieldType} {rmc : Room} {asc : Array Value} {Qc : Option Value → Heap → Prop} {z : MethodName} {C : String} (w1 : (Cond.methodLink own index y).before a0 Z = true) (w2 : (Cond.declares y).before a0 Z = true) (w3 : NotFace s y) (w4 : (Cond.selects C y z).before a0 Z = true) (w5 : (Cond.instanceMethod z).before a0 Z = true) (hy : y.cls ≠ "java/lang/invoke/MethodHandle" ∧ y.cls ≠ "java/lang/invoke/VarHandle") {a : Addr} (E : Exa Z h a C) (hM : OM l z Bc mc rtc rmc [] Z asc h n0 Qc) (wc : (Cond.code z Bc mc rtc).before a0 Z = true) (wz : (Cond.initialized z.cls).before a0 Z = true) (hfr : rmc.frames + 1 ≤ R.frames) {W : Nat} (hlo : W + (mc + 11) + rmc.locals ≤ R.locals) (hsz : Ls.size = mL) {argsL : List Value} {ps : List FieldType} {rr : Option FieldType} (hpd : parseMethodDescriptor y.desc = some ⟨ps, rr⟩) (hlen : argsL.length = ps.length) (hd : decode B pc = .ok (.invokevirtual index, 3)) (has : (Value.ref a :: argsL).toArray = asc) (hW : (st.map fun v => v.category).sum ≤ W) (hcl : cells + rmc.cells ≤ R.cells) (hsl : slots + rmc.slots ≤ R.slots) (g : ∀ v T' h', OS B mL own nm rt Z n0 p l e R s m args below meth c T' h' (cells + rmc.cells) (slots + rmc.slots) → Qc v h' → OG p e below s n0 rc rs Q (T'.setTop (mkF m (pc + 3) Ls (v.toList ++ st)))) : OG p e below s n0 rc rs Q (T.setTop (mkF m pc Ls (argsL.reverse ++ .ref a :: st))) := by
  obtain ⟨h0, eT, locs, N, Y⟩ := X
  have h0' := h0
  obtain ⟨hx, hby, hml, hown, hnm, -, -, hZ⟩ := h0'
  obtain ⟨cq, kq, qa, qb, qc⟩ := isOf hZ eT E
  obtain ⟨_, _, ⟨T', L', k', n'⟩, -, Y', ⟨Lc, hQ, q2, q3, q4⟩, stp⟩ := Y.virtualBack hx (y := y) (z := z) hown (mvT hZ w1) (mvT hZ w2) w3 (mvT hZ w4) (mvT hZ w5) hy (backOf (W := W) (Z := Z) (h := h) (rm := rmc) (as' := asc) (Q := fun v hh L => Qc v hh ∧ Fr n0 L) hM hZ wc wz hfr hlo) qa qc (g := mkF m pc Ls (argsL.reverse ++ .ref a :: st)) rfl (by rw [hml]; exact hsz) (Steps.refl _) (argsL := argsL) (rest := st) (lenOf hpd hlen) rfl (by show 2 * 0 + _ ≤ _; omega) (hb hby hd) (fun _ _ => ⟨has, eT, hcl, hsl⟩)
  dsimp only [Pt.U, Pt.locs, Pt.cells, Pt.slots] at Y' q2 q3 q4 stp hQ
  subst q2 q3 q4
  exact OG.pre (fun _ k => stp.trans k) (g _ T' _ ⟨h0, rfl, _, Fr.app N hQ.2, Y'⟩ hQ.1)

theorem OG.initO (X : OS B mL own nm rt Z n0 p l e R s m args below meth c T h cells slots) {index : Nat} (w1 : (Cond.methodLink own index Lib.objectInit).before a0 Z = true) (w2 : (Cond.instanceMethod Lib.objectInit).before a0 Z = true) (w3 : (Cond.code Lib.objectInit ⟨#[0xb1]⟩ 1 none).before a0 Z = true) {a : Addr} (hd : decode B pc = .ok (.invokespecial index, 3)) (hsz : Ls.size = mL) (hf : 1 ≤ R.frames) {W : Nat} (hW : (st.map fun v => v.category).sum ≤ W) (hlo : W + 12 ≤ R.locals) (g : ∀ T', OS B mL own nm rt Z n0 p l e R s m args below meth c T' h cells slots → OG p e below s n0 rc rs Q (T'.setTop (mkF m (pc + 3) Ls st))) : OG p e below s n0 rc rs Q (T.setTop (mkF m pc Ls (.ref a :: st))) := by
  obtain ⟨h0, eT, locs, N, Y⟩ := X
  have h0' := h0
  obtain ⟨hx, hby, hml, hown, hnm, -, -, hZ⟩ := h0'
  obtain ⟨T', Y', e', stp⟩ := RoadKit.initO Y hx hZ hown w1 w2 w3 eT (g := mkF m pc Ls (.ref a :: st)) rfl (by rw [hml]; exact hsz) rfl (hb hby hd) hf (W := W) (by show 2 * 0 + _ ≤ _; omega) hlo
  exact OG.pre stp (g T' ⟨h0, e', _, N, Y'⟩)
theorem Ia.toArv (F : Ia Z h a .int n f) {z : Int32} (hz : z.toInt = n) : ∃ k, Arv Z h a k .int z ((List.range n).map fun i => .int (f i)) (.int 0) := by
  obtain ⟨c, A, r1, r2, r3⟩ := F
  refine ⟨c.cls, c, A, rfl, ?_, ?_, ?_, ?_⟩
  · rw [r1]; simp only [Int32.toNatClampNeg]; omega
  · rw [Int32.lt_iff_toInt_lt]; have : (0 : Int32).toInt = 0 := rfl
    omega
  · intro i hi; rw [r1] at hi; rw [r3 i hi]; simp [List.getD_eq_getElem?_getD, hi]
  · intro i hi; rw [r1] at hi; simp [List.getD_eq_getElem?_getD, hi, fits]
theorem Ia.ofArv {k : ClassId} {z : Int32} {vs : List Value} (W : Arv Z h a k .int z vs (.int 0)) (hz : z.toInt = n) (H : ∀ i, i < n → vs.getD i (.int 0) = .int (f i)) : Ia Z h a .int n f := by
  obtain ⟨c, A, -, S, -, Hs, -⟩ := W
  have hs : c.slots.size = n := by rw [S]; simp only [Int32.toNatClampNeg]; omega
  exact ⟨c, A, hs, by have := z.toInt_lt; omega, fun i hi => by rw [Hs i (by rw [hs]; exact hi), H i hi]⟩
theorem OG.arraycopyI (X : OS B mL own nm rt Z n0 p l e R s m args below meth c T h cells slots) {index : Nat} (w1 : (Cond.methodLink own index Jvm.Stand.acN).before a0 Z = true) (w2 : (Cond.native Jvm.Stand.acN).before a0 Z = true) (w3 : (Cond.static Jvm.Stand.acN).before a0 Z = true) (w4 : (Cond.initialized "java/lang/System").before a0 Z = true) {a b : Addr} {n n' : Nat} {f f' : Nat → Int32} (F : Ia Z h a .int n f) (G : Ia Z h b .int n' f') {nn : Int32} {q : Nat} (hq : nn.toInt = q) (h1 : q ≤ n) (h2 : q ≤ n') (ge : n0 ≤ b) (hd : decode B pc = .ok (.invokestatic index, 3)) (hsz : Ls.size = mL) (hf : 1 ≤ R.frames) {W : Nat} (hW : (st.map fun v => v.category).sum ≤ W) (hlo : W + 18 ≤ R.locals) (g : ∀ T' h', OS B mL own nm rt Z n0 p l e R s m args below meth c T' h' cells slots → Keep h h' [b] → Ia Z h' b .int n' (fun i => if i < q then f i else f' i) → OG p e below s n0 rc rs Q (T'.setTop (mkF m (pc + 3) Ls st))) : OG p e below s n0 rc rs Q (T.setTop (mkF m pc Ls (.int nn :: .int 0 :: .ref b :: .int 0 :: .ref a :: st))) := by
  obtain ⟨h0, eT, locs, N, Y⟩ := X
  have h0' := h0
  obtain ⟨hx, hby, hml, hown, hnm, -, -, hZ⟩ := h0'
  have la := F.len
  have lb := G.len
  obtain ⟨ka, VA⟩ := F.toArv (z := n.toInt32) (len32 la)
  obtain ⟨kb, VB⟩ := G.toArv (z := n'.toInt32) (len32 lb)
  have e0 : (0 : Int32).toNatClampNeg = 0 := rfl
  have eq : nn.toNatClampNeg = q := by simp only [Int32.toNatClampNeg]; omega
  have ea : n.toInt32.toNatClampNeg = n := by simp only [Int32.toNatClampNeg, len32 la]; omega
  have eb : n'.toInt32.toNatClampNeg = n' := by simp only [Int32.toNatClampNeg, len32 lb]; omega
  have hnn : ¬ nn < 0 := by rw [Int32.lt_iff_toInt_lt]; have : (0 : Int32).toInt = 0 := rfl; omega
  obtain ⟨T', h', L, Y', e', N', K, V, stp⟩ := cpA Y hx hZ hown w1 w2 w3 w4 eT VA VB (Or.inl ⟨rfl, rfl⟩) (sp := 0) (dp := 0) (nn := nn) (by decide) (by decide) hnn (by rw [e0, eq, ea]; omega) (by rw [e0, eq, eb]; omega) rfl (by rw [e0, eq]; simp; omega) N ge (g := mkF m pc Ls (.int nn :: .int 0 :: .ref b :: .int 0 :: .ref a :: st)) rfl (by rw [hml]; exact hsz) rfl (hb hby hd) hf (W := W) (by show 2 * 0 + _ ≤ _; omega) (by exact hlo)
  refine OG.pre stp (g T' h' ⟨h0, e', L, N', Y'⟩ K (Ia.ofArv V (len32 lb) (fun i hi => ?_)))
  rw [e0, eq]
  by_cases hi2 : i < q
  · simp [List.getD_eq_getElem?_getD, List.getElem?_append, hi2, Nat.lt_of_lt_of_le hi2 h1]
  · simp [List.getD_eq_getElem?_getD, List.getElem?_append, hi2, hi, show q + (i - q) = i by omega]
end OwnKit
end Jvm.RoadKit

namespace Jvm.Pilot.@@N@@
open Jvm Jvm.ClassFile Sem Op Lib Jvm.Free Jvm.Stand Jvm.LawKit Jvm.RoadKit Bundle Jvm.Pilot.@@N@@.Jvm.D
theorem own_n1 {z : Int32} {k : Nat} (h : z.toInt = k) : ¬ z < 0 := by
  rw [Int32.lt_iff_toInt_lt]; have : (0 : Int32).toInt = 0 := rfl
  omega
theorem own_pred {z : Int32} {k : Nat} (h : z.toInt = (k + 1 : Nat)) : (z - 1).toInt = k := by
  have h1 := c_isub z 1
  have h2 := rng32 (z - 1)
  have h3 : (1 : Int32).toInt = 1 := rfl
  have h4 := rng32 z
  omega
theorem own_suc {z : Int32} {k : Nat} (h : z.toInt = k) (hk : k < 1000) : (z + 1).toInt = (k + 1 : Nat) := by
  have h1 := c_iadd z 1
  have h2 := rng32 (z + 1)
  have h3 : (1 : Int32).toInt = 1 := rfl
  omega
theorem own_dbl {z : Int32} {k : Nat} (h : z.toInt = k) (hk : k < 1000) : (z * 2).toInt = (2 * k : Nat) := by
  have h1 := c_imul z 2
  have h2 := rng32 (z * 2)
  have h3 : (2 : Int32).toInt = 2 := rfl
  rw [h3] at h1
  omega
theorem d8_0 : decode jdk_29_method_69_code 0 = .ok (.iload_n 0, 1) := by decide +kernel
theorem d8_1 : decode jdk_29_method_69_code 1 = .ok (.iload_n 1, 1) := by decide +kernel
theorem d8_2 : decode jdk_29_method_69_code 2 = .ok (.if_icmp .gt 7, 3) := by decide +kernel
theorem d8_9 : decode jdk_29_method_69_code 9 = .ok (.iload_n 1, 1) := by decide +kernel
theorem d8_10 : decode jdk_29_method_69_code 10 = .ok (.ireturn, 1) := by decide +kernel
theorem d8_5 : decode jdk_29_method_69_code 5 = .ok (.iload_n 0, 1) := by decide +kernel
theorem d8_6 : decode jdk_29_method_69_code 6 = .ok (.goto 4, 3) := by decide +kernel
def F8 (x : Int32) (y : Int32) : Int32 := (if y < x then y else x)
theorem ef_8 (m : MethodId) (x : Int32) (y : Int32) : entryFrame m #[(.int x), (.int y)] 2 = mkF m 0 #[.val (.int x), .val (.int y)] [] := by first | (simp [entryFrame, mkF, argsToLocals, Value.category]; done) | rfl
def Q8 (Z : State) (x : Int32) (y : Int32)  (h0 : Heap) : Option Value → Heap → Prop := fun v h => v = some (.int (F8 x y)) ∧ h = h0
abbrev room8 : Room := { frames := 0, cells := 0, slots := 0, locals := 0 }
set_option maxRecDepth 65536 in
set_option maxHeartbeats 40000000 in
theorem rm8 (l : Launch) (Z : State) (a0 : Array Value) (hw : ∀ d ∈ tables_1, d.before a0 Z = true) (ws : List Jvm.Cond) (x : Int32) (y : Int32)  (h0 : Heap) (n0 : Nat)  :
    OM l (⟨"java/lang/Math", "min", "(II)I"⟩ : MethodName) jdk_29_method_69_code 2 (some .int) room8 ws Z #[(.int x), (.int y)] h0 n0 (Q8 Z x y  h0) := by
  refine OM.of (Jvm.Free.JP.mathPlain rfl (by decide +kernel)) (fun m => ef_8 m x y) ?_
  intro p e s m below meth c T X
  refine OG.iloadN X d8_0 rfl ?_
  refine OG.iloadN X d8_1 rfl ?_
  refine OG.icmp_gt X d8_2 (pc' := 9) (by decide) ?_ ?_
  · intro c2
    refine OG.iloadN X d8_9 rfl ?_
    exact OG.retI X d8_10 (by decide) (by decide) ⟨by rw [F8, if_pos c2]; try rfl, rfl⟩
  · intro c2
    refine OG.iloadN X d8_5 rfl ?_
    refine OG.goto X d8_6 (pc' := 10) (by decide) ?_
    exact OG.retI X d8_10 (by decide) (by decide) ⟨by rw [F8, if_neg c2]; try rfl, rfl⟩
theorem own_min {u w : Int32} {k q : Nat} (h1 : u.toInt = k) (h2 : w.toInt = q) : (F8 u w).toInt = (min k q : Nat) := by
  unfold F8; split <;> rename_i hq <;> rw [Int32.lt_iff_toInt_lt] at hq <;> omega
theorem pn_7 : plainName "java/util/Arrays" = true := by first | (simp [plainName, overriddenIn]; done) | decide +kernel
theorem own_len {Z : State} {h : Heap} {b : Addr} {y : Int32} {k : Nat} {f : Nat → Int32} (hk : y.toInt = k) (A : Ia Z h b .int y.toInt.toNat f) : Ia Z h b .int k f := by
  have : y.toInt.toNat = k := by omega
  rw [this] at A; exact A
theorem ef_7 (m : MethodId) (a : Addr) (y : Int32) : entryFrame m #[(.ref a), (.int y)] 3 = mkF m 0 #[.val (.ref a), .val (.int y), .unset] [] := by first | (simp [entryFrame, mkF, argsToLocals, Value.category]; done) | rfl
def Q7 (Z : State) (a : Addr) (y : Int32) (N k : Nat) (f : Nat → Int32) (h0 : Heap) (n0 : Nat) : Option Value → Heap → Prop := fun v h => ∃ b : Addr, v = some (.ref b) ∧ n0 ≤ b ∧ h0.size ≤ b ∧ Keep h0 h [] ∧ Ia Z h b .int k (fun i => if i < N then f i else 0)
theorem d7_0 : decode jdk_65_method_123_code 0 = .ok (.iload_n 1, 1) := by decide +kernel
theorem d7_1 : decode jdk_65_method_123_code 1 = .ok (.aload_n 0, 1) := by decide +kernel
theorem d7_2 : decode jdk_65_method_123_code 2 = .ok (.arraylength, 1) := by decide +kernel
theorem d7_3 : decode jdk_65_method_123_code 3 = .ok (.if_icmp .ne 11, 3) := by decide +kernel
theorem d7_14 : decode jdk_65_method_123_code 14 = .ok (.iload_n 1, 1) := by decide +kernel
theorem d7_15 : decode jdk_65_method_123_code 15 = .ok (.newarray .int, 2) := by decide +kernel
theorem d7_17 : decode jdk_65_method_123_code 17 = .ok (.astore_n 2, 1) := by decide +kernel
theorem d7_18 : decode jdk_65_method_123_code 18 = .ok (.aload_n 0, 1) := by decide +kernel
theorem d7_19 : decode jdk_65_method_123_code 19 = .ok (.iconst 0, 1) := by decide +kernel
theorem d7_20 : decode jdk_65_method_123_code 20 = .ok (.aload_n 2, 1) := by decide +kernel
theorem d7_21 : decode jdk_65_method_123_code 21 = .ok (.iconst 0, 1) := by decide +kernel
theorem d7_22 : decode jdk_65_method_123_code 22 = .ok (.aload_n 0, 1) := by decide +kernel
theorem d7_23 : decode jdk_65_method_123_code 23 = .ok (.arraylength, 1) := by decide +kernel
theorem d7_24 : decode jdk_65_method_123_code 24 = .ok (.iload_n 1, 1) := by decide +kernel
theorem d7_25 : decode jdk_65_method_123_code 25 = .ok (.invokestatic 304, 3) := by decide +kernel
theorem pd_0 : parseMethodDescriptor "(II)I" = some ⟨[.int, .int], some .int⟩ := by decide +kernel
theorem d7_28 : decode jdk_65_method_123_code 28 = .ok (.invokestatic 150, 3) := by decide +kernel
theorem d7_31 : decode jdk_65_method_123_code 31 = .ok (.aload_n 2, 1) := by decide +kernel
theorem d7_32 : decode jdk_65_method_123_code 32 = .ok (.areturn, 1) := by decide +kernel
abbrev room7 : Room := { frames := 1, cells := 1, slots := 8, locals := 18 }
set_option maxRecDepth 65536 in
set_option maxHeartbeats 40000000 in
theorem rm7 (l : Launch) (Z : State) (a0 : Array Value) (hw : ∀ d ∈ tables_1, d.before a0 Z = true) (ws : List Jvm.Cond) (a : Addr) (y : Int32) (N k : Nat) (f : Nat → Int32) (h0 : Heap) (n0 : Nat) (Z0 : n0 ≤ h0.size) (A_a : Ia Z h0 a .int N f) (hk : y.toInt = k) (hk8 : k ≤ 8) (hne : k ≠ N) :
    OM l (⟨"java/util/Arrays", "copyOf", "([II)[I"⟩ : MethodName) jdk_65_method_123_code 3 (some (.array .int)) room7 ws Z #[(.ref a), (.int y)] h0 n0 (Q7 Z a y N k f h0 n0) := by
  refine OM.of (plainFor_of_name pn_7) (fun m => ef_7 m a y) ?_
  intro p e s m below meth c T X
  have K0 : Keep h0 h0 [] := Keep.refl _ _
  obtain ⟨z, hN⟩ : ∃ z : Int32, z.toInt = N := ⟨N.toInt32, len32 A_a.len⟩
  refine OG.iloadN X d7_0 rfl ?_
  refine OG.aloadN X d7_1 rfl rfl ?_
  refine OG.arraylength X A_a (z := z) hN d7_2 ?_
  refine OG.icmp_ne_t X d7_3 (pc' := 14) (by decide) (fun q => hne (by rw [q] at hk; omega)) ?_
  refine OG.iloadN X d7_14 rfl ?_
  refine OG.newP X (hw _ (List.mem_of_getElem? (i := 9) rfl)) d7_15 (own_n1 hk) (cap := 8) (by have := hk8; simp only [Int32.toNatClampNeg]; omega) (by decide) (by decide) (by decide) ?_
  rintro T1 h2 b4 gb4 X1 E3 ⟨cAb4, Nb4⟩
  have ne_a_b4 : a ≠ b4 := Nat.ne_of_lt (Nat.lt_of_lt_of_le A_a.lt (Nat.le_of_eq gb4.symm))
  have g_b4 : n0 ≤ b4 := Nat.le_trans Z0 (Nat.le_of_eq gb4.symm)
  have sz_b4 : h0.size ≤ b4 := Nat.le_trans K0.1 (Nat.le_of_eq gb4.symm)
  replace A_a := A_a.ext E3
  replace Z0 := Nat.le_trans Z0 E3.1
  replace K0 := K0.ext E3
  have A_b4 : Ia Z h2 b4 .int (y).toInt.toNat (fun _ => 0) := Ia.new Nb4 (own_n1 hk) rfl rfl
  refine OG.astoreN X1 d7_17 (l' := #[.val (.ref a), .val (.int y), .val (.ref b4)]) rfl rfl ?_
  refine OG.aloadN X1 d7_18 rfl rfl ?_
  refine OG.iconst X1 d7_19 (z := (0 : Int32)) rfl ?_
  refine OG.aloadN X1 d7_20 rfl rfl ?_
  refine OG.iconst X1 d7_21 (z := (0 : Int32)) rfl ?_
  refine OG.aloadN X1 d7_22 rfl rfl ?_
  refine OG.arraylength X1 A_a (z := z) hN d7_23 ?_
  refine OG.iloadN X1 d7_24 rfl ?_
  refine OG.callS X1 (hw _ (List.mem_of_getElem? (i := 38) rfl)) (hw _ (List.mem_of_getElem? (i := 39) rfl)) (by decide) (rm8 l Z a0 hw [] z y h2 n0) (hw _ (List.mem_of_getElem? (i := 41) rfl)) (hw _ (List.mem_of_getElem? (i := 40) rfl)) (by decide) (W := 4) (by decide) rfl (argsL := [(.int z), (.int y)]) pd_0 rfl d7_25 rfl (Nat.le_of_eq rfl) (by decide) (by decide) ?_
  rintro _ T5 h6 X5 ⟨rfl, eh6⟩
  rw [eh6] at X5
  show OG p e below s n0 room7.cells room7.slots (Q7 Z a y N k f h0 n0) (T5.setTop (mkF m 28 #[.val (.ref a), .val (.int y), .val (.ref b4)] [(.int (F8 z y)), (.int (0 : Int32)), (.ref b4), (.int (0 : Int32)), (.ref a)]))
  refine OG.arraycopyI X5 (hw _ (List.mem_of_getElem? (i := 42) rfl)) (hw _ (List.mem_of_getElem? (i := 45) rfl)) (hw _ (List.mem_of_getElem? (i := 43) rfl)) (hw _ (List.mem_of_getElem? (i := 44) rfl)) A_a A_b4 (own_min hN hk) (by omega) (by omega) g_b4 d7_28 rfl (by decide) (W := 0) (by decide) (by decide) ?_
  intro T7 h8 X7 K7 A7
  replace Z0 := Nat.le_trans Z0 K7.1
  replace K0 := K0.trans K7 ((allS (Or.inr sz_b4) all0))
  clear A_b4; have A_b4 := A7
  show OG p e below s n0 room7.cells room7.slots (Q7 Z a y N k f h0 n0) (T7.setTop (mkF m 31 #[.val (.ref a), .val (.int y), .val (.ref b4)] []))
  refine OG.aloadN X7 d7_31 rfl rfl ?_
  exact OG.retA X7 d7_32 rfl rfl (by decide) (by decide) ⟨b4, rfl, g_b4, sz_b4, K0, (own_len hk A_b4).congr (fun i hi => by by_cases q1 : i < N <;> simp [q1, Nat.lt_min, hi])⟩
theorem pn_1 : plainName "com/example/meerkat/meerkat/Numbers" = true := by first | (simp [plainName, overriddenIn]; done) | decide +kernel
theorem ef_1 (m : MethodId) (a : Addr) : entryFrame m #[(.ref a)] 1 = mkF m 0 #[.val (.ref a)] [] := by first | (simp [entryFrame, mkF, argsToLocals, Value.category]; done) | rfl
def Q1 (Z : State) (a : Addr)  (h0 : Heap) (n0 : Nat) : Option Value → Heap → Prop := fun v h => ∃ b : Addr, v = none ∧ n0 ≤ b ∧ h0.size ≤ b ∧ Keep h0 h [a] ∧ Exa Z h a "com/example/meerkat/meerkat/Numbers" ∧ Fld Z h a "com/example/meerkat/meerkat/Numbers" "numbers" "[I" (.ref b) ∧ Fld Z h a "com/example/meerkat/meerkat/Numbers" "size" "I" (.int 0) ∧ Ia Z h b .int 2 (fun _ => 0)
theorem d1_0 : decode prog_20_method_1_code 0 = .ok (.aload_n 0, 1) := by decide +kernel
theorem d1_1 : decode prog_20_method_1_code 1 = .ok (.invokespecial 1, 3) := by decide +kernel
theorem d1_4 : decode prog_20_method_1_code 4 = .ok (.aload_n 0, 1) := by decide +kernel
theorem d1_5 : decode prog_20_method_1_code 5 = .ok (.iconst 2, 1) := by decide +kernel
theorem d1_6 : decode prog_20_method_1_code 6 = .ok (.newarray .int, 2) := by decide +kernel
theorem d1_8 : decode prog_20_method_1_code 8 = .ok (.putfield 7, 3) := by decide +kernel
theorem d1_11 : decode prog_20_method_1_code 11 = .ok (.return_, 1) := by decide +kernel
abbrev room1 : Room := { frames := 1, cells := 1, slots := 2, locals := 12 }
set_option maxRecDepth 65536 in
set_option maxHeartbeats 40000000 in
theorem rm1 (l : Launch) (Z : State) (a0 : Array Value) (hw : ∀ d ∈ tables_1, d.before a0 Z = true) (ws : List Jvm.Cond) (a : Addr)  (h0 : Heap) (n0 : Nat) (Z0 : n0 ≤ h0.size) (E_a : Exa Z h0 a "com/example/meerkat/meerkat/Numbers") (g_a : n0 ≤ a) (F_numbers_a : Fld Z h0 a "com/example/meerkat/meerkat/Numbers" "numbers" "[I" .null) (F_size_a : Fld Z h0 a "com/example/meerkat/meerkat/Numbers" "size" "I" (.int 0)) :
    OM l (⟨"com/example/meerkat/meerkat/Numbers", "<init>", "()V"⟩ : MethodName) prog_20_method_1_code 1 none room1 ws Z #[(.ref a)] h0 n0 (Q1 Z a  h0 n0) := by
  refine OM.of (plainFor_of_name pn_1) (fun m => ef_1 m a) ?_
  intro p e s m below meth c T X
  have K0 : Keep h0 h0 [a] := Keep.refl _ _
  refine OG.aloadN X d1_0 rfl rfl ?_
  refine OG.initO X (hw _ (List.mem_of_getElem? (i := 6) rfl)) (hw _ (List.mem_of_getElem? (i := 7) rfl)) (hw _ (List.mem_of_getElem? (i := 8) rfl)) d1_1 rfl (by decide) (W := 0) (Nat.le_of_eq rfl) (by decide) ?_
  intro T1 X1
  refine OG.aloadN X1 d1_4 rfl rfl ?_
  refine OG.iconst X1 d1_5 (z := (2 : Int32)) rfl ?_
  refine OG.newP X1 (hw _ (List.mem_of_getElem? (i := 9) rfl)) d1_6 (by decide) (cap := 2) (by decide) (by decide) (by decide) (by decide) ?_
  rintro T2 h3 b5 gb5 X2 E4 ⟨cAb5, Nb5⟩
  have ne_a_b5 : a ≠ b5 := Nat.ne_of_lt (Nat.lt_of_lt_of_le E_a.lt (Nat.le_of_eq gb5.symm))
  have g_b5 : n0 ≤ b5 := Nat.le_trans Z0 (Nat.le_of_eq gb5.symm)
  have sz_b5 : h0.size ≤ b5 := Nat.le_trans K0.1 (Nat.le_of_eq gb5.symm)
  replace E_a := E_a.ext E4
  replace Z0 := Nat.le_trans Z0 E4.1
  replace K0 := K0.ext E4
  replace F_numbers_a := F_numbers_a.ext E4
  replace F_size_a := F_size_a.ext E4
  have A_b5 : Ia Z h3 b5 .int 2 (fun _ => 0) := Ia.new Nb5 (by decide) rfl rfl
  refine OG.putF X2 (host := "") (Or.inl (hw _ (List.mem_of_getElem? (i := 10) rfl))) Via.refl F_numbers_a E_a (Or.inl (hw _ (List.mem_of_getElem? (i := 11) rfl))) (hw _ (List.mem_of_getElem? (i := 1) rfl)) (ty := (.array .int)) (by decide) rfl rfl d1_8 g_a ?_
  intro T6 h7 X6 W8
  replace E_a := E_a.wr W8
  replace Z0 := Nat.le_trans Z0 (Keep.of_wr W8).1
  replace K0 := K0.wr W8 (Or.inl (by simp))
  replace F_numbers_a := F_numbers_a.same W8
  replace F_size_a := F_size_a.other W8 (Or.inr (slot_ne (Or.inl (hw _ (List.mem_of_getElem? (i := 18) rfl))) (Or.inl (hw _ (List.mem_of_getElem? (i := 11) rfl))) (by decide) (t := .int) (t' := (.array .int)) (by decide) (by decide)))
  replace A_b5 := A_b5.other W8 (Ne.symm ne_a_b5)
  exact OG.retV X6 d1_11 (by decide) (by decide) ⟨b5, rfl, g_b5, sz_b5, K0, E_a, F_numbers_a, F_size_a, A_b5⟩
theorem own_nat {z : Int32} {k : Nat} (h : z.toInt = k) : z.toInt.toNat = k := by omega
theorem pn_3 : plainName "com/example/meerkat/meerkat/Numbers" = true := by first | (simp [plainName, overriddenIn]; done) | decide +kernel
theorem ef_3 (m : MethodId) (a : Addr) (x : Int32) : entryFrame m #[(.ref a), (.int x)] 2 = mkF m 0 #[.val (.ref a), .val (.int x)] [] := by first | (simp [entryFrame, mkF, argsToLocals, Value.category]; done) | rfl
def Q3 (Z : State) (a : Addr) (x : Int32) (b : Addr) (z : Int32) (k N : Nat) (f : Nat → Int32) (h0 : Heap) (n0 : Nat) : Option Value → Heap → Prop := fun v h => ∃ (b' : Addr) (N' : Nat) (f' : Nat → Int32) (z' : Int32), v = none ∧ n0 ≤ b' ∧ b' ≠ a ∧ Keep h0 h [a, b] ∧ Exa Z h a "com/example/meerkat/meerkat/Numbers" ∧ Fld Z h a "com/example/meerkat/meerkat/Numbers" "numbers" "[I" (.ref b') ∧ Fld Z h a "com/example/meerkat/meerkat/Numbers" "size" "I" (.int z') ∧ z'.toInt = (k + 1 : Nat) ∧ Ia Z h b' .int N' f' ∧ ((k ≠ N ∧ N' = N) ∨ (k = N ∧ N' = 2 * N)) ∧ (∀ i, i < k → f' i = f i) ∧ f' k = x
theorem d3_0 : decode prog_20_method_8_code 0 = .ok (.aload_n 0, 1) := by decide +kernel
theorem d3_1 : decode prog_20_method_8_code 1 = .ok (.getfield 13, 3) := by decide +kernel
theorem d3_4 : decode prog_20_method_8_code 4 = .ok (.aload_n 0, 1) := by decide +kernel
theorem d3_5 : decode prog_20_method_8_code 5 = .ok (.getfield 7, 3) := by decide +kernel
theorem d3_8 : decode prog_20_method_8_code 8 = .ok (.arraylength, 1) := by decide +kernel
theorem d3_9 : decode prog_20_method_8_code 9 = .ok (.if_icmp .ne 20, 3) := by decide +kernel
theorem d3_29 : decode prog_20_method_8_code 29 = .ok (.aload_n 0, 1) := by decide +kernel
theorem d3_30 : decode prog_20_method_8_code 30 = .ok (.getfield 7, 3) := by decide +kernel
theorem d3_33 : decode prog_20_method_8_code 33 = .ok (.aload_n 0, 1) := by decide +kernel
theorem d3_34 : decode prog_20_method_8_code 34 = .ok (.dup, 1) := by decide +kernel
theorem d3_35 : decode prog_20_method_8_code 35 = .ok (.getfield 13, 3) := by decide +kernel
theorem d3_38 : decode prog_20_method_8_code 38 = .ok (.dup_x1, 1) := by decide +kernel
theorem d3_39 : decode prog_20_method_8_code 39 = .ok (.iconst 1, 1) := by decide +kernel
theorem d3_40 : decode prog_20_method_8_code 40 = .ok (.iadd, 1) := by decide +kernel
theorem d3_41 : decode prog_20_method_8_code 41 = .ok (.putfield 13, 3) := by decide +kernel
theorem d3_44 : decode prog_20_method_8_code 44 = .ok (.iload_n 1, 1) := by decide +kernel
theorem d3_45 : decode prog_20_method_8_code 45 = .ok (.iastore, 1) := by decide +kernel
theorem d3_46 : decode prog_20_method_8_code 46 = .ok (.return_, 1) := by decide +kernel
theorem d3_12 : decode prog_20_method_8_code 12 = .ok (.aload_n 0, 1) := by decide +kernel
theorem d3_13 : decode prog_20_method_8_code 13 = .ok (.aload_n 0, 1) := by decide +kernel
theorem d3_14 : decode prog_20_method_8_code 14 = .ok (.getfield 7, 3) := by decide +kernel
theorem d3_17 : decode prog_20_method_8_code 17 = .ok (.aload_n 0, 1) := by decide +kernel
theorem d3_18 : decode prog_20_method_8_code 18 = .ok (.getfield 13, 3) := by decide +kernel
theorem d3_21 : decode prog_20_method_8_code 21 = .ok (.iconst 2, 1) := by decide +kernel
theorem d3_22 : decode prog_20_method_8_code 22 = .ok (.imul, 1) := by decide +kernel
theorem d3_23 : decode prog_20_method_8_code 23 = .ok (.invokestatic 30, 3) := by decide +kernel
theorem pd_1 : parseMethodDescriptor "([II)[I" = some ⟨[(.array .int), .int], some (.array .int)⟩ := by decide +kernel
theorem d3_26 : decode prog_20_method_8_code 26 = .ok (.putfield 7, 3) := by decide +kernel
abbrev room3 : Room := { frames := 2, cells := 1, slots := 8, locals := 33 }
set_option maxRecDepth 65536 in
set_option maxHeartbeats 40000000 in
theorem rm3 (l : Launch) (Z : State) (a0 : Array Value) (hw : ∀ d ∈ tables_1, d.before a0 Z = true) (ws : List Jvm.Cond) (a : Addr) (x : Int32) (b : Addr) (z : Int32) (k N : Nat) (f : Nat → Int32) (h0 : Heap) (n0 : Nat) (Z0 : n0 ≤ h0.size) (E_a : Exa Z h0 a "com/example/meerkat/meerkat/Numbers") (g_a : n0 ≤ a) (F_numbers_a : Fld Z h0 a "com/example/meerkat/meerkat/Numbers" "numbers" "[I" (.ref b)) (F_size_a : Fld Z h0 a "com/example/meerkat/meerkat/Numbers" "size" "I" (.int z)) (A_b : Ia Z h0 b .int N f) (g_b : n0 ≤ b) (n_b : b ≠ a) (hz : z.toInt = k) (h1 : k ≤ N) (h2 : 1 ≤ N) (h3 : N ≤ 4 ∨ (k < N ∧ N ≤ 8)) :
    OM l (⟨"com/example/meerkat/meerkat/Numbers", "add", "(I)V"⟩ : MethodName) prog_20_method_8_code 2 none room3 ws Z #[(.ref a), (.int x)] h0 n0 (Q3 Z a x b z k N f h0 n0) := by
  refine OM.of (plainFor_of_name pn_3) (fun m => ef_3 m a x) ?_
  intro p e s m below meth c T X
  have K0 : Keep h0 h0 [a, b] := Keep.refl _ _
  obtain ⟨zN, hN⟩ : ∃ zN : Int32, zN.toInt = N := ⟨N.toInt32, len32 A_b.len⟩
  refine OG.aloadN X d3_0 rfl rfl ?_
  refine OG.getF X (host := "") (Or.inl (hw _ (List.mem_of_getElem? (i := 17) rfl))) Via.refl F_size_a d3_1 ?_
  intro T1 X1
  refine OG.aloadN X1 d3_4 rfl rfl ?_
  refine OG.getF X1 (host := "") (Or.inl (hw _ (List.mem_of_getElem? (i := 10) rfl))) Via.refl F_numbers_a d3_5 ?_
  intro T2 X2
  refine OG.arraylength X2 A_b (z := zN) hN d3_8 ?_
  refine OG.icmp_ne X2 d3_9 (pc' := 29) (by decide) ?_ ?_
  · intro c9
    have hkN : k ≠ N := fun q => c9 (by rw [← Int32.toInt_inj]; omega)
    refine OG.aloadN X2 d3_29 rfl rfl ?_
    refine OG.getF X2 (host := "") (Or.inl (hw _ (List.mem_of_getElem? (i := 10) rfl))) Via.refl F_numbers_a d3_30 ?_
    intro T3 X3
    refine OG.aloadN X3 d3_33 rfl rfl ?_
    refine OG.dup X3 d3_34 rfl ?_
    refine OG.getF X3 (host := "") (Or.inl (hw _ (List.mem_of_getElem? (i := 17) rfl))) Via.refl F_size_a d3_35 ?_
    intro T4 X4
    refine OG.dupX1 X4 d3_38 rfl rfl ?_
    refine OG.iconst X4 d3_39 (z := (1 : Int32)) rfl ?_
    refine OG.iadd X4 d3_40 ?_
    refine OG.putF X4 (host := "") (Or.inl (hw _ (List.mem_of_getElem? (i := 17) rfl))) Via.refl F_size_a E_a (Or.inl (hw _ (List.mem_of_getElem? (i := 18) rfl))) (hw _ (List.mem_of_getElem? (i := 1) rfl)) (ty := .int) (by decide) rfl rfl d3_41 g_a ?_
    intro T5 h6 X5 W7
    replace E_a := E_a.wr W7
    replace Z0 := Nat.le_trans Z0 (Keep.of_wr W7).1
    replace F_numbers_a := F_numbers_a.other W7 (Or.inr (slot_ne (Or.inl (hw _ (List.mem_of_getElem? (i := 11) rfl))) (Or.inl (hw _ (List.mem_of_getElem? (i := 18) rfl))) (by decide) (t := (.array .int)) (t' := .int) (by decide) (by decide)))
    replace F_size_a := F_size_a.same W7
    replace A_b := A_b.other W7 n_b
    replace K0 := K0.wr W7 (Or.inl (by simp))
    refine OG.iloadN X5 d3_44 rfl ?_
    refine OG.iastore X5 A_b (by constructor <;> omega) d3_45 g_b ?_
    intro T8 h9 X8 W10 A8
    replace E_a := E_a.wr W10
    replace Z0 := Nat.le_trans Z0 (Keep.of_wr W10).1
    replace F_numbers_a := F_numbers_a.other W10 (Or.inl (Ne.symm n_b))
    replace F_size_a := F_size_a.other W10 (Or.inl (Ne.symm n_b))
    replace K0 := K0.wr W10 (Or.inl (by simp))
    replace A_b := A8
    exact OG.retV X8 d3_46 (by decide) (by decide) ⟨b, N, _, _, rfl, g_b, n_b, K0, E_a, F_numbers_a, F_size_a, own_suc hz (by omega), A_b, Or.inl ⟨by omega, rfl⟩, fun i hi => by simp [own_nat hz, Nat.ne_of_lt hi], by simp [own_nat hz]⟩
  · intro c9
    have hkN : k = N := by have := congrArg Int32.toInt c9; omega
    refine OG.aloadN X2 d3_12 rfl rfl ?_
    refine OG.aloadN X2 d3_13 rfl rfl ?_
    refine OG.getF X2 (host := "") (Or.inl (hw _ (List.mem_of_getElem? (i := 10) rfl))) Via.refl F_numbers_a d3_14 ?_
    intro T11 X11
    refine OG.aloadN X11 d3_17 rfl rfl ?_
    refine OG.getF X11 (host := "") (Or.inl (hw _ (List.mem_of_getElem? (i := 17) rfl))) Via.refl F_size_a d3_18 ?_
    intro T12 X12
    refine OG.iconst X12 d3_21 (z := (2 : Int32)) rfl ?_
    refine OG.imul X12 d3_22 ?_
    refine OG.callS X12 (hw _ (List.mem_of_getElem? (i := 34) rfl)) (hw _ (List.mem_of_getElem? (i := 35) rfl)) (by decide) (rm7 l Z a0 hw [] b (z * (2 : Int32))  _ _ _ h0 n0 Z0 A_b (own_dbl hz (by omega)) (by omega) (by omega)) (hw _ (List.mem_of_getElem? (i := 37) rfl)) (hw _ (List.mem_of_getElem? (i := 36) rfl)) (by decide) (W := 1) (by decide) rfl (argsL := [(.ref b), (.int (z * (2 : Int32)))]) pd_1 rfl d3_23 rfl (Nat.le_of_eq rfl) (by decide) (by decide) ?_
    rintro _ T13 h14 X13 ⟨b15, rfl, g_b15, s_b15, K13, B_b15⟩
    have ne_a_b15 : a ≠ b15 := Nat.ne_of_lt (Nat.lt_of_lt_of_le E_a.lt s_b15)
    have ne_b_b15 : b ≠ b15 := Nat.ne_of_lt (Nat.lt_of_lt_of_le A_b.lt s_b15)
    have sz_b15 : h0.size ≤ b15 := Nat.le_trans K0.1 s_b15
    replace E_a := E_a.keep K13
    replace Z0 := Nat.le_trans Z0 K13.1
    replace F_numbers_a := F_numbers_a.keep K13 nin0
    replace F_size_a := F_size_a.keep K13 nin0
    replace A_b := A_b.keep K13 nin0
    replace K0 := K0.trans K13 (all0)
    show OG p e below s n0 room3.cells room3.slots (Q3 Z a x b z k N f h0 n0) (T13.setTop (mkF m 26 #[.val (.ref a), .val (.int x)] [(.ref b15), (.ref a)]))
    refine OG.putF X13 (host := "") (Or.inl (hw _ (List.mem_of_getElem? (i := 10) rfl))) Via.refl F_numbers_a E_a (Or.inl (hw _ (List.mem_of_getElem? (i := 11) rfl))) (hw _ (List.mem_of_getElem? (i := 1) rfl)) (ty := (.array .int)) (by decide) rfl rfl d3_26 g_a ?_
    intro T16 h17 X16 W18
    replace E_a := E_a.wr W18
    replace Z0 := Nat.le_trans Z0 (Keep.of_wr W18).1
    replace F_numbers_a := F_numbers_a.same W18
    replace F_size_a := F_size_a.other W18 (Or.inr (slot_ne (Or.inl (hw _ (List.mem_of_getElem? (i := 18) rfl))) (Or.inl (hw _ (List.mem_of_getElem? (i := 11) rfl))) (by decide) (t := .int) (t' := (.array .int)) (by decide) (by decide)))
    replace A_b := A_b.other W18 n_b
    replace K0 := K0.wr W18 (Or.inl (by simp))
    replace B_b15 := B_b15.other W18 (Ne.symm ne_a_b15)
    refine OG.aloadN X16 d3_29 rfl rfl ?_
    refine OG.getF X16 (host := "") (Or.inl (hw _ (List.mem_of_getElem? (i := 10) rfl))) Via.refl F_numbers_a d3_30 ?_
    intro T19 X19
    refine OG.aloadN X19 d3_33 rfl rfl ?_
    refine OG.dup X19 d3_34 rfl ?_
    refine OG.getF X19 (host := "") (Or.inl (hw _ (List.mem_of_getElem? (i := 17) rfl))) Via.refl F_size_a d3_35 ?_
    intro T20 X20
    refine OG.dupX1 X20 d3_38 rfl rfl ?_
    refine OG.iconst X20 d3_39 (z := (1 : Int32)) rfl ?_
    refine OG.iadd X20 d3_40 ?_
    refine OG.putF X20 (host := "") (Or.inl (hw _ (List.mem_of_getElem? (i := 17) rfl))) Via.refl F_size_a E_a (Or.inl (hw _ (List.mem_of_getElem? (i := 18) rfl))) (hw _ (List.mem_of_getElem? (i := 1) rfl)) (ty := .int) (by decide) rfl rfl d3_41 g_a ?_
    intro T21 h22 X21 W23
    replace E_a := E_a.wr W23
    replace Z0 := Nat.le_trans Z0 (Keep.of_wr W23).1
    replace F_numbers_a := F_numbers_a.other W23 (Or.inr (slot_ne (Or.inl (hw _ (List.mem_of_getElem? (i := 11) rfl))) (Or.inl (hw _ (List.mem_of_getElem? (i := 18) rfl))) (by decide) (t := (.array .int)) (t' := .int) (by decide) (by decide)))
    replace F_size_a := F_size_a.same W23
    replace A_b := A_b.other W23 n_b
    replace K0 := K0.wr W23 (Or.inl (by simp))
    replace B_b15 := B_b15.other W23 (Ne.symm ne_a_b15)
    refine OG.iloadN X21 d3_44 rfl ?_
    refine OG.iastore X21 B_b15 (by constructor <;> omega) d3_45 g_b15 ?_
    intro T24 h25 X24 W26 A24
    replace E_a := E_a.wr W26
    replace Z0 := Nat.le_trans Z0 (Keep.of_wr W26).1
    replace F_numbers_a := F_numbers_a.other W26 (Or.inl ne_a_b15)
    replace F_size_a := F_size_a.other W26 (Or.inl ne_a_b15)
    replace A_b := A_b.other W26 ne_b_b15
    replace K0 := K0.wr W26 (Or.inr sz_b15)
    replace B_b15 := A24
    exact OG.retV X24 d3_46 (by decide) (by decide) ⟨b15, 2 * k, _, _, rfl, g_b15, ne_a_b15.symm, K0, E_a, F_numbers_a, F_size_a, own_suc hz (by omega), B_b15, Or.inr ⟨by omega, by omega⟩, fun i hi => by simp [own_nat hz, Nat.ne_of_lt hi, show i < N by omega], by simp [own_nat hz]⟩
theorem pn_5 : plainName "com/example/meerkat/meerkat/Numbers" = true := by first | (simp [plainName, overriddenIn]; done) | decide +kernel
theorem ef_5 (m : MethodId) (a : Addr) : entryFrame m #[(.ref a)] 1 = mkF m 0 #[.val (.ref a)] [] := by first | (simp [entryFrame, mkF, argsToLocals, Value.category]; done) | rfl
def Q5 (Z : State) (a : Addr) (b : Addr) (z : Int32) (N : Nat) (f : Nat → Int32) (r : Int32) (h0 : Heap) : Option Value → Heap → Prop := fun v h => v = some (.int r) ∧ h = h0
theorem d5_0 : decode prog_20_method_6_code 0 = .ok (.aload_n 0, 1) := by decide +kernel
theorem d5_1 : decode prog_20_method_6_code 1 = .ok (.getfield 7, 3) := by decide +kernel
theorem d5_4 : decode prog_20_method_6_code 4 = .ok (.aload_n 0, 1) := by decide +kernel
theorem d5_5 : decode prog_20_method_6_code 5 = .ok (.getfield 13, 3) := by decide +kernel
theorem d5_8 : decode prog_20_method_6_code 8 = .ok (.iconst 1, 1) := by decide +kernel
theorem d5_9 : decode prog_20_method_6_code 9 = .ok (.isub, 1) := by decide +kernel
theorem d5_10 : decode prog_20_method_6_code 10 = .ok (.iaload, 1) := by decide +kernel
theorem d5_11 : decode prog_20_method_6_code 11 = .ok (.ireturn, 1) := by decide +kernel
abbrev room5 : Room := { frames := 0, cells := 0, slots := 0, locals := 0 }
set_option maxRecDepth 65536 in
set_option maxHeartbeats 40000000 in
theorem rm5 (l : Launch) (Z : State) (a0 : Array Value) (hw : ∀ d ∈ tables_1, d.before a0 Z = true) (ws : List Jvm.Cond) (a : Addr) (b : Addr) (z : Int32) (N : Nat) (f : Nat → Int32) (r : Int32) (h0 : Heap) (n0 : Nat) (F_numbers_a : Fld Z h0 a "com/example/meerkat/meerkat/Numbers" "numbers" "[I" (.ref b)) (F_size_a : Fld Z h0 a "com/example/meerkat/meerkat/Numbers" "size" "I" (.int z)) (A_b : Ia Z h0 b .int N f) (hin : 0 ≤ (z - 1).toInt ∧ (z - 1).toInt < N) (hr : f (z - 1).toInt.toNat = r) :
    OM l (⟨"com/example/meerkat/meerkat/Numbers", "last", "()I"⟩ : MethodName) prog_20_method_6_code 1 (some .int) room5 ws Z #[(.ref a)] h0 n0 (Q5 Z a b z N f r h0) := by
  refine OM.of (plainFor_of_name pn_5) (fun m => ef_5 m a) ?_
  intro p e s m below meth c T X
  refine OG.aloadN X d5_0 rfl rfl ?_
  refine OG.getF X (host := "") (Or.inl (hw _ (List.mem_of_getElem? (i := 10) rfl))) Via.refl F_numbers_a d5_1 ?_
  intro T1 X1
  refine OG.aloadN X1 d5_4 rfl rfl ?_
  refine OG.getF X1 (host := "") (Or.inl (hw _ (List.mem_of_getElem? (i := 17) rfl))) Via.refl F_size_a d5_5 ?_
  intro T2 X2
  refine OG.iconst X2 d5_8 (z := (1 : Int32)) rfl ?_
  refine OG.isub X2 d5_9 ?_
  refine OG.iaload X2 A_b hin d5_10 ?_
  exact OG.retI X2 d5_11 (by decide) (by decide) ⟨by show some (Value.int _) = some (Value.int _); rw [hr], rfl⟩
theorem pn_4 : plainName "com/example/meerkat/meerkat/Numbers" = true := by first | (simp [plainName, overriddenIn]; done) | decide +kernel
theorem ef_4 (m : MethodId) (a : Addr) (x : Int32) : entryFrame m #[(.ref a), (.int x)] 2 = mkF m 0 #[.val (.ref a), .val (.int x)] [] := by first | (simp [entryFrame, mkF, argsToLocals, Value.category]; done) | rfl
def Q4 (Z : State) (a : Addr) (x : Int32) (b : Addr) (z : Int32) (k N : Nat) (f : Nat → Int32) (h0 : Heap) : Option Value → Heap → Prop := fun v h => ∃ f' : Nat → Int32, v = none ∧ Keep h0 h [b] ∧ Ia Z h b .int N f' ∧ (∀ i, i < k → f' i = f i) ∧ f' k = x
theorem d4_0 : decode prog_20_method_7_code 0 = .ok (.aload_n 0, 1) := by decide +kernel
theorem d4_1 : decode prog_20_method_7_code 1 = .ok (.getfield 7, 3) := by decide +kernel
theorem d4_4 : decode prog_20_method_7_code 4 = .ok (.aload_n 0, 1) := by decide +kernel
theorem d4_5 : decode prog_20_method_7_code 5 = .ok (.getfield 13, 3) := by decide +kernel
theorem d4_8 : decode prog_20_method_7_code 8 = .ok (.iconst 1, 1) := by decide +kernel
theorem d4_9 : decode prog_20_method_7_code 9 = .ok (.isub, 1) := by decide +kernel
theorem d4_10 : decode prog_20_method_7_code 10 = .ok (.iload_n 1, 1) := by decide +kernel
theorem d4_11 : decode prog_20_method_7_code 11 = .ok (.iastore, 1) := by decide +kernel
theorem d4_12 : decode prog_20_method_7_code 12 = .ok (.return_, 1) := by decide +kernel
abbrev room4 : Room := { frames := 0, cells := 0, slots := 0, locals := 0 }
set_option maxRecDepth 65536 in
set_option maxHeartbeats 40000000 in
theorem rm4 (l : Launch) (Z : State) (a0 : Array Value) (hw : ∀ d ∈ tables_1, d.before a0 Z = true) (ws : List Jvm.Cond) (a : Addr) (x : Int32) (b : Addr) (z : Int32) (k N : Nat) (f : Nat → Int32) (h0 : Heap) (n0 : Nat) (Z0 : n0 ≤ h0.size) (E_a : Exa Z h0 a "com/example/meerkat/meerkat/Numbers") (g_a : n0 ≤ a) (F_numbers_a : Fld Z h0 a "com/example/meerkat/meerkat/Numbers" "numbers" "[I" (.ref b)) (F_size_a : Fld Z h0 a "com/example/meerkat/meerkat/Numbers" "size" "I" (.int z)) (A_b : Ia Z h0 b .int N f) (g_b : n0 ≤ b) (n_b : b ≠ a) (hz : z.toInt = (k + 1 : Nat)) (h1 : k < N) :
    OM l (⟨"com/example/meerkat/meerkat/Numbers", "replaceLast", "(I)V"⟩ : MethodName) prog_20_method_7_code 2 none room4 ws Z #[(.ref a), (.int x)] h0 n0 (Q4 Z a x b z k N f h0) := by
  refine OM.of (plainFor_of_name pn_4) (fun m => ef_4 m a x) ?_
  intro p e s m below meth c T X
  have K0 : Keep h0 h0 [b] := Keep.refl _ _
  refine OG.aloadN X d4_0 rfl rfl ?_
  refine OG.getF X (host := "") (Or.inl (hw _ (List.mem_of_getElem? (i := 10) rfl))) Via.refl F_numbers_a d4_1 ?_
  intro T1 X1
  refine OG.aloadN X1 d4_4 rfl rfl ?_
  refine OG.getF X1 (host := "") (Or.inl (hw _ (List.mem_of_getElem? (i := 17) rfl))) Via.refl F_size_a d4_5 ?_
  intro T2 X2
  refine OG.iconst X2 d4_8 (z := (1 : Int32)) rfl ?_
  refine OG.isub X2 d4_9 ?_
  refine OG.iloadN X2 d4_10 rfl ?_
  refine OG.iastore X2 A_b (by rw [own_pred hz]; omega) d4_11 g_b ?_
  intro T3 h4 X3 W5 A3
  replace E_a := E_a.wr W5
  replace Z0 := Nat.le_trans Z0 (Keep.of_wr W5).1
  replace F_numbers_a := F_numbers_a.other W5 (Or.inl (Ne.symm n_b))
  replace F_size_a := F_size_a.other W5 (Or.inl (Ne.symm n_b))
  replace K0 := K0.wr W5 (Or.inl (by simp))
  replace A_b := A3
  exact OG.retV X3 d4_12 (by decide) (by decide) ⟨_, rfl, K0, A_b, fun i hi => (by show (if i = (z - 1).toInt.toNat then x else f i) = f i; rw [own_nat (own_pred hz), if_neg (Nat.ne_of_lt hi)]), (by show (if k = (z - 1).toInt.toNat then x else f k) = x; rw [own_nat (own_pred hz), if_pos rfl])⟩
theorem own_kN {z y : Int32} {k N : Nat} (h1 : z.toInt = k) (h2 : y.toInt = N) (h : z = y) : N = k := by
  subst h; omega
theorem pn_6 : plainName "com/example/meerkat/meerkat/Numbers" = true := by first | (simp [plainName, overriddenIn]; done) | decide +kernel
theorem ef_6 (m : MethodId) (a : Addr) : entryFrame m #[(.ref a)] 1 = mkF m 0 #[.val (.ref a)] [] := by first | (simp [entryFrame, mkF, argsToLocals, Value.category]; done) | rfl
def Q6 (Z : State) (a : Addr) (b : Addr) (z : Int32) (k N : Nat) (f : Nat → Int32) (h0 : Heap) (n0 : Nat) : Option Value → Heap → Prop := fun v h => ∃ (t : Addr) (f' : Nat → Int32), v = some (.ref t) ∧ n0 ≤ t ∧ Keep h0 h [] ∧ Ia Z h t .int k f' ∧ ∀ i, i < k → f' i = f i
theorem d6_0 : decode prog_20_method_9_code 0 = .ok (.aload_n 0, 1) := by decide +kernel
theorem d6_1 : decode prog_20_method_9_code 1 = .ok (.getfield 13, 3) := by decide +kernel
theorem d6_4 : decode prog_20_method_9_code 4 = .ok (.aload_n 0, 1) := by decide +kernel
theorem d6_5 : decode prog_20_method_9_code 5 = .ok (.getfield 7, 3) := by decide +kernel
theorem d6_8 : decode prog_20_method_9_code 8 = .ok (.arraylength, 1) := by decide +kernel
theorem d6_9 : decode prog_20_method_9_code 9 = .ok (.if_icmp .ne 10, 3) := by decide +kernel
theorem d6_19 : decode prog_20_method_9_code 19 = .ok (.aload_n 0, 1) := by decide +kernel
theorem d6_20 : decode prog_20_method_9_code 20 = .ok (.getfield 7, 3) := by decide +kernel
theorem d6_23 : decode prog_20_method_9_code 23 = .ok (.aload_n 0, 1) := by decide +kernel
theorem d6_24 : decode prog_20_method_9_code 24 = .ok (.getfield 13, 3) := by decide +kernel
theorem d6_27 : decode prog_20_method_9_code 27 = .ok (.invokestatic 30, 3) := by decide +kernel
theorem d6_30 : decode prog_20_method_9_code 30 = .ok (.areturn, 1) := by decide +kernel
theorem d6_12 : decode prog_20_method_9_code 12 = .ok (.aload_n 0, 1) := by decide +kernel
theorem d6_13 : decode prog_20_method_9_code 13 = .ok (.getfield 7, 3) := by decide +kernel
theorem d6_16 : decode prog_20_method_9_code 16 = .ok (.goto 14, 3) := by decide +kernel
abbrev room6 : Room := { frames := 2, cells := 1, slots := 8, locals := 32 }
set_option maxRecDepth 65536 in
set_option maxHeartbeats 40000000 in
theorem rm6 (l : Launch) (Z : State) (a0 : Array Value) (hw : ∀ d ∈ tables_1, d.before a0 Z = true) (ws : List Jvm.Cond) (a : Addr) (b : Addr) (z : Int32) (k N : Nat) (f : Nat → Int32) (h0 : Heap) (n0 : Nat) (Z0 : n0 ≤ h0.size) (E_a : Exa Z h0 a "com/example/meerkat/meerkat/Numbers") (g_a : n0 ≤ a) (F_numbers_a : Fld Z h0 a "com/example/meerkat/meerkat/Numbers" "numbers" "[I" (.ref b)) (F_size_a : Fld Z h0 a "com/example/meerkat/meerkat/Numbers" "size" "I" (.int z)) (A_b : Ia Z h0 b .int N f) (g_b : n0 ≤ b) (n_b : b ≠ a) (hz : z.toInt = k) (h1 : k ≤ N) (h2 : k ≤ 8) :
    OM l (⟨"com/example/meerkat/meerkat/Numbers", "trimmed", "()[I"⟩ : MethodName) prog_20_method_9_code 1 (some (.array .int)) room6 ws Z #[(.ref a)] h0 n0 (Q6 Z a b z k N f h0 n0) := by
  refine OM.of (plainFor_of_name pn_6) (fun m => ef_6 m a) ?_
  intro p e s m below meth c T X
  have K0 : Keep h0 h0 [] := Keep.refl _ _
  obtain ⟨zN, hN⟩ : ∃ zN : Int32, zN.toInt = N := ⟨N.toInt32, len32 A_b.len⟩
  refine OG.aloadN X d6_0 rfl rfl ?_
  refine OG.getF X (host := "") (Or.inl (hw _ (List.mem_of_getElem? (i := 17) rfl))) Via.refl F_size_a d6_1 ?_
  intro T1 X1
  refine OG.aloadN X1 d6_4 rfl rfl ?_
  refine OG.getF X1 (host := "") (Or.inl (hw _ (List.mem_of_getElem? (i := 10) rfl))) Via.refl F_numbers_a d6_5 ?_
  intro T2 X2
  refine OG.arraylength X2 A_b (z := zN) hN d6_8 ?_
  refine OG.icmp_ne X2 d6_9 (pc' := 19) (by decide) ?_ ?_
  · intro c9
    have hkN : k ≠ N := fun q => c9 (by rw [← Int32.toInt_inj]; omega)
    refine OG.aloadN X2 d6_19 rfl rfl ?_
    refine OG.getF X2 (host := "") (Or.inl (hw _ (List.mem_of_getElem? (i := 10) rfl))) Via.refl F_numbers_a d6_20 ?_
    intro T3 X3
    refine OG.aloadN X3 d6_23 rfl rfl ?_
    refine OG.getF X3 (host := "") (Or.inl (hw _ (List.mem_of_getElem? (i := 17) rfl))) Via.refl F_size_a d6_24 ?_
    intro T4 X4
    refine OG.callS X4 (hw _ (List.mem_of_getElem? (i := 34) rfl)) (hw _ (List.mem_of_getElem? (i := 35) rfl)) (by decide) (rm7 l Z a0 hw [] b z  _ _ _ h0 n0 Z0 A_b hz (by omega) (by omega)) (hw _ (List.mem_of_getElem? (i := 37) rfl)) (hw _ (List.mem_of_getElem? (i := 36) rfl)) (by decide) (W := 0) (by decide) rfl (argsL := [(.ref b), (.int z)]) pd_1 rfl d6_27 rfl (Nat.le_of_eq rfl) (by decide) (by decide) ?_
    rintro _ T5 h6 X5 ⟨b7, rfl, g_b7, s_b7, K5, B_b7⟩
    have ne_a_b7 : a ≠ b7 := Nat.ne_of_lt (Nat.lt_of_lt_of_le E_a.lt s_b7)
    have ne_b_b7 : b ≠ b7 := Nat.ne_of_lt (Nat.lt_of_lt_of_le A_b.lt s_b7)
    have sz_b7 : h0.size ≤ b7 := Nat.le_trans K0.1 s_b7
    replace E_a := E_a.keep K5
    replace Z0 := Nat.le_trans Z0 K5.1
    replace F_numbers_a := F_numbers_a.keep K5 nin0
    replace F_size_a := F_size_a.keep K5 nin0
    replace A_b := A_b.keep K5 nin0
    replace K0 := K0.trans K5 (all0)
    show OG p e below s n0 room6.cells room6.slots (Q6 Z a b z k N f h0 n0) (T5.setTop (mkF m 30 #[.val (.ref a)] [(.ref b7)]))
    exact OG.retA X5 d6_30 rfl rfl (by decide) (by decide) ⟨b7, _, rfl, g_b7, K0, B_b7, fun i hi => by simp [show i < N by omega]⟩
  · intro c9
    refine OG.aloadN X2 d6_12 rfl rfl ?_
    refine OG.getF X2 (host := "") (Or.inl (hw _ (List.mem_of_getElem? (i := 10) rfl))) Via.refl F_numbers_a d6_13 ?_
    intro T8 X8
    refine OG.goto X8 d6_16 (pc' := 30) (by decide) ?_
    exact OG.retA X8 d6_30 rfl rfl (by decide) (by decide) ⟨b, f, rfl, g_b, K0, (own_kN hz hN c9) ▸ A_b, fun i hi => rfl⟩
theorem d9_0 : decode method_3_code 0 = .ok (.iload_n 1, 1) := by decide +kernel
theorem d9_1 : decode method_3_code 1 = .ok (.iload_n 2, 1) := by decide +kernel
theorem d9_2 : decode method_3_code 2 = .ok (.if_icmp .lt 5, 3) := by decide +kernel
theorem d9_7 : decode method_3_code 7 = .ok (.iload_n 1, 1) := by decide +kernel
theorem d9_8 : decode method_3_code 8 = .ok (.iload_n 2, 1) := by decide +kernel
theorem d9_9 : decode method_3_code 9 = .ok (.iconst 1, 1) := by decide +kernel
theorem d9_10 : decode method_3_code 10 = .ok (.isub, 1) := by decide +kernel
theorem d9_11 : decode method_3_code 11 = .ok (.if_icmp .ne 8, 3) := by decide +kernel
theorem d9_19 : decode method_3_code 19 = .ok (.iload_n 3, 1) := by decide +kernel
theorem d9_20 : decode method_3_code 20 = .ok (.istore 5, 2) := by decide +kernel
theorem d9_22 : decode method_3_code 22 = .ok (.aload_n 0, 1) := by decide +kernel
theorem d9_23 : decode method_3_code 23 = .ok (.iload_n 1, 1) := by decide +kernel
theorem d9_24 : decode method_3_code 24 = .ok (.iaload, 1) := by decide +kernel
theorem d9_25 : decode method_3_code 25 = .ok (.iload 5, 2) := by decide +kernel
theorem d9_27 : decode method_3_code 27 = .ok (.if_icmp .ne 7, 3) := by decide +kernel
theorem d9_34 : decode method_3_code 34 = .ok (.iconst 0, 1) := by decide +kernel
theorem d9_35 : decode method_3_code 35 = .ok (.ireturn, 1) := by decide +kernel
theorem d9_30 : decode method_3_code 30 = .ok (.iconst 1, 1) := by decide +kernel
theorem d9_31 : decode method_3_code 31 = .ok (.goto 4, 3) := by decide +kernel
theorem d9_14 : decode method_3_code 14 = .ok (.iload 4, 2) := by decide +kernel
theorem d9_16 : decode method_3_code 16 = .ok (.goto 4, 3) := by decide +kernel
theorem d9_5 : decode method_3_code 5 = .ok (.iconst 1, 1) := by decide +kernel
theorem d9_6 : decode method_3_code 6 = .ok (.ireturn, 1) := by decide +kernel
def F9 (i : Int32) (n : Int32) (u : Int32) (w : Int32) (f : Nat → Int32) : Int32 := (if i < n then (if i = (n - (1 : Int32)) then (if (f i.toInt.toNat) = w then (1 : Int32) else (0 : Int32)) else (if (f i.toInt.toNat) = u then (1 : Int32) else (0 : Int32))) else (1 : Int32))
theorem pn_9 : plainName "com/example/meerkat/meerkat/NumbersReplaceLastPinLaw" = true := by first | (simp [plainName, overriddenIn]; done) | decide +kernel
theorem ef_9 (m : MethodId) (t : Addr) (i : Int32) (n : Int32) (u : Int32) (w : Int32) : entryFrame m #[(.ref t), (.int i), (.int n), (.int u), (.int w)] 6 = mkF m 0 #[.val (.ref t), .val (.int i), .val (.int n), .val (.int u), .val (.int w), .unset] [] := by first | (simp [entryFrame, mkF, argsToLocals, Value.category]; done) | rfl
def Q9 (Z : State) (t : Addr) (i : Int32) (n : Int32) (u : Int32) (w : Int32) (f : Nat → Int32) (h0 : Heap) : Option Value → Heap → Prop := fun v h => v = some (.int (F9 i n u w f)) ∧ h = h0
abbrev room9 : Room := { frames := 0, cells := 0, slots := 0, locals := 0 }
set_option maxRecDepth 65536 in
set_option maxHeartbeats 40000000 in
theorem rm9 (l : Launch) (Z : State) (a0 : Array Value) (hw : ∀ d ∈ tables_1, d.before a0 Z = true) (ws : List Jvm.Cond) (t : Addr) (i : Int32) (n : Int32) (u : Int32) (w : Int32) (f : Nat → Int32) (h0 : Heap) (n0 : Nat) (M : Nat) (A_t : Ia Z h0 t .int M f) (hin : i < n → 0 ≤ i.toInt ∧ i.toInt < M) :
    OM l (⟨"com/example/meerkat/meerkat/NumbersReplaceLastPinLaw", "check", "([IIIII)Z"⟩ : MethodName) method_3_code 6 (some .boolean) room9 ws Z #[(.ref t), (.int i), (.int n), (.int u), (.int w)] h0 n0 (Q9 Z t i n u w f h0) := by
  refine OM.of (plainFor_of_name pn_9) (fun m => ef_9 m t i n u w) ?_
  intro p e s m below meth c T X
  refine OG.iloadN X d9_0 rfl ?_
  refine OG.iloadN X d9_1 rfl ?_
  refine OG.icmp_lt X d9_2 (pc' := 7) (by decide) ?_ ?_
  · intro c2
    refine OG.iloadN X d9_7 rfl ?_
    refine OG.iloadN X d9_8 rfl ?_
    refine OG.iconst X d9_9 (z := (1 : Int32)) rfl ?_
    refine OG.isub X d9_10 ?_
    refine OG.icmp_ne X d9_11 (pc' := 19) (by decide) ?_ ?_
    · intro c11
      refine OG.iloadN X d9_19 rfl ?_
      refine OG.istore X d9_20 (l' := #[.val (.ref t), .val (.int i), .val (.int n), .val (.int u), .val (.int w), .val (.int u)]) rfl ?_
      refine OG.aloadN X d9_22 rfl rfl ?_
      refine OG.iloadN X d9_23 rfl ?_
      refine OG.iaload X A_t (hin c2) d9_24 ?_
      refine OG.iload X d9_25 rfl ?_
      refine OG.icmp_ne X d9_27 (pc' := 34) (by decide) ?_ ?_
      · intro c27
        refine OG.iconst X d9_34 (z := (0 : Int32)) rfl ?_
        exact OG.retN X (t := .boolean) d9_35 (by simp) (by decide) (by decide) ⟨by rw [F9, if_pos c2, if_neg c11, if_neg c27]; try rfl, rfl⟩
      · intro c27
        refine OG.iconst X d9_30 (z := (1 : Int32)) rfl ?_
        refine OG.goto X d9_31 (pc' := 35) (by decide) ?_
        exact OG.retN X (t := .boolean) d9_35 (by simp) (by decide) (by decide) ⟨by rw [F9, if_pos c2, if_neg c11, if_pos c27]; try rfl, rfl⟩
    · intro c11
      refine OG.iload X d9_14 rfl ?_
      refine OG.goto X d9_16 (pc' := 20) (by decide) ?_
      refine OG.istore X d9_20 (l' := #[.val (.ref t), .val (.int i), .val (.int n), .val (.int u), .val (.int w), .val (.int w)]) rfl ?_
      refine OG.aloadN X d9_22 rfl rfl ?_
      refine OG.iloadN X d9_23 rfl ?_
      refine OG.iaload X A_t (hin c2) d9_24 ?_
      refine OG.iload X d9_25 rfl ?_
      refine OG.icmp_ne X d9_27 (pc' := 34) (by decide) ?_ ?_
      · intro c27
        refine OG.iconst X d9_34 (z := (0 : Int32)) rfl ?_
        exact OG.retN X (t := .boolean) d9_35 (by simp) (by decide) (by decide) ⟨by rw [F9, if_pos c2, if_pos c11, if_neg c27]; try rfl, rfl⟩
      · intro c27
        refine OG.iconst X d9_30 (z := (1 : Int32)) rfl ?_
        refine OG.goto X d9_31 (pc' := 35) (by decide) ?_
        exact OG.retN X (t := .boolean) d9_35 (by simp) (by decide) (by decide) ⟨by rw [F9, if_pos c2, if_pos c11, if_pos c27]; try rfl, rfl⟩
  · intro c2
    refine OG.iconst X d9_5 (z := (1 : Int32)) rfl ?_
    exact OG.retN X (t := .boolean) d9_6 (by simp) (by decide) (by decide) ⟨by rw [F9, if_neg c2]; try rfl, rfl⟩
theorem own_chk {i n u w : Int32} {f : Nat → Int32} (h : i < n → f i.toInt.toNat = if i = n - 1 then w else u) : ¬ F9 i n u w f = 0 := by
  unfold F9
  by_cases q : i < n
  · have h2 := h q
    by_cases q2 : i = n - 1
    · rw [if_pos q2] at h2; rw [if_pos q, if_pos q2, if_pos h2]; decide
    · rw [if_neg q2] at h2; rw [if_pos q, if_neg q2, if_pos h2]; decide
  · rw [if_neg q]; decide
theorem own_n {n q : Int32} (h : n = (q &&& 3) + 1) : 1 ≤ n.toInt ∧ n.toInt ≤ 4 := by
  have h1 := c_and q 3 (by decide)
  have h3 := c_iadd (q &&& 3) 1
  rw [← h] at h3
  have h4 := rng32 n
  have h5 : (1 : Int32).toInt = 1 := rfl
  have h6 : (3 : Int32).toInt = 3 := rfl
  omega
theorem own_mono {n a b : Int32} (h : n < a) (h2 : a.toInt ≤ b.toInt) : n < b := by
  rw [Int32.lt_iff_toInt_lt] at *; omega
theorem own_eq {n z : Int32} {k : Nat} (hz : z.toInt = k) (h1 : (k : Int) ≤ n.toInt) (h2 : n.toInt ≤ k) : n = z := by
  rw [← Int32.toInt_inj]; omega
theorem own_ge {n a : Int32} (h : ¬ n < a) : a.toInt ≤ n.toInt := by
  rw [Int32.lt_iff_toInt_lt] at h; omega
theorem own_lt {n a : Int32} (h : n < a) : n.toInt < a.toInt := by
  rw [Int32.lt_iff_toInt_lt] at h; exact h
theorem pn_0 : plainName "com/example/meerkat/meerkat/NumbersReplaceLastPinLaw" = true := by first | (simp [plainName, overriddenIn]; done) | decide +kernel
theorem ef_0 (m : MethodId) (i0 : Int32) (i1 : Int32) (i2 : Int32) (i3 : Int32) (i4 : Int32) : entryFrame m #[(.int i0), (.int i1), (.int i2), (.int i3), (.int i4)] maxLocals = mkF m 0 #[.val (.int i0), .val (.int i1), .val (.int i2), .val (.int i3), .val (.int i4), .unset, .unset, .unset, .unset] [] := by first | (simp [entryFrame, mkF, argsToLocals, Value.category, maxLocals]; done) | rfl
def Q0 (Z : State) (i0 : Int32) (i1 : Int32) (i2 : Int32) (i3 : Int32) (i4 : Int32)  (h0 : Heap) : Option Value → Heap → Prop := fun v h => v = some (.int 1)
theorem pd_2 : parseMethodDescriptor "()V" = some ⟨[], none⟩ := by decide +kernel
theorem pd_3 : parseMethodDescriptor "(I)V" = some ⟨[.int], none⟩ := by decide +kernel
theorem pd_4 : parseMethodDescriptor "()I" = some ⟨[], some .int⟩ := by decide +kernel
theorem pd_5 : parseMethodDescriptor "()[I" = some ⟨[], some (.array .int)⟩ := by decide +kernel
theorem pd_6 : parseMethodDescriptor "([IIIII)Z" = some ⟨[(.array .int), .int, .int, .int, .int], some .boolean⟩ := by decide +kernel
set_option maxRecDepth 65536 in
set_option maxHeartbeats 40000000 in
theorem rm0 (l : Launch) (Z : State) (a0 : Array Value) (hw : ∀ d ∈ tables_1, d.before a0 Z = true) (ws : List Jvm.Cond) (i0 : Int32) (i1 : Int32) (i2 : Int32) (i3 : Int32) (i4 : Int32)  (h0 : Heap) (n0 : Nat) (Z0 : n0 ≤ h0.size)  :
    OM l x code maxLocals ret room_1 ws Z #[(.int i0), (.int i1), (.int i2), (.int i3), (.int i4)] h0 n0 (Q0 Z i0 i1 i2 i3 i4  h0) := by
  refine OM.of (plainFor_of_name pn_0) (fun m => ef_0 m i0 i1 i2 i3 i4) ?_
  intro p e s m below meth c T X
  refine OG.iload X at_0 rfl ?_
  refine OG.iconst X at_2 (z := (3 : Int32)) rfl ?_
  refine OG.iand X at_3 ?_
  refine OG.iconst X at_4 (z := (1 : Int32)) rfl ?_
  refine OG.iadd X at_5 ?_
  refine OG.istoreV X at_6 (l' := fun z => #[.val (.int i0), .val (.int i1), .val (.int i2), .val (.int i3), .val (.int i4), .val (.int z), .unset, .unset, .unset]) (fun _ => rfl) ?_
  intro n hn
  refine OG.newO X (hw _ (List.mem_of_getElem? (i := 0) rfl)) (hw _ (List.mem_of_getElem? (i := 1) rfl)) (hw _ (List.mem_of_getElem? (i := 2) rfl)) at_8 (by decide) (by decide) ?_
  intro T1 h2 b4 gb4 X1 E3 E_b4 D_b4
  have g_b4 : n0 ≤ b4 := Nat.le_trans Z0 (Nat.le_of_eq gb4.symm)
  replace Z0 := Nat.le_trans Z0 E3.1
  have F_numbers_b4 : Fld Z h2 b4 "com/example/meerkat/meerkat/Numbers" "numbers" "[I" .null := D_b4 (Or.inl (hw _ (List.mem_of_getElem? (i := 11) rfl))) (ty := (.array .int)) (by decide)
  have F_size_b4 : Fld Z h2 b4 "com/example/meerkat/meerkat/Numbers" "size" "I" (.int 0) := D_b4 (Or.inl (hw _ (List.mem_of_getElem? (i := 18) rfl))) (ty := .int) (by decide)
  refine OG.dup X1 at_11 rfl ?_
  refine OG.callC X1 rfl (hw _ (List.mem_of_getElem? (i := 3) rfl)) (hw _ (List.mem_of_getElem? (i := 4) rfl)) (by decide) (rm1 l Z a0 hw [] b4 h2 n0 Z0 E_b4 g_b4 F_numbers_b4 F_size_b4) (hw _ (List.mem_of_getElem? (i := 5) rfl)) (hw _ (List.mem_of_getElem? (i := 2) rfl)) (by decide) (W := 1) (by decide) rfl (argsL := []) pd_2 rfl at_12 rfl (Nat.le_of_eq rfl) (by decide) (by decide) ?_
  rintro _ T5 h6 X5 ⟨b7, rfl, g_b7, s_b7, K5, E5, G5, H5, A_b7⟩
  have n_b7 : b7 ≠ b4 := Ne.symm (Nat.ne_of_lt (Nat.lt_of_lt_of_le E_b4.lt s_b7))
  replace Z0 := Nat.le_trans Z0 K5.1
  replace E_b4 := E_b4.keep K5
  clear F_numbers_b4 F_size_b4
  replace E_b4 := E5
  have F_numbers_b4 := G5; have F_size_b4 := H5
  show OG p e below s n0 room_1.cells room_1.slots (Q0 Z i0 i1 i2 i3 i4  h0) (T5.setTop (mkF m 15 #[.val (.int i0), .val (.int i1), .val (.int i2), .val (.int i3), .val (.int i4), .val (.int n), .unset, .unset, .unset] [(.ref b4)]))
  refine OG.astore X5 at_15 (l' := #[.val (.int i0), .val (.int i1), .val (.int i2), .val (.int i3), .val (.int i4), .val (.int n), .val (.ref b4), .unset, .unset]) rfl rfl ?_
  refine OG.aload X5 at_17 rfl rfl ?_
  refine OG.iloadN X5 at_19 rfl ?_
  refine OG.callV X5 (hw _ (List.mem_of_getElem? (i := 12) rfl)) (hw _ (List.mem_of_getElem? (i := 13) rfl)) (notFace_of_selects (args := #[]) (mvT X5.warm (hw _ (List.mem_of_getElem? (i := 15) rfl)))) (hw _ (List.mem_of_getElem? (i := 15) rfl)) (hw _ (List.mem_of_getElem? (i := 14) rfl)) (by decide) E_b4 (rm3 l Z a0 hw [] b4 i0 b7 (0 : Int32) 0 2 _ h6 n0 Z0 E_b4 g_b4 F_numbers_b4 F_size_b4 A_b7 g_b7 n_b7 (rfl : (0 : Int32).toInt = (0 : Nat)) (by decide) (by decide) (by decide)) (hw _ (List.mem_of_getElem? (i := 16) rfl)) (hw _ (List.mem_of_getElem? (i := 2) rfl)) (by decide) (W := 0) (by decide) rfl (argsL := [(.int i0)]) pd_3 rfl at_20 rfl (Nat.le_of_eq rfl) (by decide) (by decide) ?_
  rintro _ T8 h9 X8 ⟨b10, N8, f8, z8, rfl, g_b10, n_b10, K8, E8, G8, H8, hz8, A_b10, hN8, ho8, hn8⟩
  obtain rfl : N8 = 2 := by omega
  replace Z0 := Nat.le_trans Z0 K8.1
  replace E_b4 := E_b4.keep K8
  clear F_numbers_b4 F_size_b4
  replace E_b4 := E8
  have F_numbers_b4 := G8; have F_size_b4 := H8
  show OG p e below s n0 room_1.cells room_1.slots (Q0 Z i0 i1 i2 i3 i4  h0) (T8.setTop (mkF m 23 #[.val (.int i0), .val (.int i1), .val (.int i2), .val (.int i3), .val (.int i4), .val (.int n), .val (.ref b4), .unset, .unset] []))
  refine OG.iload X8 at_23 rfl ?_
  refine OG.iconst X8 at_25 (z := (2 : Int32)) rfl ?_
  refine OG.icmp_lt X8 at_26 (pc' := 35) (by decide) ?_ ?_
  · intro c26
    refine OG.iload X8 at_35 rfl ?_
    refine OG.iconst X8 at_37 (z := (3 : Int32)) rfl ?_
    refine OG.icmp_lt_t X8 at_38 (pc' := 47) (by decide) (own_mono c26 (by decide)) ?_
    refine OG.iload X8 at_47 rfl ?_
    refine OG.iconst X8 at_49 (z := (4 : Int32)) rfl ?_
    refine OG.icmp_lt_t X8 at_50 (pc' := 60) (by decide) (own_mono c26 (by decide)) ?_
    have hnk : n = (1 : Int32) := own_eq (k := 1) rfl ((own_n hn).1) (by have := own_lt c26; have e : (2 : Int32).toInt = 2 := rfl; omega)
    refine OG.aload X8 at_60 rfl rfl ?_
    refine OG.iloadN X8 at_62 rfl ?_
    refine OG.callV X8 (hw _ (List.mem_of_getElem? (i := 19) rfl)) (hw _ (List.mem_of_getElem? (i := 20) rfl)) (notFace_of_selects (args := #[]) (mvT X8.warm (hw _ (List.mem_of_getElem? (i := 22) rfl)))) (hw _ (List.mem_of_getElem? (i := 22) rfl)) (hw _ (List.mem_of_getElem? (i := 21) rfl)) (by decide) E_b4 (rm4 l Z a0 hw [] b4 i3 b10 z8 0 2 _ h9 n0 Z0 E_b4 g_b4 F_numbers_b4 F_size_b4 A_b10 g_b10 n_b10 hz8 (by decide)) (hw _ (List.mem_of_getElem? (i := 23) rfl)) (hw _ (List.mem_of_getElem? (i := 2) rfl)) (by decide) (W := 0) (by decide) rfl (argsL := [(.int i3)]) pd_3 rfl at_63 rfl (Nat.le_of_eq rfl) (by decide) (by decide) ?_
    rintro _ T11 h12 X11 ⟨f11, rfl, K11, B11, ho11, hn11⟩
    replace Z0 := Nat.le_trans Z0 K11.1
    replace E_b4 := E_b4.keep K11
    replace F_numbers_b4 := F_numbers_b4.keep K11 (ninS (Ne.symm n_b10) nin0)
    replace F_size_b4 := F_size_b4.keep K11 (ninS (Ne.symm n_b10) nin0)
    clear A_b10; have A_b10 := B11
    show OG p e below s n0 room_1.cells room_1.slots (Q0 Z i0 i1 i2 i3 i4  h0) (T11.setTop (mkF m 66 #[.val (.int i0), .val (.int i1), .val (.int i2), .val (.int i3), .val (.int i4), .val (.int n), .val (.ref b4), .unset, .unset] []))
    refine OG.aload X11 at_66 rfl rfl ?_
    refine OG.callV X11 (hw _ (List.mem_of_getElem? (i := 24) rfl)) (hw _ (List.mem_of_getElem? (i := 25) rfl)) (notFace_of_selects (args := #[]) (mvT X11.warm (hw _ (List.mem_of_getElem? (i := 27) rfl)))) (hw _ (List.mem_of_getElem? (i := 27) rfl)) (hw _ (List.mem_of_getElem? (i := 26) rfl)) (by decide) E_b4 (rm5 l Z a0 hw [] b4 b10 z8 2 _ i3 h12 n0 F_numbers_b4 F_size_b4 A_b10 (by rw [own_pred (k := 0) hz8]; decide) (by rw [own_nat (own_pred (k := 0) hz8)]; exact hn11)) (hw _ (List.mem_of_getElem? (i := 28) rfl)) (hw _ (List.mem_of_getElem? (i := 2) rfl)) (by decide) (W := 0) (by decide) rfl (argsL := []) pd_4 rfl at_68 rfl (Nat.le_of_eq rfl) (by decide) (by decide) ?_
    rintro _ T13 h14 X13 ⟨rfl, eh14⟩
    rw [eh14] at X13
    show OG p e below s n0 room_1.cells room_1.slots (Q0 Z i0 i1 i2 i3 i4  h0) (T13.setTop (mkF m 71 #[.val (.int i0), .val (.int i1), .val (.int i2), .val (.int i3), .val (.int i4), .val (.int n), .val (.ref b4), .unset, .unset] [(.int i3)]))
    refine OG.istore X13 at_71 (l' := #[.val (.int i0), .val (.int i1), .val (.int i2), .val (.int i3), .val (.int i4), .val (.int n), .val (.ref b4), .val (.int i3), .unset]) rfl ?_
    refine OG.aload X13 at_73 rfl rfl ?_
    refine OG.callV X13 (hw _ (List.mem_of_getElem? (i := 29) rfl)) (hw _ (List.mem_of_getElem? (i := 30) rfl)) (notFace_of_selects (args := #[]) (mvT X13.warm (hw _ (List.mem_of_getElem? (i := 32) rfl)))) (hw _ (List.mem_of_getElem? (i := 32) rfl)) (hw _ (List.mem_of_getElem? (i := 31) rfl)) (by decide) E_b4 (rm6 l Z a0 hw [] b4 b10 z8 1 2 _ h12 n0 Z0 E_b4 g_b4 F_numbers_b4 F_size_b4 A_b10 g_b10 n_b10 hz8 (by decide) (by decide)) (hw _ (List.mem_of_getElem? (i := 33) rfl)) (hw _ (List.mem_of_getElem? (i := 2) rfl)) (by decide) (W := 0) (by decide) rfl (argsL := []) pd_5 rfl at_75 rfl (Nat.le_of_eq rfl) (by decide) (by decide) ?_
    rintro _ T15 h16 X15 ⟨t17, f15, rfl, g_t17, K15, A_t17, ho15⟩
    have ct15_0 := (ho15 0 (by decide)).trans hn11
    replace Z0 := Nat.le_trans Z0 K15.1
    show OG p e below s n0 room_1.cells room_1.slots (Q0 Z i0 i1 i2 i3 i4  h0) (T15.setTop (mkF m 78 #[.val (.int i0), .val (.int i1), .val (.int i2), .val (.int i3), .val (.int i4), .val (.int n), .val (.ref b4), .val (.int i3), .unset] [(.ref t17)]))
    refine OG.astore X15 at_78 (l' := #[.val (.int i0), .val (.int i1), .val (.int i2), .val (.int i3), .val (.int i4), .val (.int n), .val (.ref b4), .val (.int i3), .val (.ref t17)]) rfl rfl ?_
    refine OG.aload X15 at_80 rfl rfl ?_
    refine OG.arraylength X15 A_t17 (z := (1 : Int32)) rfl at_82 ?_
    refine OG.iload X15 at_83 rfl ?_
    refine OG.icmp_eq_t X15 at_85 (pc' := 90) (by decide) hnk.symm ?_
    refine OG.iload X15 at_90 rfl ?_
    refine OG.iloadN X15 at_92 rfl ?_
    refine OG.icmp_eq_t X15 at_93 (pc' := 98) (by decide) rfl ?_
    refine OG.aload X15 at_98 rfl rfl ?_
    refine OG.iconst X15 at_100 (z := (0 : Int32)) rfl ?_
    refine OG.iload X15 at_101 rfl ?_
    refine OG.iloadN X15 at_103 rfl ?_
    refine OG.iloadN X15 at_104 rfl ?_
    refine OG.callS X15 (hw _ (List.mem_of_getElem? (i := 46) rfl)) (hw _ (List.mem_of_getElem? (i := 47) rfl)) (by decide) (rm9 l Z a0 hw [] t17 (0 : Int32) n i0 i3 f15 h16 n0 1 A_t17 (fun _ => by decide)) (hw _ (List.mem_of_getElem? (i := 49) rfl)) (hw _ (List.mem_of_getElem? (i := 48) rfl)) (by decide) (W := 0) (by decide) rfl (argsL := [(.ref t17), (.int (0 : Int32)), (.int n), (.int i0), (.int i3)]) pd_6 rfl at_105 rfl (Nat.le_of_eq rfl) (by decide) (by decide) ?_
    rintro _ T18 h19 X18 ⟨rfl, eh19⟩
    rw [eh19] at X18
    show OG p e below s n0 room_1.cells room_1.slots (Q0 Z i0 i1 i2 i3 i4  h0) (T18.setTop (mkF m 108 #[.val (.int i0), .val (.int i1), .val (.int i2), .val (.int i3), .val (.int i4), .val (.int n), .val (.ref b4), .val (.int i3), .val (.ref t17)] [(.int (F9 (0 : Int32) n i0 i3 f15))]))
    refine OG.if_eq_f X18 at_108 (own_chk (fun _ => by rw [hnk]; exact ct15_0.trans (if_pos (by decide)).symm)) ?_
    refine OG.aload X18 at_111 rfl rfl ?_
    refine OG.iconst X18 at_113 (z := (1 : Int32)) rfl ?_
    refine OG.iload X18 at_114 rfl ?_
    refine OG.iloadN X18 at_116 rfl ?_
    refine OG.iloadN X18 at_117 rfl ?_
    refine OG.callS X18 (hw _ (List.mem_of_getElem? (i := 46) rfl)) (hw _ (List.mem_of_getElem? (i := 47) rfl)) (by decide) (rm9 l Z a0 hw [] t17 (1 : Int32) n i1 i3 f15 h16 n0 1 A_t17 (fun q => absurd q (by rw [hnk]; decide))) (hw _ (List.mem_of_getElem? (i := 49) rfl)) (hw _ (List.mem_of_getElem? (i := 48) rfl)) (by decide) (W := 0) (by decide) rfl (argsL := [(.ref t17), (.int (1 : Int32)), (.int n), (.int i1), (.int i3)]) pd_6 rfl at_118 rfl (Nat.le_of_eq rfl) (by decide) (by decide) ?_
    rintro _ T20 h21 X20 ⟨rfl, eh21⟩
    rw [eh21] at X20
    show OG p e below s n0 room_1.cells room_1.slots (Q0 Z i0 i1 i2 i3 i4  h0) (T20.setTop (mkF m 121 #[.val (.int i0), .val (.int i1), .val (.int i2), .val (.int i3), .val (.int i4), .val (.int n), .val (.ref b4), .val (.int i3), .val (.ref t17)] [(.int (F9 (1 : Int32) n i1 i3 f15))]))
    refine OG.if_eq_f X20 at_121 (own_chk (fun q => absurd q (by rw [hnk]; decide))) ?_
    refine OG.aload X20 at_124 rfl rfl ?_
    refine OG.iconst X20 at_126 (z := (2 : Int32)) rfl ?_
    refine OG.iload X20 at_127 rfl ?_
    refine OG.iloadN X20 at_129 rfl ?_
    refine OG.iloadN X20 at_130 rfl ?_
    refine OG.callS X20 (hw _ (List.mem_of_getElem? (i := 46) rfl)) (hw _ (List.mem_of_getElem? (i := 47) rfl)) (by decide) (rm9 l Z a0 hw [] t17 (2 : Int32) n i2 i3 f15 h16 n0 1 A_t17 (fun q => absurd q (by rw [hnk]; decide))) (hw _ (List.mem_of_getElem? (i := 49) rfl)) (hw _ (List.mem_of_getElem? (i := 48) rfl)) (by decide) (W := 0) (by decide) rfl (argsL := [(.ref t17), (.int (2 : Int32)), (.int n), (.int i2), (.int i3)]) pd_6 rfl at_131 rfl (Nat.le_of_eq rfl) (by decide) (by decide) ?_
    rintro _ T22 h23 X22 ⟨rfl, eh23⟩
    rw [eh23] at X22
    show OG p e below s n0 room_1.cells room_1.slots (Q0 Z i0 i1 i2 i3 i4  h0) (T22.setTop (mkF m 134 #[.val (.int i0), .val (.int i1), .val (.int i2), .val (.int i3), .val (.int i4), .val (.int n), .val (.ref b4), .val (.int i3), .val (.ref t17)] [(.int (F9 (2 : Int32) n i2 i3 f15))]))
    refine OG.if_eq_f X22 at_134 (own_chk (fun q => absurd q (by rw [hnk]; decide))) ?_
    refine OG.aload X22 at_137 rfl rfl ?_
    refine OG.iconst X22 at_139 (z := (3 : Int32)) rfl ?_
    refine OG.iload X22 at_140 rfl ?_
    refine OG.iload X22 at_142 rfl ?_
    refine OG.iloadN X22 at_144 rfl ?_
    refine OG.callS X22 (hw _ (List.mem_of_getElem? (i := 46) rfl)) (hw _ (List.mem_of_getElem? (i := 47) rfl)) (by decide) (rm9 l Z a0 hw [] t17 (3 : Int32) n i4 i3 f15 h16 n0 1 A_t17 (fun q => absurd q (by rw [hnk]; decide))) (hw _ (List.mem_of_getElem? (i := 49) rfl)) (hw _ (List.mem_of_getElem? (i := 48) rfl)) (by decide) (W := 0) (by decide) rfl (argsL := [(.ref t17), (.int (3 : Int32)), (.int n), (.int i4), (.int i3)]) pd_6 rfl at_145 rfl (Nat.le_of_eq rfl) (by decide) (by decide) ?_
    rintro _ T24 h25 X24 ⟨rfl, eh25⟩
    rw [eh25] at X24
    show OG p e below s n0 room_1.cells room_1.slots (Q0 Z i0 i1 i2 i3 i4  h0) (T24.setTop (mkF m 148 #[.val (.int i0), .val (.int i1), .val (.int i2), .val (.int i3), .val (.int i4), .val (.int n), .val (.ref b4), .val (.int i3), .val (.ref t17)] [(.int (F9 (3 : Int32) n i4 i3 f15))]))
    refine OG.if_eq_f X24 at_148 (own_chk (fun q => absurd q (by rw [hnk]; decide))) ?_
    refine OG.iconst X24 at_151 (z := (1 : Int32)) rfl ?_
    refine OG.goto X24 at_152 (pc' := 156) (by decide) ?_
    exact OG.retN X24 (t := .boolean) at_156 (by simp) (by decide) (by decide) rfl
  · intro c26
    refine OG.aload X8 at_29 rfl rfl ?_
    refine OG.iloadN X8 at_31 rfl ?_
    refine OG.callV X8 (hw _ (List.mem_of_getElem? (i := 12) rfl)) (hw _ (List.mem_of_getElem? (i := 13) rfl)) (notFace_of_selects (args := #[]) (mvT X8.warm (hw _ (List.mem_of_getElem? (i := 15) rfl)))) (hw _ (List.mem_of_getElem? (i := 15) rfl)) (hw _ (List.mem_of_getElem? (i := 14) rfl)) (by decide) E_b4 (rm3 l Z a0 hw [] b4 i1 b10 z8 1 2 _ h9 n0 Z0 E_b4 g_b4 F_numbers_b4 F_size_b4 A_b10 g_b10 n_b10 hz8 (by decide) (by decide) (by decide)) (hw _ (List.mem_of_getElem? (i := 16) rfl)) (hw _ (List.mem_of_getElem? (i := 2) rfl)) (by decide) (W := 0) (by decide) rfl (argsL := [(.int i1)]) pd_3 rfl at_32 rfl (Nat.le_of_eq rfl) (by decide) (by decide) ?_
    rintro _ T26 h27 X26 ⟨b28, N26, f26, z26, rfl, g_b28, n_b28, K26, E26, G26, H26, hz26, A_b28, hN26, ho26, hn26⟩
    obtain rfl : N26 = 2 := by omega
    replace Z0 := Nat.le_trans Z0 K26.1
    replace E_b4 := E_b4.keep K26
    clear F_numbers_b4 F_size_b4
    replace E_b4 := E26
    have F_numbers_b4 := G26; have F_size_b4 := H26
    have ct26_0 := (ho26 0 (by decide)).trans hn8
    show OG p e below s n0 room_1.cells room_1.slots (Q0 Z i0 i1 i2 i3 i4  h0) (T26.setTop (mkF m 35 #[.val (.int i0), .val (.int i1), .val (.int i2), .val (.int i3), .val (.int i4), .val (.int n), .val (.ref b4), .unset, .unset] []))
    refine OG.iload X26 at_35 rfl ?_
    refine OG.iconst X26 at_37 (z := (3 : Int32)) rfl ?_
    refine OG.icmp_lt X26 at_38 (pc' := 47) (by decide) ?_ ?_
    · intro c38
      refine OG.iload X26 at_47 rfl ?_
      refine OG.iconst X26 at_49 (z := (4 : Int32)) rfl ?_
      refine OG.icmp_lt_t X26 at_50 (pc' := 60) (by decide) (own_mono c38 (by decide)) ?_
      have hnk : n = (2 : Int32) := own_eq (k := 2) rfl (own_ge c26) (by have := own_lt c38; have e : (3 : Int32).toInt = 3 := rfl; omega)
      refine OG.aload X26 at_60 rfl rfl ?_
      refine OG.iloadN X26 at_62 rfl ?_
      refine OG.callV X26 (hw _ (List.mem_of_getElem? (i := 19) rfl)) (hw _ (List.mem_of_getElem? (i := 20) rfl)) (notFace_of_selects (args := #[]) (mvT X26.warm (hw _ (List.mem_of_getElem? (i := 22) rfl)))) (hw _ (List.mem_of_getElem? (i := 22) rfl)) (hw _ (List.mem_of_getElem? (i := 21) rfl)) (by decide) E_b4 (rm4 l Z a0 hw [] b4 i3 b28 z26 1 2 _ h27 n0 Z0 E_b4 g_b4 F_numbers_b4 F_size_b4 A_b28 g_b28 n_b28 hz26 (by decide)) (hw _ (List.mem_of_getElem? (i := 23) rfl)) (hw _ (List.mem_of_getElem? (i := 2) rfl)) (by decide) (W := 0) (by decide) rfl (argsL := [(.int i3)]) pd_3 rfl at_63 rfl (Nat.le_of_eq rfl) (by decide) (by decide) ?_
      rintro _ T29 h30 X29 ⟨f29, rfl, K29, B29, ho29, hn29⟩
      replace Z0 := Nat.le_trans Z0 K29.1
      replace E_b4 := E_b4.keep K29
      replace F_numbers_b4 := F_numbers_b4.keep K29 (ninS (Ne.symm n_b28) nin0)
      replace F_size_b4 := F_size_b4.keep K29 (ninS (Ne.symm n_b28) nin0)
      clear A_b28; have A_b28 := B29
      have ct29_0 := (ho29 0 (by decide)).trans ct26_0
      show OG p e below s n0 room_1.cells room_1.slots (Q0 Z i0 i1 i2 i3 i4  h0) (T29.setTop (mkF m 66 #[.val (.int i0), .val (.int i1), .val (.int i2), .val (.int i3), .val (.int i4), .val (.int n), .val (.ref b4), .unset, .unset] []))
      refine OG.aload X29 at_66 rfl rfl ?_
      refine OG.callV X29 (hw _ (List.mem_of_getElem? (i := 24) rfl)) (hw _ (List.mem_of_getElem? (i := 25) rfl)) (notFace_of_selects (args := #[]) (mvT X29.warm (hw _ (List.mem_of_getElem? (i := 27) rfl)))) (hw _ (List.mem_of_getElem? (i := 27) rfl)) (hw _ (List.mem_of_getElem? (i := 26) rfl)) (by decide) E_b4 (rm5 l Z a0 hw [] b4 b28 z26 2 _ i3 h30 n0 F_numbers_b4 F_size_b4 A_b28 (by rw [own_pred (k := 1) hz26]; decide) (by rw [own_nat (own_pred (k := 1) hz26)]; exact hn29)) (hw _ (List.mem_of_getElem? (i := 28) rfl)) (hw _ (List.mem_of_getElem? (i := 2) rfl)) (by decide) (W := 0) (by decide) rfl (argsL := []) pd_4 rfl at_68 rfl (Nat.le_of_eq rfl) (by decide) (by decide) ?_
      rintro _ T31 h32 X31 ⟨rfl, eh32⟩
      rw [eh32] at X31
      show OG p e below s n0 room_1.cells room_1.slots (Q0 Z i0 i1 i2 i3 i4  h0) (T31.setTop (mkF m 71 #[.val (.int i0), .val (.int i1), .val (.int i2), .val (.int i3), .val (.int i4), .val (.int n), .val (.ref b4), .unset, .unset] [(.int i3)]))
      refine OG.istore X31 at_71 (l' := #[.val (.int i0), .val (.int i1), .val (.int i2), .val (.int i3), .val (.int i4), .val (.int n), .val (.ref b4), .val (.int i3), .unset]) rfl ?_
      refine OG.aload X31 at_73 rfl rfl ?_
      refine OG.callV X31 (hw _ (List.mem_of_getElem? (i := 29) rfl)) (hw _ (List.mem_of_getElem? (i := 30) rfl)) (notFace_of_selects (args := #[]) (mvT X31.warm (hw _ (List.mem_of_getElem? (i := 32) rfl)))) (hw _ (List.mem_of_getElem? (i := 32) rfl)) (hw _ (List.mem_of_getElem? (i := 31) rfl)) (by decide) E_b4 (rm6 l Z a0 hw [] b4 b28 z26 2 2 _ h30 n0 Z0 E_b4 g_b4 F_numbers_b4 F_size_b4 A_b28 g_b28 n_b28 hz26 (by decide) (by decide)) (hw _ (List.mem_of_getElem? (i := 33) rfl)) (hw _ (List.mem_of_getElem? (i := 2) rfl)) (by decide) (W := 0) (by decide) rfl (argsL := []) pd_5 rfl at_75 rfl (Nat.le_of_eq rfl) (by decide) (by decide) ?_
      rintro _ T33 h34 X33 ⟨t35, f33, rfl, g_t35, K33, A_t35, ho33⟩
      have ct33_0 := (ho33 0 (by decide)).trans ct29_0
      have ct33_1 := (ho33 1 (by decide)).trans hn29
      replace Z0 := Nat.le_trans Z0 K33.1
      show OG p e below s n0 room_1.cells room_1.slots (Q0 Z i0 i1 i2 i3 i4  h0) (T33.setTop (mkF m 78 #[.val (.int i0), .val (.int i1), .val (.int i2), .val (.int i3), .val (.int i4), .val (.int n), .val (.ref b4), .val (.int i3), .unset] [(.ref t35)]))
      refine OG.astore X33 at_78 (l' := #[.val (.int i0), .val (.int i1), .val (.int i2), .val (.int i3), .val (.int i4), .val (.int n), .val (.ref b4), .val (.int i3), .val (.ref t35)]) rfl rfl ?_
      refine OG.aload X33 at_80 rfl rfl ?_
      refine OG.arraylength X33 A_t35 (z := (2 : Int32)) rfl at_82 ?_
      refine OG.iload X33 at_83 rfl ?_
      refine OG.icmp_eq_t X33 at_85 (pc' := 90) (by decide) hnk.symm ?_
      refine OG.iload X33 at_90 rfl ?_
      refine OG.iloadN X33 at_92 rfl ?_
      refine OG.icmp_eq_t X33 at_93 (pc' := 98) (by decide) rfl ?_
      refine OG.aload X33 at_98 rfl rfl ?_
      refine OG.iconst X33 at_100 (z := (0 : Int32)) rfl ?_
      refine OG.iload X33 at_101 rfl ?_
      refine OG.iloadN X33 at_103 rfl ?_
      refine OG.iloadN X33 at_104 rfl ?_
      refine OG.callS X33 (hw _ (List.mem_of_getElem? (i := 46) rfl)) (hw _ (List.mem_of_getElem? (i := 47) rfl)) (by decide) (rm9 l Z a0 hw [] t35 (0 : Int32) n i0 i3 f33 h34 n0 2 A_t35 (fun _ => by decide)) (hw _ (List.mem_of_getElem? (i := 49) rfl)) (hw _ (List.mem_of_getElem? (i := 48) rfl)) (by decide) (W := 0) (by decide) rfl (argsL := [(.ref t35), (.int (0 : Int32)), (.int n), (.int i0), (.int i3)]) pd_6 rfl at_105 rfl (Nat.le_of_eq rfl) (by decide) (by decide) ?_
      rintro _ T36 h37 X36 ⟨rfl, eh37⟩
      rw [eh37] at X36
      show OG p e below s n0 room_1.cells room_1.slots (Q0 Z i0 i1 i2 i3 i4  h0) (T36.setTop (mkF m 108 #[.val (.int i0), .val (.int i1), .val (.int i2), .val (.int i3), .val (.int i4), .val (.int n), .val (.ref b4), .val (.int i3), .val (.ref t35)] [(.int (F9 (0 : Int32) n i0 i3 f33))]))
      refine OG.if_eq_f X36 at_108 (own_chk (fun _ => by rw [hnk]; exact ct33_0.trans (if_neg (by decide)).symm)) ?_
      refine OG.aload X36 at_111 rfl rfl ?_
      refine OG.iconst X36 at_113 (z := (1 : Int32)) rfl ?_
      refine OG.iload X36 at_114 rfl ?_
      refine OG.iloadN X36 at_116 rfl ?_
      refine OG.iloadN X36 at_117 rfl ?_
      refine OG.callS X36 (hw _ (List.mem_of_getElem? (i := 46) rfl)) (hw _ (List.mem_of_getElem? (i := 47) rfl)) (by decide) (rm9 l Z a0 hw [] t35 (1 : Int32) n i1 i3 f33 h34 n0 2 A_t35 (fun _ => by decide)) (hw _ (List.mem_of_getElem? (i := 49) rfl)) (hw _ (List.mem_of_getElem? (i := 48) rfl)) (by decide) (W := 0) (by decide) rfl (argsL := [(.ref t35), (.int (1 : Int32)), (.int n), (.int i1), (.int i3)]) pd_6 rfl at_118 rfl (Nat.le_of_eq rfl) (by decide) (by decide) ?_
      rintro _ T38 h39 X38 ⟨rfl, eh39⟩
      rw [eh39] at X38
      show OG p e below s n0 room_1.cells room_1.slots (Q0 Z i0 i1 i2 i3 i4  h0) (T38.setTop (mkF m 121 #[.val (.int i0), .val (.int i1), .val (.int i2), .val (.int i3), .val (.int i4), .val (.int n), .val (.ref b4), .val (.int i3), .val (.ref t35)] [(.int (F9 (1 : Int32) n i1 i3 f33))]))
      refine OG.if_eq_f X38 at_121 (own_chk (fun _ => by rw [hnk]; exact ct33_1.trans (if_pos (by decide)).symm)) ?_
      refine OG.aload X38 at_124 rfl rfl ?_
      refine OG.iconst X38 at_126 (z := (2 : Int32)) rfl ?_
      refine OG.iload X38 at_127 rfl ?_
      refine OG.iloadN X38 at_129 rfl ?_
      refine OG.iloadN X38 at_130 rfl ?_
      refine OG.callS X38 (hw _ (List.mem_of_getElem? (i := 46) rfl)) (hw _ (List.mem_of_getElem? (i := 47) rfl)) (by decide) (rm9 l Z a0 hw [] t35 (2 : Int32) n i2 i3 f33 h34 n0 2 A_t35 (fun q => absurd q (by rw [hnk]; decide))) (hw _ (List.mem_of_getElem? (i := 49) rfl)) (hw _ (List.mem_of_getElem? (i := 48) rfl)) (by decide) (W := 0) (by decide) rfl (argsL := [(.ref t35), (.int (2 : Int32)), (.int n), (.int i2), (.int i3)]) pd_6 rfl at_131 rfl (Nat.le_of_eq rfl) (by decide) (by decide) ?_
      rintro _ T40 h41 X40 ⟨rfl, eh41⟩
      rw [eh41] at X40
      show OG p e below s n0 room_1.cells room_1.slots (Q0 Z i0 i1 i2 i3 i4  h0) (T40.setTop (mkF m 134 #[.val (.int i0), .val (.int i1), .val (.int i2), .val (.int i3), .val (.int i4), .val (.int n), .val (.ref b4), .val (.int i3), .val (.ref t35)] [(.int (F9 (2 : Int32) n i2 i3 f33))]))
      refine OG.if_eq_f X40 at_134 (own_chk (fun q => absurd q (by rw [hnk]; decide))) ?_
      refine OG.aload X40 at_137 rfl rfl ?_
      refine OG.iconst X40 at_139 (z := (3 : Int32)) rfl ?_
      refine OG.iload X40 at_140 rfl ?_
      refine OG.iload X40 at_142 rfl ?_
      refine OG.iloadN X40 at_144 rfl ?_
      refine OG.callS X40 (hw _ (List.mem_of_getElem? (i := 46) rfl)) (hw _ (List.mem_of_getElem? (i := 47) rfl)) (by decide) (rm9 l Z a0 hw [] t35 (3 : Int32) n i4 i3 f33 h34 n0 2 A_t35 (fun q => absurd q (by rw [hnk]; decide))) (hw _ (List.mem_of_getElem? (i := 49) rfl)) (hw _ (List.mem_of_getElem? (i := 48) rfl)) (by decide) (W := 0) (by decide) rfl (argsL := [(.ref t35), (.int (3 : Int32)), (.int n), (.int i4), (.int i3)]) pd_6 rfl at_145 rfl (Nat.le_of_eq rfl) (by decide) (by decide) ?_
      rintro _ T42 h43 X42 ⟨rfl, eh43⟩
      rw [eh43] at X42
      show OG p e below s n0 room_1.cells room_1.slots (Q0 Z i0 i1 i2 i3 i4  h0) (T42.setTop (mkF m 148 #[.val (.int i0), .val (.int i1), .val (.int i2), .val (.int i3), .val (.int i4), .val (.int n), .val (.ref b4), .val (.int i3), .val (.ref t35)] [(.int (F9 (3 : Int32) n i4 i3 f33))]))
      refine OG.if_eq_f X42 at_148 (own_chk (fun q => absurd q (by rw [hnk]; decide))) ?_
      refine OG.iconst X42 at_151 (z := (1 : Int32)) rfl ?_
      refine OG.goto X42 at_152 (pc' := 156) (by decide) ?_
      exact OG.retN X42 (t := .boolean) at_156 (by simp) (by decide) (by decide) rfl
    · intro c38
      refine OG.aload X26 at_41 rfl rfl ?_
      refine OG.iloadN X26 at_43 rfl ?_
      refine OG.callV X26 (hw _ (List.mem_of_getElem? (i := 12) rfl)) (hw _ (List.mem_of_getElem? (i := 13) rfl)) (notFace_of_selects (args := #[]) (mvT X26.warm (hw _ (List.mem_of_getElem? (i := 15) rfl)))) (hw _ (List.mem_of_getElem? (i := 15) rfl)) (hw _ (List.mem_of_getElem? (i := 14) rfl)) (by decide) E_b4 (rm3 l Z a0 hw [] b4 i2 b28 z26 2 2 _ h27 n0 Z0 E_b4 g_b4 F_numbers_b4 F_size_b4 A_b28 g_b28 n_b28 hz26 (by decide) (by decide) (by decide)) (hw _ (List.mem_of_getElem? (i := 16) rfl)) (hw _ (List.mem_of_getElem? (i := 2) rfl)) (by decide) (W := 0) (by decide) rfl (argsL := [(.int i2)]) pd_3 rfl at_44 rfl (Nat.le_of_eq rfl) (by decide) (by decide) ?_
      rintro _ T44 h45 X44 ⟨b46, N44, f44, z44, rfl, g_b46, n_b46, K44, E44, G44, H44, hz44, A_b46, hN44, ho44, hn44⟩
      obtain rfl : N44 = 4 := by omega
      replace Z0 := Nat.le_trans Z0 K44.1
      replace E_b4 := E_b4.keep K44
      clear F_numbers_b4 F_size_b4
      replace E_b4 := E44
      have F_numbers_b4 := G44; have F_size_b4 := H44
      have ct44_0 := (ho44 0 (by decide)).trans ct26_0
      have ct44_1 := (ho44 1 (by decide)).trans hn26
      show OG p e below s n0 room_1.cells room_1.slots (Q0 Z i0 i1 i2 i3 i4  h0) (T44.setTop (mkF m 47 #[.val (.int i0), .val (.int i1), .val (.int i2), .val (.int i3), .val (.int i4), .val (.int n), .val (.ref b4), .unset, .unset] []))
      refine OG.iload X44 at_47 rfl ?_
      refine OG.iconst X44 at_49 (z := (4 : Int32)) rfl ?_
      refine OG.icmp_lt X44 at_50 (pc' := 60) (by decide) ?_ ?_
      · intro c50
        have hnk : n = (3 : Int32) := own_eq (k := 3) rfl (own_ge c38) (by have := own_lt c50; have e : (4 : Int32).toInt = 4 := rfl; omega)
        refine OG.aload X44 at_60 rfl rfl ?_
        refine OG.iloadN X44 at_62 rfl ?_
        refine OG.callV X44 (hw _ (List.mem_of_getElem? (i := 19) rfl)) (hw _ (List.mem_of_getElem? (i := 20) rfl)) (notFace_of_selects (args := #[]) (mvT X44.warm (hw _ (List.mem_of_getElem? (i := 22) rfl)))) (hw _ (List.mem_of_getElem? (i := 22) rfl)) (hw _ (List.mem_of_getElem? (i := 21) rfl)) (by decide) E_b4 (rm4 l Z a0 hw [] b4 i3 b46 z44 2 4 _ h45 n0 Z0 E_b4 g_b4 F_numbers_b4 F_size_b4 A_b46 g_b46 n_b46 hz44 (by decide)) (hw _ (List.mem_of_getElem? (i := 23) rfl)) (hw _ (List.mem_of_getElem? (i := 2) rfl)) (by decide) (W := 0) (by decide) rfl (argsL := [(.int i3)]) pd_3 rfl at_63 rfl (Nat.le_of_eq rfl) (by decide) (by decide) ?_
        rintro _ T47 h48 X47 ⟨f47, rfl, K47, B47, ho47, hn47⟩
        replace Z0 := Nat.le_trans Z0 K47.1
        replace E_b4 := E_b4.keep K47
        replace F_numbers_b4 := F_numbers_b4.keep K47 (ninS (Ne.symm n_b46) nin0)
        replace F_size_b4 := F_size_b4.keep K47 (ninS (Ne.symm n_b46) nin0)
        clear A_b46; have A_b46 := B47
        have ct47_0 := (ho47 0 (by decide)).trans ct44_0
        have ct47_1 := (ho47 1 (by decide)).trans ct44_1
        show OG p e below s n0 room_1.cells room_1.slots (Q0 Z i0 i1 i2 i3 i4  h0) (T47.setTop (mkF m 66 #[.val (.int i0), .val (.int i1), .val (.int i2), .val (.int i3), .val (.int i4), .val (.int n), .val (.ref b4), .unset, .unset] []))
        refine OG.aload X47 at_66 rfl rfl ?_
        refine OG.callV X47 (hw _ (List.mem_of_getElem? (i := 24) rfl)) (hw _ (List.mem_of_getElem? (i := 25) rfl)) (notFace_of_selects (args := #[]) (mvT X47.warm (hw _ (List.mem_of_getElem? (i := 27) rfl)))) (hw _ (List.mem_of_getElem? (i := 27) rfl)) (hw _ (List.mem_of_getElem? (i := 26) rfl)) (by decide) E_b4 (rm5 l Z a0 hw [] b4 b46 z44 4 _ i3 h48 n0 F_numbers_b4 F_size_b4 A_b46 (by rw [own_pred (k := 2) hz44]; decide) (by rw [own_nat (own_pred (k := 2) hz44)]; exact hn47)) (hw _ (List.mem_of_getElem? (i := 28) rfl)) (hw _ (List.mem_of_getElem? (i := 2) rfl)) (by decide) (W := 0) (by decide) rfl (argsL := []) pd_4 rfl at_68 rfl (Nat.le_of_eq rfl) (by decide) (by decide) ?_
        rintro _ T49 h50 X49 ⟨rfl, eh50⟩
        rw [eh50] at X49
        show OG p e below s n0 room_1.cells room_1.slots (Q0 Z i0 i1 i2 i3 i4  h0) (T49.setTop (mkF m 71 #[.val (.int i0), .val (.int i1), .val (.int i2), .val (.int i3), .val (.int i4), .val (.int n), .val (.ref b4), .unset, .unset] [(.int i3)]))
        refine OG.istore X49 at_71 (l' := #[.val (.int i0), .val (.int i1), .val (.int i2), .val (.int i3), .val (.int i4), .val (.int n), .val (.ref b4), .val (.int i3), .unset]) rfl ?_
        refine OG.aload X49 at_73 rfl rfl ?_
        refine OG.callV X49 (hw _ (List.mem_of_getElem? (i := 29) rfl)) (hw _ (List.mem_of_getElem? (i := 30) rfl)) (notFace_of_selects (args := #[]) (mvT X49.warm (hw _ (List.mem_of_getElem? (i := 32) rfl)))) (hw _ (List.mem_of_getElem? (i := 32) rfl)) (hw _ (List.mem_of_getElem? (i := 31) rfl)) (by decide) E_b4 (rm6 l Z a0 hw [] b4 b46 z44 3 4 _ h48 n0 Z0 E_b4 g_b4 F_numbers_b4 F_size_b4 A_b46 g_b46 n_b46 hz44 (by decide) (by decide)) (hw _ (List.mem_of_getElem? (i := 33) rfl)) (hw _ (List.mem_of_getElem? (i := 2) rfl)) (by decide) (W := 0) (by decide) rfl (argsL := []) pd_5 rfl at_75 rfl (Nat.le_of_eq rfl) (by decide) (by decide) ?_
        rintro _ T51 h52 X51 ⟨t53, f51, rfl, g_t53, K51, A_t53, ho51⟩
        have ct51_0 := (ho51 0 (by decide)).trans ct47_0
        have ct51_1 := (ho51 1 (by decide)).trans ct47_1
        have ct51_2 := (ho51 2 (by decide)).trans hn47
        replace Z0 := Nat.le_trans Z0 K51.1
        show OG p e below s n0 room_1.cells room_1.slots (Q0 Z i0 i1 i2 i3 i4  h0) (T51.setTop (mkF m 78 #[.val (.int i0), .val (.int i1), .val (.int i2), .val (.int i3), .val (.int i4), .val (.int n), .val (.ref b4), .val (.int i3), .unset] [(.ref t53)]))
        refine OG.astore X51 at_78 (l' := #[.val (.int i0), .val (.int i1), .val (.int i2), .val (.int i3), .val (.int i4), .val (.int n), .val (.ref b4), .val (.int i3), .val (.ref t53)]) rfl rfl ?_
        refine OG.aload X51 at_80 rfl rfl ?_
        refine OG.arraylength X51 A_t53 (z := (3 : Int32)) rfl at_82 ?_
        refine OG.iload X51 at_83 rfl ?_
        refine OG.icmp_eq_t X51 at_85 (pc' := 90) (by decide) hnk.symm ?_
        refine OG.iload X51 at_90 rfl ?_
        refine OG.iloadN X51 at_92 rfl ?_
        refine OG.icmp_eq_t X51 at_93 (pc' := 98) (by decide) rfl ?_
        refine OG.aload X51 at_98 rfl rfl ?_
        refine OG.iconst X51 at_100 (z := (0 : Int32)) rfl ?_
        refine OG.iload X51 at_101 rfl ?_
        refine OG.iloadN X51 at_103 rfl ?_
        refine OG.iloadN X51 at_104 rfl ?_
        refine OG.callS X51 (hw _ (List.mem_of_getElem? (i := 46) rfl)) (hw _ (List.mem_of_getElem? (i := 47) rfl)) (by decide) (rm9 l Z a0 hw [] t53 (0 : Int32) n i0 i3 f51 h52 n0 3 A_t53 (fun _ => by decide)) (hw _ (List.mem_of_getElem? (i := 49) rfl)) (hw _ (List.mem_of_getElem? (i := 48) rfl)) (by decide) (W := 0) (by decide) rfl (argsL := [(.ref t53), (.int (0 : Int32)), (.int n), (.int i0), (.int i3)]) pd_6 rfl at_105 rfl (Nat.le_of_eq rfl) (by decide) (by decide) ?_
        rintro _ T54 h55 X54 ⟨rfl, eh55⟩
        rw [eh55] at X54
        show OG p e below s n0 room_1.cells room_1.slots (Q0 Z i0 i1 i2 i3 i4  h0) (T54.setTop (mkF m 108 #[.val (.int i0), .val (.int i1), .val (.int i2), .val (.int i3), .val (.int i4), .val (.int n), .val (.ref b4), .val (.int i3), .val (.ref t53)] [(.int (F9 (0 : Int32) n i0 i3 f51))]))
        refine OG.if_eq_f X54 at_108 (own_chk (fun _ => by rw [hnk]; exact ct51_0.trans (if_neg (by decide)).symm)) ?_
        refine OG.aload X54 at_111 rfl rfl ?_
        refine OG.iconst X54 at_113 (z := (1 : Int32)) rfl ?_
        refine OG.iload X54 at_114 rfl ?_
        refine OG.iloadN X54 at_116 rfl ?_
        refine OG.iloadN X54 at_117 rfl ?_
        refine OG.callS X54 (hw _ (List.mem_of_getElem? (i := 46) rfl)) (hw _ (List.mem_of_getElem? (i := 47) rfl)) (by decide) (rm9 l Z a0 hw [] t53 (1 : Int32) n i1 i3 f51 h52 n0 3 A_t53 (fun _ => by decide)) (hw _ (List.mem_of_getElem? (i := 49) rfl)) (hw _ (List.mem_of_getElem? (i := 48) rfl)) (by decide) (W := 0) (by decide) rfl (argsL := [(.ref t53), (.int (1 : Int32)), (.int n), (.int i1), (.int i3)]) pd_6 rfl at_118 rfl (Nat.le_of_eq rfl) (by decide) (by decide) ?_
        rintro _ T56 h57 X56 ⟨rfl, eh57⟩
        rw [eh57] at X56
        show OG p e below s n0 room_1.cells room_1.slots (Q0 Z i0 i1 i2 i3 i4  h0) (T56.setTop (mkF m 121 #[.val (.int i0), .val (.int i1), .val (.int i2), .val (.int i3), .val (.int i4), .val (.int n), .val (.ref b4), .val (.int i3), .val (.ref t53)] [(.int (F9 (1 : Int32) n i1 i3 f51))]))
        refine OG.if_eq_f X56 at_121 (own_chk (fun _ => by rw [hnk]; exact ct51_1.trans (if_neg (by decide)).symm)) ?_
        refine OG.aload X56 at_124 rfl rfl ?_
        refine OG.iconst X56 at_126 (z := (2 : Int32)) rfl ?_
        refine OG.iload X56 at_127 rfl ?_
        refine OG.iloadN X56 at_129 rfl ?_
        refine OG.iloadN X56 at_130 rfl ?_
        refine OG.callS X56 (hw _ (List.mem_of_getElem? (i := 46) rfl)) (hw _ (List.mem_of_getElem? (i := 47) rfl)) (by decide) (rm9 l Z a0 hw [] t53 (2 : Int32) n i2 i3 f51 h52 n0 3 A_t53 (fun _ => by decide)) (hw _ (List.mem_of_getElem? (i := 49) rfl)) (hw _ (List.mem_of_getElem? (i := 48) rfl)) (by decide) (W := 0) (by decide) rfl (argsL := [(.ref t53), (.int (2 : Int32)), (.int n), (.int i2), (.int i3)]) pd_6 rfl at_131 rfl (Nat.le_of_eq rfl) (by decide) (by decide) ?_
        rintro _ T58 h59 X58 ⟨rfl, eh59⟩
        rw [eh59] at X58
        show OG p e below s n0 room_1.cells room_1.slots (Q0 Z i0 i1 i2 i3 i4  h0) (T58.setTop (mkF m 134 #[.val (.int i0), .val (.int i1), .val (.int i2), .val (.int i3), .val (.int i4), .val (.int n), .val (.ref b4), .val (.int i3), .val (.ref t53)] [(.int (F9 (2 : Int32) n i2 i3 f51))]))
        refine OG.if_eq_f X58 at_134 (own_chk (fun _ => by rw [hnk]; exact ct51_2.trans (if_pos (by decide)).symm)) ?_
        refine OG.aload X58 at_137 rfl rfl ?_
        refine OG.iconst X58 at_139 (z := (3 : Int32)) rfl ?_
        refine OG.iload X58 at_140 rfl ?_
        refine OG.iload X58 at_142 rfl ?_
        refine OG.iloadN X58 at_144 rfl ?_
        refine OG.callS X58 (hw _ (List.mem_of_getElem? (i := 46) rfl)) (hw _ (List.mem_of_getElem? (i := 47) rfl)) (by decide) (rm9 l Z a0 hw [] t53 (3 : Int32) n i4 i3 f51 h52 n0 3 A_t53 (fun q => absurd q (by rw [hnk]; decide))) (hw _ (List.mem_of_getElem? (i := 49) rfl)) (hw _ (List.mem_of_getElem? (i := 48) rfl)) (by decide) (W := 0) (by decide) rfl (argsL := [(.ref t53), (.int (3 : Int32)), (.int n), (.int i4), (.int i3)]) pd_6 rfl at_145 rfl (Nat.le_of_eq rfl) (by decide) (by decide) ?_
        rintro _ T60 h61 X60 ⟨rfl, eh61⟩
        rw [eh61] at X60
        show OG p e below s n0 room_1.cells room_1.slots (Q0 Z i0 i1 i2 i3 i4  h0) (T60.setTop (mkF m 148 #[.val (.int i0), .val (.int i1), .val (.int i2), .val (.int i3), .val (.int i4), .val (.int n), .val (.ref b4), .val (.int i3), .val (.ref t53)] [(.int (F9 (3 : Int32) n i4 i3 f51))]))
        refine OG.if_eq_f X60 at_148 (own_chk (fun q => absurd q (by rw [hnk]; decide))) ?_
        refine OG.iconst X60 at_151 (z := (1 : Int32)) rfl ?_
        refine OG.goto X60 at_152 (pc' := 156) (by decide) ?_
        exact OG.retN X60 (t := .boolean) at_156 (by simp) (by decide) (by decide) rfl
      · intro c50
        refine OG.aload X44 at_53 rfl rfl ?_
        refine OG.iload X44 at_55 rfl ?_
        refine OG.callV X44 (hw _ (List.mem_of_getElem? (i := 12) rfl)) (hw _ (List.mem_of_getElem? (i := 13) rfl)) (notFace_of_selects (args := #[]) (mvT X44.warm (hw _ (List.mem_of_getElem? (i := 15) rfl)))) (hw _ (List.mem_of_getElem? (i := 15) rfl)) (hw _ (List.mem_of_getElem? (i := 14) rfl)) (by decide) E_b4 (rm3 l Z a0 hw [] b4 i4 b46 z44 3 4 _ h45 n0 Z0 E_b4 g_b4 F_numbers_b4 F_size_b4 A_b46 g_b46 n_b46 hz44 (by decide) (by decide) (by decide)) (hw _ (List.mem_of_getElem? (i := 16) rfl)) (hw _ (List.mem_of_getElem? (i := 2) rfl)) (by decide) (W := 0) (by decide) rfl (argsL := [(.int i4)]) pd_3 rfl at_57 rfl (Nat.le_of_eq rfl) (by decide) (by decide) ?_
        rintro _ T62 h63 X62 ⟨b64, N62, f62, z62, rfl, g_b64, n_b64, K62, E62, G62, H62, hz62, A_b64, hN62, ho62, hn62⟩
        obtain rfl : N62 = 4 := by omega
        replace Z0 := Nat.le_trans Z0 K62.1
        replace E_b4 := E_b4.keep K62
        clear F_numbers_b4 F_size_b4
        replace E_b4 := E62
        have F_numbers_b4 := G62; have F_size_b4 := H62
        have ct62_0 := (ho62 0 (by decide)).trans ct44_0
        have ct62_1 := (ho62 1 (by decide)).trans ct44_1
        have ct62_2 := (ho62 2 (by decide)).trans hn44
        show OG p e below s n0 room_1.cells room_1.slots (Q0 Z i0 i1 i2 i3 i4  h0) (T62.setTop (mkF m 60 #[.val (.int i0), .val (.int i1), .val (.int i2), .val (.int i3), .val (.int i4), .val (.int n), .val (.ref b4), .unset, .unset] []))
        have hnk : n = (4 : Int32) := own_eq (k := 4) rfl (own_ge c50) (own_n hn).2
        refine OG.aload X62 at_60 rfl rfl ?_
        refine OG.iloadN X62 at_62 rfl ?_
        refine OG.callV X62 (hw _ (List.mem_of_getElem? (i := 19) rfl)) (hw _ (List.mem_of_getElem? (i := 20) rfl)) (notFace_of_selects (args := #[]) (mvT X62.warm (hw _ (List.mem_of_getElem? (i := 22) rfl)))) (hw _ (List.mem_of_getElem? (i := 22) rfl)) (hw _ (List.mem_of_getElem? (i := 21) rfl)) (by decide) E_b4 (rm4 l Z a0 hw [] b4 i3 b64 z62 3 4 _ h63 n0 Z0 E_b4 g_b4 F_numbers_b4 F_size_b4 A_b64 g_b64 n_b64 hz62 (by decide)) (hw _ (List.mem_of_getElem? (i := 23) rfl)) (hw _ (List.mem_of_getElem? (i := 2) rfl)) (by decide) (W := 0) (by decide) rfl (argsL := [(.int i3)]) pd_3 rfl at_63 rfl (Nat.le_of_eq rfl) (by decide) (by decide) ?_
        rintro _ T65 h66 X65 ⟨f65, rfl, K65, B65, ho65, hn65⟩
        replace Z0 := Nat.le_trans Z0 K65.1
        replace E_b4 := E_b4.keep K65
        replace F_numbers_b4 := F_numbers_b4.keep K65 (ninS (Ne.symm n_b64) nin0)
        replace F_size_b4 := F_size_b4.keep K65 (ninS (Ne.symm n_b64) nin0)
        clear A_b64; have A_b64 := B65
        have ct65_0 := (ho65 0 (by decide)).trans ct62_0
        have ct65_1 := (ho65 1 (by decide)).trans ct62_1
        have ct65_2 := (ho65 2 (by decide)).trans ct62_2
        show OG p e below s n0 room_1.cells room_1.slots (Q0 Z i0 i1 i2 i3 i4  h0) (T65.setTop (mkF m 66 #[.val (.int i0), .val (.int i1), .val (.int i2), .val (.int i3), .val (.int i4), .val (.int n), .val (.ref b4), .unset, .unset] []))
        refine OG.aload X65 at_66 rfl rfl ?_
        refine OG.callV X65 (hw _ (List.mem_of_getElem? (i := 24) rfl)) (hw _ (List.mem_of_getElem? (i := 25) rfl)) (notFace_of_selects (args := #[]) (mvT X65.warm (hw _ (List.mem_of_getElem? (i := 27) rfl)))) (hw _ (List.mem_of_getElem? (i := 27) rfl)) (hw _ (List.mem_of_getElem? (i := 26) rfl)) (by decide) E_b4 (rm5 l Z a0 hw [] b4 b64 z62 4 _ i3 h66 n0 F_numbers_b4 F_size_b4 A_b64 (by rw [own_pred (k := 3) hz62]; decide) (by rw [own_nat (own_pred (k := 3) hz62)]; exact hn65)) (hw _ (List.mem_of_getElem? (i := 28) rfl)) (hw _ (List.mem_of_getElem? (i := 2) rfl)) (by decide) (W := 0) (by decide) rfl (argsL := []) pd_4 rfl at_68 rfl (Nat.le_of_eq rfl) (by decide) (by decide) ?_
        rintro _ T67 h68 X67 ⟨rfl, eh68⟩
        rw [eh68] at X67
        show OG p e below s n0 room_1.cells room_1.slots (Q0 Z i0 i1 i2 i3 i4  h0) (T67.setTop (mkF m 71 #[.val (.int i0), .val (.int i1), .val (.int i2), .val (.int i3), .val (.int i4), .val (.int n), .val (.ref b4), .unset, .unset] [(.int i3)]))
        refine OG.istore X67 at_71 (l' := #[.val (.int i0), .val (.int i1), .val (.int i2), .val (.int i3), .val (.int i4), .val (.int n), .val (.ref b4), .val (.int i3), .unset]) rfl ?_
        refine OG.aload X67 at_73 rfl rfl ?_
        refine OG.callV X67 (hw _ (List.mem_of_getElem? (i := 29) rfl)) (hw _ (List.mem_of_getElem? (i := 30) rfl)) (notFace_of_selects (args := #[]) (mvT X67.warm (hw _ (List.mem_of_getElem? (i := 32) rfl)))) (hw _ (List.mem_of_getElem? (i := 32) rfl)) (hw _ (List.mem_of_getElem? (i := 31) rfl)) (by decide) E_b4 (rm6 l Z a0 hw [] b4 b64 z62 4 4 _ h66 n0 Z0 E_b4 g_b4 F_numbers_b4 F_size_b4 A_b64 g_b64 n_b64 hz62 (by decide) (by decide)) (hw _ (List.mem_of_getElem? (i := 33) rfl)) (hw _ (List.mem_of_getElem? (i := 2) rfl)) (by decide) (W := 0) (by decide) rfl (argsL := []) pd_5 rfl at_75 rfl (Nat.le_of_eq rfl) (by decide) (by decide) ?_
        rintro _ T69 h70 X69 ⟨t71, f69, rfl, g_t71, K69, A_t71, ho69⟩
        have ct69_0 := (ho69 0 (by decide)).trans ct65_0
        have ct69_1 := (ho69 1 (by decide)).trans ct65_1
        have ct69_2 := (ho69 2 (by decide)).trans ct65_2
        have ct69_3 := (ho69 3 (by decide)).trans hn65
        replace Z0 := Nat.le_trans Z0 K69.1
        show OG p e below s n0 room_1.cells room_1.slots (Q0 Z i0 i1 i2 i3 i4  h0) (T69.setTop (mkF m 78 #[.val (.int i0), .val (.int i1), .val (.int i2), .val (.int i3), .val (.int i4), .val (.int n), .val (.ref b4), .val (.int i3), .unset] [(.ref t71)]))
        refine OG.astore X69 at_78 (l' := #[.val (.int i0), .val (.int i1), .val (.int i2), .val (.int i3), .val (.int i4), .val (.int n), .val (.ref b4), .val (.int i3), .val (.ref t71)]) rfl rfl ?_
        refine OG.aload X69 at_80 rfl rfl ?_
        refine OG.arraylength X69 A_t71 (z := (4 : Int32)) rfl at_82 ?_
        refine OG.iload X69 at_83 rfl ?_
        refine OG.icmp_eq_t X69 at_85 (pc' := 90) (by decide) hnk.symm ?_
        refine OG.iload X69 at_90 rfl ?_
        refine OG.iloadN X69 at_92 rfl ?_
        refine OG.icmp_eq_t X69 at_93 (pc' := 98) (by decide) rfl ?_
        refine OG.aload X69 at_98 rfl rfl ?_
        refine OG.iconst X69 at_100 (z := (0 : Int32)) rfl ?_
        refine OG.iload X69 at_101 rfl ?_
        refine OG.iloadN X69 at_103 rfl ?_
        refine OG.iloadN X69 at_104 rfl ?_
        refine OG.callS X69 (hw _ (List.mem_of_getElem? (i := 46) rfl)) (hw _ (List.mem_of_getElem? (i := 47) rfl)) (by decide) (rm9 l Z a0 hw [] t71 (0 : Int32) n i0 i3 f69 h70 n0 4 A_t71 (fun _ => by decide)) (hw _ (List.mem_of_getElem? (i := 49) rfl)) (hw _ (List.mem_of_getElem? (i := 48) rfl)) (by decide) (W := 0) (by decide) rfl (argsL := [(.ref t71), (.int (0 : Int32)), (.int n), (.int i0), (.int i3)]) pd_6 rfl at_105 rfl (Nat.le_of_eq rfl) (by decide) (by decide) ?_
        rintro _ T72 h73 X72 ⟨rfl, eh73⟩
        rw [eh73] at X72
        show OG p e below s n0 room_1.cells room_1.slots (Q0 Z i0 i1 i2 i3 i4  h0) (T72.setTop (mkF m 108 #[.val (.int i0), .val (.int i1), .val (.int i2), .val (.int i3), .val (.int i4), .val (.int n), .val (.ref b4), .val (.int i3), .val (.ref t71)] [(.int (F9 (0 : Int32) n i0 i3 f69))]))
        refine OG.if_eq_f X72 at_108 (own_chk (fun _ => by rw [hnk]; exact ct69_0.trans (if_neg (by decide)).symm)) ?_
        refine OG.aload X72 at_111 rfl rfl ?_
        refine OG.iconst X72 at_113 (z := (1 : Int32)) rfl ?_
        refine OG.iload X72 at_114 rfl ?_
        refine OG.iloadN X72 at_116 rfl ?_
        refine OG.iloadN X72 at_117 rfl ?_
        refine OG.callS X72 (hw _ (List.mem_of_getElem? (i := 46) rfl)) (hw _ (List.mem_of_getElem? (i := 47) rfl)) (by decide) (rm9 l Z a0 hw [] t71 (1 : Int32) n i1 i3 f69 h70 n0 4 A_t71 (fun _ => by decide)) (hw _ (List.mem_of_getElem? (i := 49) rfl)) (hw _ (List.mem_of_getElem? (i := 48) rfl)) (by decide) (W := 0) (by decide) rfl (argsL := [(.ref t71), (.int (1 : Int32)), (.int n), (.int i1), (.int i3)]) pd_6 rfl at_118 rfl (Nat.le_of_eq rfl) (by decide) (by decide) ?_
        rintro _ T74 h75 X74 ⟨rfl, eh75⟩
        rw [eh75] at X74
        show OG p e below s n0 room_1.cells room_1.slots (Q0 Z i0 i1 i2 i3 i4  h0) (T74.setTop (mkF m 121 #[.val (.int i0), .val (.int i1), .val (.int i2), .val (.int i3), .val (.int i4), .val (.int n), .val (.ref b4), .val (.int i3), .val (.ref t71)] [(.int (F9 (1 : Int32) n i1 i3 f69))]))
        refine OG.if_eq_f X74 at_121 (own_chk (fun _ => by rw [hnk]; exact ct69_1.trans (if_neg (by decide)).symm)) ?_
        refine OG.aload X74 at_124 rfl rfl ?_
        refine OG.iconst X74 at_126 (z := (2 : Int32)) rfl ?_
        refine OG.iload X74 at_127 rfl ?_
        refine OG.iloadN X74 at_129 rfl ?_
        refine OG.iloadN X74 at_130 rfl ?_
        refine OG.callS X74 (hw _ (List.mem_of_getElem? (i := 46) rfl)) (hw _ (List.mem_of_getElem? (i := 47) rfl)) (by decide) (rm9 l Z a0 hw [] t71 (2 : Int32) n i2 i3 f69 h70 n0 4 A_t71 (fun _ => by decide)) (hw _ (List.mem_of_getElem? (i := 49) rfl)) (hw _ (List.mem_of_getElem? (i := 48) rfl)) (by decide) (W := 0) (by decide) rfl (argsL := [(.ref t71), (.int (2 : Int32)), (.int n), (.int i2), (.int i3)]) pd_6 rfl at_131 rfl (Nat.le_of_eq rfl) (by decide) (by decide) ?_
        rintro _ T76 h77 X76 ⟨rfl, eh77⟩
        rw [eh77] at X76
        show OG p e below s n0 room_1.cells room_1.slots (Q0 Z i0 i1 i2 i3 i4  h0) (T76.setTop (mkF m 134 #[.val (.int i0), .val (.int i1), .val (.int i2), .val (.int i3), .val (.int i4), .val (.int n), .val (.ref b4), .val (.int i3), .val (.ref t71)] [(.int (F9 (2 : Int32) n i2 i3 f69))]))
        refine OG.if_eq_f X76 at_134 (own_chk (fun _ => by rw [hnk]; exact ct69_2.trans (if_neg (by decide)).symm)) ?_
        refine OG.aload X76 at_137 rfl rfl ?_
        refine OG.iconst X76 at_139 (z := (3 : Int32)) rfl ?_
        refine OG.iload X76 at_140 rfl ?_
        refine OG.iload X76 at_142 rfl ?_
        refine OG.iloadN X76 at_144 rfl ?_
        refine OG.callS X76 (hw _ (List.mem_of_getElem? (i := 46) rfl)) (hw _ (List.mem_of_getElem? (i := 47) rfl)) (by decide) (rm9 l Z a0 hw [] t71 (3 : Int32) n i4 i3 f69 h70 n0 4 A_t71 (fun _ => by decide)) (hw _ (List.mem_of_getElem? (i := 49) rfl)) (hw _ (List.mem_of_getElem? (i := 48) rfl)) (by decide) (W := 0) (by decide) rfl (argsL := [(.ref t71), (.int (3 : Int32)), (.int n), (.int i4), (.int i3)]) pd_6 rfl at_145 rfl (Nat.le_of_eq rfl) (by decide) (by decide) ?_
        rintro _ T78 h79 X78 ⟨rfl, eh79⟩
        rw [eh79] at X78
        show OG p e below s n0 room_1.cells room_1.slots (Q0 Z i0 i1 i2 i3 i4  h0) (T78.setTop (mkF m 148 #[.val (.int i0), .val (.int i1), .val (.int i2), .val (.int i3), .val (.int i4), .val (.int n), .val (.ref b4), .val (.int i3), .val (.ref t71)] [(.int (F9 (3 : Int32) n i4 i3 f69))]))
        refine OG.if_eq_f X78 at_148 (own_chk (fun _ => by rw [hnk]; exact ct69_3.trans (if_pos (by decide)).symm)) ?_
        refine OG.iconst X78 at_151 (z := (1 : Int32)) rfl ?_
        refine OG.goto X78 at_152 (pc' := 156) (by decide) ?_
        exact OG.retN X78 (t := .boolean) at_156 (by simp) (by decide) (by decide) rfl
set_option maxRecDepth 65536 in
set_option maxHeartbeats 40000000 in
theorem comes_1 {Post : Tables → Env → Array Value → State → Outcome → State → Prop} (hpost : ∀ tb e args s v u, (limb_1_1.after args s (.returned v) u = true ∧ limb_1_2.after args s (.returned v) u = true ∧ True) → FrameEnd s (.returned v) u (Jvm.fieldLocs frame_1_writes args s ++ Jvm.arrayLocs frame_1_arrays args s ++ Jvm.staticLocs frame_1_statics s) 16 128 → Post tb e args s (.returned v) u) :
    ArmFor flags0 classFile x code maxLocals ret World_1 tables_1 room_1 Calls_1 rest_1 Pre_1 Post := by
  intro l hfl _ _ p e ha hc hk s m args below hf hA hF happ hP
  obtain ⟨hcalls, hrest, hpre⟩ := hP
  obtain ⟨-, -, -, hnamed, -, -, -, hat⟩ := (Spec.applies_iff hf).mp happ
  obtain ⟨hg, hn⟩ := and_e (Cond.before_iff.mp (show (Jvm.Cond.and given_1 narrow_1).before args s = true from hpre))
  obtain ⟨g1, g2⟩ := and_e hg
  obtain ⟨g3, g4⟩ := and_e g2
  obtain ⟨g5, g6⟩ := and_e g4
  obtain ⟨g7, g8⟩ := and_e g6
  obtain ⟨g9, g10⟩ := and_e g8
  obtain ⟨w0, w1, w2, w3, w4, rfl⟩ : ∃ w0 w1 w2 w3 w4 : Value, args = #[w0, w1, w2, w3, w4] := by
    have hs : args.size = 5 := by simpa [Cond.value, given_1] using g1
    obtain ⟨L⟩ := args
    match L, hs with
    | [w0, w1, w2, w3, w4], _ => exact ⟨w0, w1, w2, w3, w4, rfl⟩
  have hw := fun d (hd : d ∈ tables_1) => atoms_spec (ws := Jvm.Cond.code x code maxLocals ret :: tables_1) hat d (List.mem_cons_of_mem _ hd)
  have hfit : Fit s := fun {y c} hc i hi => by
    obtain ⟨ha, rfl⟩ := Array.getElem?_eq_some_iff.mp hc
    have q := List.all_eq_true.mp ((Array.all_eq_true_iff_forall_mem.mp hF) _ (Array.getElem_mem ha)) i (List.mem_range.mpr hi)
    simpa [Array.getElem?_eq_getElem hi] using q
  obtain ⟨i0, ei0⟩ := is_v g3
  obtain rfl : w0 = (.int i0) := Option.some.inj ei0
  obtain ⟨i1, ei1⟩ := is_v g5
  obtain rfl : w1 = (.int i1) := Option.some.inj ei1
  obtain ⟨i2, ei2⟩ := is_v g7
  obtain rfl : w2 = (.int i2) := Option.some.inj ei2
  obtain ⟨i3, ei3⟩ := is_v g9
  obtain rfl : w3 = (.int i3) := Option.some.inj ei3
  obtain ⟨i4, ei4⟩ := is_v g10
  obtain rfl : w4 = (.int i4) := Option.some.inj ei4
  obtain ⟨n, o, h1, h2, h3, _, L, rfl, ⟨rfl, N⟩, hq⟩ := rm0 l s _ hw tables_1 i0 i1 i2 i3 i4 s.heap s.heap.size (Nat.le_refl _)  p e ha hc hk s m _ below hf ((Spec.applies_iff_loose hf).mp happ).1 ⟨rfl, State.Warmed39.refl s, rfl⟩ trivial
  refine ⟨n, _, h1, h2, h3, hpost _ _ _ _ _ _ ⟨Cond.after_iff.mpr rfl, Cond.after_iff.mpr (eq_i res_at (Term.int_eval (1)) rfl), trivial⟩ ⟨hq.1, hq.2.1, (hq.2.2.sift fun y hy => Or.inr (N y hy)).mono (by decide) (by decide)⟩⟩
theorem main_1_1 : Claimed_1_1 := comes_1 fun _ _ _ _ _ _ h hF => ⟨h.1, hF⟩
theorem main_1_2 : Claimed_1_2 := comes_1 fun _ _ _ _ _ _ h hF => ⟨h.2.1, hF⟩
end Jvm.Pilot.@@N@@
namespace Jvm.Pilot.@@N@@
open Jvm Jvm.ClassFile Sem Op Lib Jvm.Free Jvm.Stand Jvm.Pilot.@@N@@.Jvm.D
/-! MADE BY PROGRAM (witnessworld.py) out of the Statement's table words and the real class files: 12 classes; the members and pool entries that the words name. The judged class is class 1, her method 1. -/
namespace start1
open Jvm.ClassFile
def u (s : String) : CpInfo := .utf8 (stringToUtf16 s)
/-- a pool by its gaps: so many unusable entries, then the entry; so many at the end -/
def gap : Nat → List CpInfo → List CpInfo
  | 0, r => r
  | n + 1, r => .unusable :: gap n r
def poolList (es : List (Nat × CpInfo)) (last : Nat) : List CpInfo := es.foldr (fun e r => gap e.1 (e.2 :: r)) (gap last [])
def pool (es : List (Nat × CpInfo)) (last : Nat) : Array CpInfo := ⟨poolList es last⟩
def fileOf (pool : Array CpInfo) (this : Nat) (attrs : Array Attribute := #[]) (ms : Array MethodInfo := #[]) (fl : Nat := 33) (sup : Nat := 0) (ifs : Array Nat := #[]) (fds : Array FieldInfo := #[]) : ClassFile where
  minorVersion := 0
  majorVersion := 65
  constantPool := pool
  accessFlags := fl
  thisClass := this
  superClass := sup
  interfaces := ifs
  fields := fds
  methods := ms
  attributes := attrs
def plain (name : String) (sup : Option ClassId) : Class where
  name := name
  kind := .ordinary
  loader := none
  accessFlags := 33
  super := sup
  interfaces := #[]
  cf := none
  fields := #[]
  methods := #[]
  instanceTypes := #[]
  staticTypes := #[]
  resolved := #[]
  callSites := []
  init := .initialized
  statics := none
  mirror := none

def pool0 : Array CpInfo := pool [(5, u "<init>"), (0, u "()V"), (1, .class_ 10), (1, u "java/lang/Object")] 113

def k0c0 : Code := { maxStack := 0, maxLocals := 1, code := object_method_1_code, exceptionTable := #[], attributes := #[] }
def k0m0 : Method := { name := "<init>", desc := "()V", sig := { parameters := [], returnType := none }, accessFlags := 1, code := some k0c0 }
/-- java/lang/Object -/
def k0 : Class := { plain "java/lang/Object" none with
  accessFlags := 33
  interfaces := #[]
  cf := some (fileOf pool0 8 #[] #[{ accessFlags := 1, nameIndex := 5, descriptorIndex := 6, attributes := #[] }] 33 0 #[] #[])
  fields := #[]
  methods := #[k0m0]
  instanceTypes := #[]
  staticTypes := #[]
  resolved := Array.replicate 124 none
  statics := none }

def pool1 : Array CpInfo := pool [(2, .class_ 4), (0, .nameAndType 5 6), (0, u "java/lang/Object"), (0, u "<init>"), (0, u "()V"), (0, .class_ 8), (0, u "com/example/meerkat/meerkat/Numbers"), (0, .methodref 7 3), (0, .methodref 7 11), (0, .nameAndType 12 13), (0, u "add"), (0, u "(I)V"), (0, .methodref 7 15), (0, .nameAndType 16 13), (0, u "replaceLast"), (0, .methodref 7 18), (0, .nameAndType 19 20), (0, u "last"), (0, u "()I"), (0, .methodref 7 22), (0, .nameAndType 23 24), (0, u "trimmed"), (0, u "()[I"), (0, .methodref 26 27), (0, .class_ 28), (0, .nameAndType 29 30), (0, u "com/example/meerkat/meerkat/NumbersReplaceLastPinLaw"), (0, u "check"), (0, u "([IIIII)Z"), (2, u "law"), (0, u "(IIIII)Z")] 5

def k1m0 : Method := { name := "<init>", desc := "()V", sig := { parameters := [], returnType := none }, accessFlags := 1, code := none }
def k1c1 : Code := { maxStack := 5, maxLocals := 9, code := code, exceptionTable := #[], attributes := #[] }
def k1m1 : Method := { name := "law", desc := "(IIIII)Z", sig := { parameters := [.int, .int, .int, .int, .int], returnType := some .boolean }, accessFlags := 9, code := some k1c1 }
def k1c2 : Code := { maxStack := 3, maxLocals := 6, code := method_3_code, exceptionTable := #[], attributes := #[] }
def k1m2 : Method := { name := "check", desc := "([IIIII)Z", sig := { parameters := [(.array .int), .int, .int, .int, .int], returnType := some .boolean }, accessFlags := 10, code := some k1c2 }
/-- com/example/meerkat/meerkat/NumbersReplaceLastPinLaw -/
def k1 : Class := { plain "com/example/meerkat/meerkat/NumbersReplaceLastPinLaw" (some 0) with
  accessFlags := 49
  interfaces := #[]
  cf := some (fileOf pool1 26 #[] #[{ accessFlags := 1, nameIndex := 5, descriptorIndex := 6, attributes := #[] }, { accessFlags := 9, nameIndex := 33, descriptorIndex := 34, attributes := #[] }, { accessFlags := 10, nameIndex := 29, descriptorIndex := 30, attributes := #[] }] 49 2 #[] #[])
  fields := #[]
  methods := #[k1m0, k1m1, k1m2]
  instanceTypes := #[]
  staticTypes := #[]
  resolved := Array.replicate 40 none
  statics := none }

def pool2 : Array CpInfo := pool [(1, .methodref 2 3), (0, .class_ 4), (0, .nameAndType 5 6), (0, u "java/lang/Object"), (0, u "<init>"), (0, u "()V"), (0, .fieldref 8 9), (0, .class_ 10), (0, .nameAndType 11 12), (0, u "com/example/meerkat/meerkat/Numbers"), (0, u "numbers"), (0, u "[I"), (0, .fieldref 8 14), (0, .nameAndType 15 16), (0, u "size"), (0, u "I"), (13, .methodref 31 32), (0, .class_ 33), (0, .nameAndType 34 35), (0, u "java/util/Arrays"), (0, u "copyOf"), (0, u "([II)[I"), (2, u "()I"), (4, u "last"), (0, u "replaceLast"), (0, u "(I)V"), (0, u "add"), (0, u "trimmed"), (0, u "()[I")] 18

def k2c0 : Code := { maxStack := 2, maxLocals := 1, code := prog_20_method_1_code, exceptionTable := #[], attributes := #[] }
def k2m0 : Method := { name := "<init>", desc := "()V", sig := { parameters := [], returnType := none }, accessFlags := 0, code := some k2c0 }
def k2c1 : Code := { maxStack := 3, maxLocals := 1, code := prog_20_method_6_code, exceptionTable := #[], attributes := #[] }
def k2m1 : Method := { name := "last", desc := "()I", sig := { parameters := [], returnType := some .int }, accessFlags := 0, code := some k2c1 }
def k2c2 : Code := { maxStack := 3, maxLocals := 2, code := prog_20_method_7_code, exceptionTable := #[], attributes := #[] }
def k2m2 : Method := { name := "replaceLast", desc := "(I)V", sig := { parameters := [.int], returnType := none }, accessFlags := 0, code := some k2c2 }
def k2c3 : Code := { maxStack := 5, maxLocals := 2, code := prog_20_method_8_code, exceptionTable := #[], attributes := #[] }
def k2m3 : Method := { name := "add", desc := "(I)V", sig := { parameters := [.int], returnType := none }, accessFlags := 0, code := some k2c3 }
def k2c4 : Code := { maxStack := 2, maxLocals := 1, code := prog_20_method_9_code, exceptionTable := #[], attributes := #[] }
def k2m4 : Method := { name := "trimmed", desc := "()[I", sig := { parameters := [], returnType := some (.array .int) }, accessFlags := 0, code := some k2c4 }
/-- com/example/meerkat/meerkat/Numbers -/
def k2 : Class := { plain "com/example/meerkat/meerkat/Numbers" (some 0) with
  accessFlags := 48
  interfaces := #[]
  cf := some (fileOf pool2 8 #[] #[{ accessFlags := 0, nameIndex := 5, descriptorIndex := 6, attributes := #[] }, { accessFlags := 0, nameIndex := 43, descriptorIndex := 38, attributes := #[] }, { accessFlags := 0, nameIndex := 44, descriptorIndex := 45, attributes := #[] }, { accessFlags := 0, nameIndex := 46, descriptorIndex := 45, attributes := #[] }, { accessFlags := 0, nameIndex := 47, descriptorIndex := 48, attributes := #[] }] 48 2 #[] #[{ accessFlags := 2, nameIndex := 11, descriptorIndex := 12, attributes := #[] }, { accessFlags := 2, nameIndex := 15, descriptorIndex := 16, attributes := #[] }])
  fields := #[{ name := "numbers", type := (.array .int), accessFlags := 2, slot := 0, constantValue := 0 }, { name := "size", type := .int, accessFlags := 2, slot := 1, constantValue := 0 }]
  methods := #[k2m0, k2m1, k2m2, k2m3, k2m4]
  instanceTypes := #[(.array .int), .int]
  staticTypes := #[]
  resolved := Array.replicate 67 none
  statics := none }

def pool3 : Array CpInfo := pool [(2, .class_ 4), (1, u "java/lang/Object"), (0, u "<init>"), (0, u "()V"), (7, .class_ 16), (1, u "java/util/Arrays"), (57, .class_ 76), (1, u "java/util/Arrays$NaturalOrder"), (36, .class_ 115), (1, u "java/util/Arrays$LegacyMergeSort"), (1, u "Z"), (32, .methodref 151 152), (0, .class_ 153), (0, .nameAndType 154 155), (0, u "java/lang/System"), (0, u "arraycopy"), (0, u "(Ljava/lang/Object;ILjava/lang/Object;II)V"), (146, u "copyOf"), (1, .methodref 305 306), (0, .class_ 307), (0, .nameAndType 308 309), (0, u "java/lang/Math"), (0, u "min"), (0, u "(II)I"), (65, .class_ 376), (0, u "java/util/Arrays$ArrayList"), (68, u "$assertionsDisabled"), (269, u "MIN_ARRAY_SORT_GRAN"), (0, u "I"), (2, u "INSERTIONSORT_THRESHOLD"), (151, u "([II)[I"), (103, .class_ 976), (0, u "java/util/Arrays$ArrayItr")] 52

def k3m0 : Method := { name := "<init>", desc := "()V", sig := { parameters := [], returnType := none }, accessFlags := 2, code := none }
def k3c1 : Code := { maxStack := 6, maxLocals := 3, code := jdk_65_method_123_code, exceptionTable := #[], attributes := #[] }
def k3m1 : Method := { name := "copyOf", desc := "([II)[I", sig := { parameters := [(.array .int), .int], returnType := some (.array .int) }, accessFlags := 9, code := some k3c1 }
/-- java/util/Arrays -/
def k3 : Class := { plain "java/util/Arrays" (some 0) with
  accessFlags := 49
  interfaces := #[]
  cf := some (fileOf pool3 14 #[.nestMembers #[975, 375, 113, 74]] #[{ accessFlags := 2, nameIndex := 5, descriptorIndex := 6, attributes := #[] }, { accessFlags := 9, nameIndex := 302, descriptorIndex := 871, attributes := #[] }] 49 2 #[] #[{ accessFlags := 26, nameIndex := 715, descriptorIndex := 716, attributes := #[] }, { accessFlags := 26, nameIndex := 719, descriptorIndex := 716, attributes := #[] }, { accessFlags := 4120, nameIndex := 445, descriptorIndex := 117, attributes := #[] }])
  fields := #[{ name := "MIN_ARRAY_SORT_GRAN", type := .int, accessFlags := 26, slot := 0, constantValue := 0 }, { name := "INSERTIONSORT_THRESHOLD", type := .int, accessFlags := 26, slot := 1, constantValue := 0 }, { name := "$assertionsDisabled", type := .boolean, accessFlags := 4120, slot := 2, constantValue := 0 }]
  methods := #[k3m0, k3m1]
  instanceTypes := #[]
  staticTypes := #[.int, .int, .boolean]
  resolved := Array.replicate 1029 none
  statics := none }

def pool4 : Array CpInfo := pool [(1, .class_ 2), (0, u "java/lang/Math"), (1, .class_ 6), (1, u "java/lang/Object"), (0, u "<init>"), (0, u "()V"), (89, .class_ 100), (1, u "java/lang/Math$RandomNumberGeneratorHolder"), (71, u "negativeZeroFloatBits"), (0, u "J"), (2, u "negativeZeroDoubleBits"), (24, u "min"), (43, u "$assertionsDisabled"), (0, u "Z"), (88, u "(II)I"), (2, u "twoToTheDoubleScaleDown"), (0, u "D"), (4, u "twoToTheDoubleScaleUp"), (9, u "E"), (3, u "PI"), (2, u "TAU"), (2, u "DEGREES_TO_RADIANS"), (0, u "RADIANS_TO_DEGREES")] 94

def k4m0 : Method := { name := "<init>", desc := "()V", sig := { parameters := [], returnType := none }, accessFlags := 2, code := none }
def k4c1 : Code := { maxStack := 2, maxLocals := 2, code := jdk_29_method_69_code, exceptionTable := #[], attributes := #[] }
def k4m1 : Method := { name := "min", desc := "(II)I", sig := { parameters := [.int, .int], returnType := some .int }, accessFlags := 9, code := some k4c1 }
/-- java/lang/Math -/
def k4 : Class := { plain "java/lang/Math" (some 0) with
  accessFlags := 49
  interfaces := #[]
  cf := some (fileOf pool4 1 #[.nestMembers #[98]] #[{ accessFlags := 2, nameIndex := 7, descriptorIndex := 8, attributes := #[] }, { accessFlags := 9, nameIndex := 201, descriptorIndex := 335, attributes := #[] }] 49 4 #[] #[{ accessFlags := 25, nameIndex := 354, descriptorIndex := 339, attributes := #[] }, { accessFlags := 25, nameIndex := 358, descriptorIndex := 339, attributes := #[] }, { accessFlags := 25, nameIndex := 361, descriptorIndex := 339, attributes := #[] }, { accessFlags := 26, nameIndex := 364, descriptorIndex := 339, attributes := #[] }, { accessFlags := 26, nameIndex := 365, descriptorIndex := 339, attributes := #[] }, { accessFlags := 26, nameIndex := 172, descriptorIndex := 173, attributes := #[] }, { accessFlags := 26, nameIndex := 176, descriptorIndex := 173, attributes := #[] }, { accessFlags := 8, nameIndex := 344, descriptorIndex := 339, attributes := #[] }, { accessFlags := 8, nameIndex := 338, descriptorIndex := 339, attributes := #[] }, { accessFlags := 4120, nameIndex := 245, descriptorIndex := 246, attributes := #[] }])
  fields := #[{ name := "E", type := .double, accessFlags := 25, slot := 0, constantValue := 0 }, { name := "PI", type := .double, accessFlags := 25, slot := 1, constantValue := 0 }, { name := "TAU", type := .double, accessFlags := 25, slot := 2, constantValue := 0 }, { name := "DEGREES_TO_RADIANS", type := .double, accessFlags := 26, slot := 3, constantValue := 0 }, { name := "RADIANS_TO_DEGREES", type := .double, accessFlags := 26, slot := 4, constantValue := 0 }, { name := "negativeZeroFloatBits", type := .long, accessFlags := 26, slot := 5, constantValue := 0 }, { name := "negativeZeroDoubleBits", type := .long, accessFlags := 26, slot := 6, constantValue := 0 }, { name := "twoToTheDoubleScaleUp", type := .double, accessFlags := 8, slot := 7, constantValue := 0 }, { name := "twoToTheDoubleScaleDown", type := .double, accessFlags := 8, slot := 8, constantValue := 0 }, { name := "$assertionsDisabled", type := .boolean, accessFlags := 4120, slot := 9, constantValue := 0 }]
  methods := #[k4m0, k4m1]
  instanceTypes := #[]
  staticTypes := #[.double, .double, .double, .double, .double, .long, .long, .double, .double, .boolean]
  resolved := Array.replicate 460 none
  statics := none }

def pool5 : Array CpInfo := pool [(2, .class_ 4), (1, u "java/lang/Object"), (0, u "<init>"), (0, u "()V"), (1, .class_ 10), (1, u "java/lang/System"), (0, u "allowSecurityManager"), (0, u "I"), (16, u "cons"), (0, u "Ljava/io/Console;"), (77, .class_ 110), (1, u "java/lang/System$CallersHolder"), (43, u "initialErrStream"), (0, u "Ljava/io/PrintStream;"), (19, u "security"), (0, u "Ljava/lang/SecurityManager;"), (31, .class_ 209), (0, u "java/lang/System$1"), (7, u "props"), (0, u "Ljava/util/Properties;"), (2, u "lineSeparator"), (0, u "Ljava/lang/String;"), (96, .class_ 321), (1, u "java/lang/System$LoggerFinder"), (5, .class_ 328), (0, u "java/lang/System$Logger"), (67, u "err"), (2, u "out"), (91, u "notSupportedJnuEncoding"), (15, u "in"), (17, u "initialIn"), (0, u "Ljava/io/InputStream;"), (35, u "bootLayer"), (0, u "Ljava/lang/ModuleLayer;"), (99, .class_ 664), (0, u "java/lang/System$2"), (9, u "NEVER"), (2, u "MAYBE"), (49, u "arraycopy"), (0, u "(Ljava/lang/Object;ILjava/lang/Object;II)V"), (72, .class_ 802), (0, u "java/lang/System$Logger$Level")] 31

def k5m0 : Method := { name := "<init>", desc := "()V", sig := { parameters := [], returnType := none }, accessFlags := 2, code := none }
def k5m1 : Method := { name := "arraycopy", desc := "(Ljava/lang/Object;ILjava/lang/Object;II)V", sig := { parameters := [(.object "java/lang/Object"), .int, (.object "java/lang/Object"), .int, .int], returnType := none }, accessFlags := 265, code := none }
/-- java/lang/System -/
def k5 : Class := { plain "java/lang/System" (some 0) with
  accessFlags := 49
  interfaces := #[]
  cf := some (fileOf pool5 8 #[.nestMembers #[319, 327, 801, 108, 663, 208]] #[{ accessFlags := 2, nameIndex := 5, descriptorIndex := 6, attributes := #[] }, { accessFlags := 265, nameIndex := 727, descriptorIndex := 728, attributes := #[] }] 49 2 #[] #[{ accessFlags := 25, nameIndex := 507, descriptorIndex := 526, attributes := #[] }, { accessFlags := 25, nameIndex := 399, descriptorIndex := 155, attributes := #[] }, { accessFlags := 25, nameIndex := 396, descriptorIndex := 155, attributes := #[] }, { accessFlags := 10, nameIndex := 525, descriptorIndex := 526, attributes := #[] }, { accessFlags := 26, nameIndex := 674, descriptorIndex := 12, attributes := #[] }, { accessFlags := 26, nameIndex := 677, descriptorIndex := 12, attributes := #[] }, { accessFlags := 10, nameIndex := 11, descriptorIndex := 12, attributes := #[] }, { accessFlags := 74, nameIndex := 175, descriptorIndex := 176, attributes := #[] }, { accessFlags := 10, nameIndex := 491, descriptorIndex := 222, attributes := #[] }, { accessFlags := 74, nameIndex := 29, descriptorIndex := 30, attributes := #[] }, { accessFlags := 74, nameIndex := 154, descriptorIndex := 155, attributes := #[] }, { accessFlags := 10, nameIndex := 217, descriptorIndex := 218, attributes := #[] }, { accessFlags := 10, nameIndex := 221, descriptorIndex := 222, attributes := #[] }, { accessFlags := 8, nameIndex := 562, descriptorIndex := 563, attributes := #[] }])
  fields := #[{ name := "in", type := (.object "java/io/InputStream"), accessFlags := 25, slot := 0, constantValue := 0 }, { name := "out", type := (.object "java/io/PrintStream"), accessFlags := 25, slot := 1, constantValue := 0 }, { name := "err", type := (.object "java/io/PrintStream"), accessFlags := 25, slot := 2, constantValue := 0 }, { name := "initialIn", type := (.object "java/io/InputStream"), accessFlags := 10, slot := 3, constantValue := 0 }, { name := "NEVER", type := .int, accessFlags := 26, slot := 4, constantValue := 0 }, { name := "MAYBE", type := .int, accessFlags := 26, slot := 5, constantValue := 0 }, { name := "allowSecurityManager", type := .int, accessFlags := 10, slot := 6, constantValue := 0 }, { name := "security", type := (.object "java/lang/SecurityManager"), accessFlags := 74, slot := 7, constantValue := 0 }, { name := "notSupportedJnuEncoding", type := (.object "java/lang/String"), accessFlags := 10, slot := 8, constantValue := 0 }, { name := "cons", type := (.object "java/io/Console"), accessFlags := 74, slot := 9, constantValue := 0 }, { name := "initialErrStream", type := (.object "java/io/PrintStream"), accessFlags := 74, slot := 10, constantValue := 0 }, { name := "props", type := (.object "java/util/Properties"), accessFlags := 10, slot := 11, constantValue := 0 }, { name := "lineSeparator", type := (.object "java/lang/String"), accessFlags := 10, slot := 12, constantValue := 0 }, { name := "bootLayer", type := (.object "java/lang/ModuleLayer"), accessFlags := 8, slot := 13, constantValue := 0 }]
  methods := #[k5m0, k5m1]
  instanceTypes := #[]
  staticTypes := #[(.object "java/io/InputStream"), (.object "java/io/PrintStream"), (.object "java/io/PrintStream"), (.object "java/io/InputStream"), .int, .int, .int, (.object "java/lang/SecurityManager"), (.object "java/lang/String"), (.object "java/io/Console"), (.object "java/io/PrintStream"), (.object "java/util/Properties"), (.object "java/lang/String"), (.object "java/lang/ModuleLayer")]
  resolved := Array.replicate 834 none
  statics := none }

def pool6 : Array CpInfo := pool [(1, u "java/lang/Cloneable"), (0, .class_ 1), (0, u "java/lang/Object"), (0, .class_ 3)] 3

/-- java/lang/Cloneable -/
def k6 : Class := { plain "java/lang/Cloneable" (some 0) with
  accessFlags := 1537
  interfaces := #[]
  cf := some (fileOf pool6 2 #[] #[] 1537 4 #[] #[])
  fields := #[]
  methods := #[]
  instanceTypes := #[]
  staticTypes := #[]
  resolved := Array.replicate 8 none
  statics := none }

def pool7 : Array CpInfo := pool [(1, u "java/io/Serializable"), (0, .class_ 1), (0, u "java/lang/Object"), (0, .class_ 3)] 3

/-- java/io/Serializable -/
def k7 : Class := { plain "java/io/Serializable" (some 0) with
  accessFlags := 1537
  interfaces := #[]
  cf := some (fileOf pool7 2 #[] #[] 1537 4 #[] #[])
  fields := #[]
  methods := #[]
  instanceTypes := #[]
  staticTypes := #[]
  resolved := Array.replicate 8 none
  statics := none }

/-- the primitive byte -/
def k8 : Class := { plain "byte" none with kind := .primitive 'B', accessFlags := 0x411 }
/-- [B -/
def k9 : Class := { plain "[B" (some 0) with kind := .array 8 .byte, interfaces := #[6, 7], accessFlags := 1041 }

/-- the primitive int -/
def k10 : Class := { plain "int" none with kind := .primitive 'I', accessFlags := 0x411 }
/-- [I -/
def k11 : Class := { plain "[I" (some 0) with kind := .array 10 .int, interfaces := #[6, 7], accessFlags := 1041 }

def heap : Heap := #[]
def classes : Array Class := #[k0, k1, k2, k3, k4, k5, k6, k7, k8, k9, k10, k11]
def interned : List (Array UInt16 × Addr) := []
def slotsUsed : Nat := 0
def theMethod : MethodId := ⟨1, 1⟩
def args0 : Array Value := #[.int 5, .int 300, .int 7, .int 8, .int 9]
def aboutOver (below : List Frame) : State where
  vm := { classes := classes, interned := interned.toArray }
  heap := heap
  slotsUsed := slotsUsed
  threads := #[{ frames := .invoking theMethod args0 :: below }]
def below0 : List Frame := [.native { method := ⟨0, 0⟩, args := #[] }]
def about1 : State := aboutOver below0
def p0 : Program := .bare "" "" ""
def e0 : Env := launch0.env 0 0 0
theorem w_frames : about1.frames = Frame.invoking theMethod args0 :: below0 := rfl
set_option maxRecDepth 65536 in
theorem w_args : argsFit about1.vm theMethod args0 = true := by decide +kernel
set_option maxRecDepth 65536 in
theorem w_heap : heapFits about1 = true := by decide +kernel
set_option maxRecDepth 65536 in
theorem w_runnable : about1.curStatus? = some .runnable := by decide +kernel
set_option maxRecDepth 65536 in
theorem w_alone : about1.alone = true := by decide +kernel
set_option maxRecDepth 65536 in
theorem w_named : about1.methodNamed? x = some theMethod := by decide +kernel
set_option maxRecDepth 65536 in
theorem w_hears : about1.hears theMethod below0 = true := by decide +kernel
set_option maxRecDepth 65536 in
theorem w_ripe : about1.ripe theMethod args0 below0 = true := by decide +kernel
theorem w_running : about1.status = .running := rfl
set_option maxRecDepth 65536 in
theorem w_room : about1.hasRoom e0.platform room_1 = true :=
  launch0.hasRoom_least _ room_1 (by decide +kernel) (by decide +kernel) (by decide +kernel) (by decide +kernel) (by decide +kernel) (by decide +kernel)
theorem allAtoms_all (ts : List Jvm.Cond) (a : Array Jvm.Value) (st : Jvm.State) : (allAtoms ts).before a st = ts.all (fun c => c.before a st) := by
  induction ts with
  | nil => rfl
  | cons c t ih =>
    show (Jvm.Cond.and c (allAtoms t)).before a st = _
    rw [Jvm.Cond.before_and, ih, List.all_cons]
def words1 : List Jvm.Cond := Jvm.Cond.code x code maxLocals ret :: tables_1
/-- a 'code' word, met by the world's own term for the bytes: nothing is compared byte by byte -/
theorem code_word {y : MethodName} {bytes : ByteArray} {mx : Nat} {rt : Option FieldType} {a : Array Value} {s : State} {m : MethodId} {meth : Method} {c : Code} (h1 : s.methodNamed? y = some m) (h2 : s.vm.method? m = some meth) (h3 : meth.code = some c) (h4 : c.code = bytes)
    (h5 : (c.maxLocals == mx && c.exceptionTable.isEmpty && decide (c.maxStack ≤ mostOperands) && decide (meth.sig.returnType = rt) && !meth.locks && decide (parseMethodDescriptor y.desc = some meth.sig)) = true) : (Jvm.Cond.code y bytes mx rt).before a s = true := by
  simp only [Bool.and_eq_true, beq_iff_eq, Bool.not_eq_true', decide_eq_true_eq] at h5
  obtain ⟨⟨⟨⟨⟨g1, g2⟩, g3⟩, g4⟩, g5⟩, g6⟩ := h5
  simp [Cond.before, Cond.holds, Cond.value, h1, h2, h3, h4, g1, g2, g3, g4, g5, g6]
def isCode : Jvm.Cond → Bool
  | .code _ _ _ _ => true
  | _ => false
theorem all_split {L : List Jvm.Cond} {P : Jvm.Cond → Bool} (h1 : L.all (fun c => isCode c || P c) = true) (h2 : ∀ c ∈ L.filter isCode, P c = true) : L.all P = true := by
  refine List.all_eq_true.mpr fun c hc => ?_
  have h := List.all_eq_true.mp h1 c hc
  rcases Bool.eq_false_or_eq_true (isCode c) with hi | hi
  · exact h2 c (List.mem_filter.mpr ⟨hc, hi⟩)
  · simpa [hi] using h
set_option maxRecDepth 65536 in
theorem w_c0 : (Jvm.Cond.code x code maxLocals ret).before args0 about1 = true := code_word (m := ⟨1, 1⟩) (meth := k1m1) (c := k1c1) (by decide +kernel) rfl rfl rfl (by decide +kernel)
set_option maxRecDepth 65536 in
theorem w_c1 : (Jvm.Cond.code ({ cls := "com/example/meerkat/meerkat/Numbers", name := "<init>", desc := "()V" } : Jvm.MethodName) prog_20_method_1_code (1 : Nat) (Option.none : Option Jvm.ClassFile.FieldType)).before args0 about1 = true := code_word (m := ⟨2, 0⟩) (meth := k2m0) (c := k2c0) (by decide +kernel) rfl rfl rfl (by decide +kernel)
set_option maxRecDepth 65536 in
theorem w_c2 : (Jvm.Cond.code ({ cls := "java/lang/Object", name := "<init>", desc := "()V" } : Jvm.MethodName) object_method_1_code (1 : Nat) (Option.none : Option Jvm.ClassFile.FieldType)).before args0 about1 = true := code_word (m := ⟨0, 0⟩) (meth := k0m0) (c := k0c0) (by decide +kernel) rfl rfl rfl (by decide +kernel)
set_option maxRecDepth 65536 in
theorem w_c3 : (Jvm.Cond.code ({ cls := "com/example/meerkat/meerkat/Numbers", name := "add", desc := "(I)V" } : Jvm.MethodName) prog_20_method_8_code (2 : Nat) (Option.none : Option Jvm.ClassFile.FieldType)).before args0 about1 = true := code_word (m := ⟨2, 3⟩) (meth := k2m3) (c := k2c3) (by decide +kernel) rfl rfl rfl (by decide +kernel)
set_option maxRecDepth 65536 in
theorem w_c4 : (Jvm.Cond.code ({ cls := "com/example/meerkat/meerkat/Numbers", name := "replaceLast", desc := "(I)V" } : Jvm.MethodName) prog_20_method_7_code (2 : Nat) (Option.none : Option Jvm.ClassFile.FieldType)).before args0 about1 = true := code_word (m := ⟨2, 2⟩) (meth := k2m2) (c := k2c2) (by decide +kernel) rfl rfl rfl (by decide +kernel)
set_option maxRecDepth 65536 in
theorem w_c5 : (Jvm.Cond.code ({ cls := "com/example/meerkat/meerkat/Numbers", name := "last", desc := "()I" } : Jvm.MethodName) prog_20_method_6_code (1 : Nat) (Option.some Jvm.ClassFile.FieldType.int)).before args0 about1 = true := code_word (m := ⟨2, 1⟩) (meth := k2m1) (c := k2c1) (by decide +kernel) rfl rfl rfl (by decide +kernel)
set_option maxRecDepth 65536 in
theorem w_c6 : (Jvm.Cond.code ({ cls := "com/example/meerkat/meerkat/Numbers", name := "trimmed", desc := "()[I" } : Jvm.MethodName) prog_20_method_9_code (1 : Nat) (Option.some (Jvm.ClassFile.FieldType.array Jvm.ClassFile.FieldType.int))).before args0 about1 = true := code_word (m := ⟨2, 4⟩) (meth := k2m4) (c := k2c4) (by decide +kernel) rfl rfl rfl (by decide +kernel)
set_option maxRecDepth 65536 in
theorem w_c7 : (Jvm.Cond.code ({ cls := "java/util/Arrays", name := "copyOf", desc := "([II)[I" } : Jvm.MethodName) jdk_65_method_123_code (3 : Nat) (Option.some (Jvm.ClassFile.FieldType.array Jvm.ClassFile.FieldType.int))).before args0 about1 = true := code_word (m := ⟨3, 1⟩) (meth := k3m1) (c := k3c1) (by decide +kernel) rfl rfl rfl (by decide +kernel)
set_option maxRecDepth 65536 in
theorem w_c8 : (Jvm.Cond.code ({ cls := "java/lang/Math", name := "min", desc := "(II)I" } : Jvm.MethodName) jdk_29_method_69_code (2 : Nat) (Option.some Jvm.ClassFile.FieldType.int)).before args0 about1 = true := code_word (m := ⟨4, 1⟩) (meth := k4m1) (c := k4c1) (by decide +kernel) rfl rfl rfl (by decide +kernel)
set_option maxRecDepth 65536 in
theorem w_c9 : (Jvm.Cond.code ({ cls := "com/example/meerkat/meerkat/NumbersReplaceLastPinLaw", name := "check", desc := "([IIIII)Z" } : Jvm.MethodName) method_3_code (6 : Nat) (Option.some Jvm.ClassFile.FieldType.boolean)).before args0 about1 = true := code_word (m := ⟨1, 2⟩) (meth := k1m2) (c := k1c2) (by decide +kernel) rfl rfl rfl (by decide +kernel)
def codes1 : List Jvm.Cond := [Jvm.Cond.code x code maxLocals ret, Jvm.Cond.code ({ cls := "com/example/meerkat/meerkat/Numbers", name := "<init>", desc := "()V" } : Jvm.MethodName) prog_20_method_1_code (1 : Nat) (Option.none : Option Jvm.ClassFile.FieldType), Jvm.Cond.code ({ cls := "java/lang/Object", name := "<init>", desc := "()V" } : Jvm.MethodName) object_method_1_code (1 : Nat) (Option.none : Option Jvm.ClassFile.FieldType), Jvm.Cond.code ({ cls := "com/example/meerkat/meerkat/Numbers", name := "add", desc := "(I)V" } : Jvm.MethodName) prog_20_method_8_code (2 : Nat) (Option.none : Option Jvm.ClassFile.FieldType), Jvm.Cond.code ({ cls := "com/example/meerkat/meerkat/Numbers", name := "replaceLast", desc := "(I)V" } : Jvm.MethodName) prog_20_method_7_code (2 : Nat) (Option.none : Option Jvm.ClassFile.FieldType), Jvm.Cond.code ({ cls := "com/example/meerkat/meerkat/Numbers", name := "last", desc := "()I" } : Jvm.MethodName) prog_20_method_6_code (1 : Nat) (Option.some Jvm.ClassFile.FieldType.int), Jvm.Cond.code ({ cls := "com/example/meerkat/meerkat/Numbers", name := "trimmed", desc := "()[I" } : Jvm.MethodName) prog_20_method_9_code (1 : Nat) (Option.some (Jvm.ClassFile.FieldType.array Jvm.ClassFile.FieldType.int)), Jvm.Cond.code ({ cls := "java/util/Arrays", name := "copyOf", desc := "([II)[I" } : Jvm.MethodName) jdk_65_method_123_code (3 : Nat) (Option.some (Jvm.ClassFile.FieldType.array Jvm.ClassFile.FieldType.int)), Jvm.Cond.code ({ cls := "java/lang/Math", name := "min", desc := "(II)I" } : Jvm.MethodName) jdk_29_method_69_code (2 : Nat) (Option.some Jvm.ClassFile.FieldType.int), Jvm.Cond.code ({ cls := "com/example/meerkat/meerkat/NumbersReplaceLastPinLaw", name := "check", desc := "([IIIII)Z" } : Jvm.MethodName) method_3_code (6 : Nat) (Option.some Jvm.ClassFile.FieldType.boolean)]
set_option maxRecDepth 65536 in
theorem codes_eq : words1.filter isCode = codes1 := rfl
theorem w_codes : ∀ c ∈ words1.filter isCode, c.before args0 about1 = true := by
  rw [codes_eq]
  intro c hc
  simp only [codes1, List.mem_cons, List.not_mem_nil, or_false] at hc
  rcases hc with rfl | rfl | rfl | rfl | rfl | rfl | rfl | rfl | rfl | rfl
  · exact w_c0
  · exact w_c1
  · exact w_c2
  · exact w_c3
  · exact w_c4
  · exact w_c5
  · exact w_c6
  · exact w_c7
  · exact w_c8
  · exact w_c9
set_option maxRecDepth 65536 in
theorem w_t1 : (words1.take 24).all (fun c => isCode c || c.before args0 about1) = true := by decide +kernel
set_option maxRecDepth 65536 in
theorem w_t2 : ((words1.drop 24).take 24).all (fun c => isCode c || c.before args0 about1) = true := by decide +kernel
set_option maxRecDepth 65536 in
theorem w_t3 : ((words1.drop 24).drop 24).all (fun c => isCode c || c.before args0 about1) = true := by decide +kernel
theorem w_tables : (allAtoms (Jvm.Cond.code x code maxLocals ret :: tables_1)).before args0 about1 = true := by
  rw [allAtoms_all]
  show words1.all (fun c => c.before args0 about1) = true
  refine all_split ?_ w_codes
  rw [← List.take_append_drop 24 words1, List.all_append, w_t1, ← List.take_append_drop 24 (words1.drop 24), List.all_append, w_t2, w_t3]
  rfl
set_option maxRecDepth 65536 in
theorem w_case : (Jvm.Cond.and given_1 narrow_1).before args0 about1 = true := by decide +kernel
theorem w_applies : (headSpec (Jvm.Cond.code x code maxLocals ret :: tables_1) room_1).applies x e0.platform about1 = true :=
  (Spec.applies_iff w_frames).mpr ⟨w_running, w_runnable, w_alone, w_named, w_hears, w_ripe, w_room, w_tables⟩
theorem atStart : AtStart classFile x code maxLocals ret World_1 tables_1 room_1 Calls_1 rest_1 Pre_1 launch0 p0 e0 about1 theMethod args0 below0 :=
  ⟨lists_1, trivial, launch0.admits_env _ _ _, launch0.least_env, fairChoices_fair.cas, fairChoices_fair.clock, w_frames, w_args, w_heap, w_applies, trivial, trivial, w_case⟩
end start1
theorem witness_1 : WitnessClaimed_1 := ⟨start1.p0, start1.e0, start1.about1, start1.theMethod, start1.args0, start1.below0, start1.atStart⟩
end Jvm.Pilot.@@N@@
