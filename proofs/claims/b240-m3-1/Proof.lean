import JvmDerived
import JvmDerived.Pilot.@@N@@Statement
import JvmDerived.Pilot.@@N@@Code
set_option linter.unusedVariables false
set_option linter.unusedSimpArgs false
@@BLOCK:NumsL.lean.txt@@
namespace Jvm.Own
open Sem ClassFile Op Lib Jvm.Stand Jvm.Free Jvm.LawKit Jvm.RoadKit
/-! ## a walk, backwards: 'Wk .. g': from every state that stands so, with the frame g on top, the run ends by a return that meets Q -/
def Ends (p : Program) (e : Env) (FE : Outcome → State → List Loc → Prop) (below : List Frame) (Q : Option Value → Heap → List Loc → Prop) (T : State) (g : JFrame) : Prop :=
  ∃ s₂ o, Steps p.tables e below (T.setTop g) s₂ ∧ s₂.status = .running ∧ Ended s₂ below o ∧ ∃ v L, o = .returned v ∧ Q v s₂.heap L ∧ FE o s₂ L
def FEn (s : State) (R : Room) (o : Outcome) (t : State) (L : List Loc) : Prop := FrameEnd s o t L R.cells R.slots
def FEw (s : State) (R : Room) (o : Outcome) (t : State) (L : List Loc) : Prop := ReturnedEndW s o t L R.cells R.slots
def Wk (p : Program) (l : Launch) (e : Env) (R : Room) (s : State) (m : MethodId) (args : Array Value) (below : List Frame) (meth : Method) (c : Code) (Q : Option Value → Heap → List Loc → Prop) (FE : Outcome → State → List Loc → Prop) (h : Heap) (locs : List Loc) (cells slots : Nat) (g : JFrame) : Prop :=
  ∀ T, Stand p l e R s m args below meth c T locs cells slots → T.heap = h → Ends p e FE below Q T g
def Cx (p : Program) (s : State) (m : MethodId) (meth : Method) (c : Code) (Z : State) (code : ByteArray) (maxL : Nat) (ret : Option FieldType) (own nm : String) (R : Room) (FE : Outcome → State → List Loc → Prop) (k0 : Nat) : Prop :=
  p.tables.exec = Jvm.exec ∧ c.code = code ∧ c.maxLocals = maxL ∧ meth.sig.returnType = ret ∧ s.vm.findClass own = some m.cls ∧ Z.Warmed39 s.vm ∧ meth.name = nm ∧ meth.locks = false ∧ ∀ o t L, k0 ≤ t.heap.size → FrameEnd s o t L R.cells R.slots → FE o t L
/-- a body's contract: on these arguments, over this heap -/
def Met0 (l : Launch) (Z : State) (y : MethodName) (ws : List Jvm.Cond) (code : ByteArray) (maxL : Nat) (ret : Option FieldType) (rm : Room) (as' : Array Value) (h0 : Heap) (Q : Option Value → Heap → List Loc → Prop) : Prop :=
  MetFree l y (head1 (Jvm.Cond.code y code maxL ret :: ws) rm) (fun a U => a = as' ∧ Z.Warmed39 U.vm ∧ U.heap = h0) (fun _ _ _ _ _ => True) (fun _ U o U' => ∃ v L, o = .returned v ∧ Q v U'.heap L ∧ FrameEnd U o U' L rm.cells rm.slots)
theorem Met0.of_walk {l : Launch} {Z : State} {y : MethodName} {ws : List Jvm.Cond} {code : ByteArray} {maxL : Nat} {ret : Option FieldType} {rm : Room} {as' : Array Value} {h0 : Heap} {Q : Option Value → Heap → List Loc → Prop} (hpl : plainFor y = true) {Ls : Array Slot} (hef : ∀ m, entryFrame m as' maxL = mkF m 0 Ls [])
    (hb : ∀ p e s m below meth c, Cx p s m meth c Z code maxL ret y.cls y.name rm (FEn s rm) 0 → Wk p l e rm s m as' below meth c Q (FEn s rm) h0 [] 0 0 (mkF m 0 Ls [])) : Met0 l Z y ws code maxL ret rm as' h0 Q := by
  refine MetFree.of_bodySF hpl hisR ?_
  intro p e s m args below meth c s₁ Bd hml0 hP hK
  obtain ⟨rfl, hZ, hh⟩ := hP
  have X0 : Stand p l e rm s m args below meth c s₁ [] 0 0 := Stand.of_body Bd
  have e0 : s₁.heap = h0 := by rw [← hh, Bd.state]; rfl
  have C : Cx p s m meth c Z code maxL ret y.cls y.name rm (FEn s rm) 0 := ⟨Bd.exec, Bd.bytes, hml0, Bd.returns, findClass_of_methodNamed Bd.named, hZ, (name_of_methodNamed Bd.named Bd.method).1, BodyLoose.notSynchronized Bd, fun _ _ _ _ q => q⟩
  obtain ⟨s₂, o, st, r⟩ := hb p e s m below meth c C s₁ X0 e0
  exact ⟨s₂, o, castTop (hef m) st, r⟩
/-- .. of a body that may intern literals -/
def MetS (l : Launch) (Z : State) (y : MethodName) (ws : List Jvm.Cond) (code : ByteArray) (maxL : Nat) (ret : Option FieldType) (rm : Room) (as' : Array Value) (h0 : Heap) (Q : Option Value → Heap → List Loc → Prop) : Prop :=
  MetFree l y (head1 (Jvm.Cond.code y code maxL ret :: ws) rm) (fun a U => a = as' ∧ Z.Warmed39 U.vm ∧ U.heap = h0) (fun _ _ _ _ _ => True) (fun _ U o U' => ∃ v L, o = .returned v ∧ Q v U'.heap L ∧ ReturnedEndW U o U' L rm.cells rm.slots)
theorem MetS.of_walk {l : Launch} {Z : State} {y : MethodName} {ws : List Jvm.Cond} {code : ByteArray} {maxL : Nat} {ret : Option FieldType} {rm : Room} {as' : Array Value} {h0 : Heap} {Q : Option Value → Heap → List Loc → Prop} (hpl : plainFor y = true) {Ls : Array Slot} (hef : ∀ m, entryFrame m as' maxL = mkF m 0 Ls [])
    (hb : ∀ p e s vm0 m below meth c, Cx p (s.setVm vm0) m meth c Z code maxL ret y.cls y.name rm (FEw s rm) 0 → s.Since vm0 0 → Wk p l e rm (s.setVm vm0) m as' below meth c Q (FEw s rm) h0 [] 0 0 (mkF m 0 Ls [])) : MetS l Z y ws code maxL ret rm as' h0 Q := by
  refine MetFree.of_bodySF hpl hisR ?_
  intro p e s m args below meth c s₁ Bd hml0 hP hK
  obtain ⟨rfl, hZ, hh⟩ := hP
  have X0 : Stand p l e rm (s.setVm s.vm) m args below meth c s₁ [] 0 0 := Stand.of_body Bd
  have e0 : s₁.heap = h0 := by rw [← hh, Bd.state]; rfl
  have C : Cx p (s.setVm s.vm) m meth c Z code maxL ret y.cls y.name rm (FEw s rm) 0 := ⟨Bd.exec, Bd.bytes, hml0, Bd.returns, findClass_of_methodNamed Bd.named, hZ, (name_of_methodNamed Bd.named Bd.method).1, BodyLoose.notSynchronized Bd, fun _ _ _ _ q => RoadKit.wide (s := s) q⟩
  obtain ⟨s₂, o, st, r⟩ := hb p e s s.vm m below meth c C ((State.WarmedH.refl s).since 0) s₁ X0 e0
  exact ⟨s₂, o, castTop (hef m) st, r⟩
theorem fe_since {s : State} {vm1 : Vm} {k1 : Nat} {R : Room} (hS : s.Since vm1 k1) : ∀ o t L, k1 ≤ t.heap.size → FrameEnd (s.setVm vm1) o t L R.cells R.slots → FEw s R o t L := fun o t L hk q => by
  obtain ⟨a, b, c⟩ := hS.ended (U := t) q.2.1 hk q.2.2
  exact ⟨q.1, a, b, c⟩
section Steps
variable {p : Program} {l : Launch} {e : Env} {R : Room} {s : State} {m : MethodId} {args : Array Value} {below : List Frame} {meth : Method} {c : Code} {Q : Option Value → Heap → List Loc → Prop} {h : Heap} {locs : List Loc} {cells slots : Nat} {Z : State} {code : ByteArray} {maxL : Nat} {ret : Option FieldType} {own nm : String} {FE : Outcome → State → List Loc → Prop} {k0 : Nat} {a0 : Array Value}
variable {pc pc' : Nat} {Ls : Array Slot} {st rest : List Value}
theorem Wk.step {g g' : JFrame} (hs : ∀ T target, Stand p l e R s m args below meth c T locs cells slots → T.heap = h → Steps p.tables e below (T.setTop g') target → Steps p.tables e below (T.setTop g) target) (hr : Wk p l e R s m args below meth c Q FE h locs cells slots g') : Wk p l e R s m args below meth c Q FE h locs cells slots g := fun T X eT => by
  obtain ⟨s₂, o, st, r⟩ := hr T X eT
  exact ⟨s₂, o, hs T s₂ X eT st, r⟩
theorem Wk.law {g g' : JFrame} (hs : ∀ T, Stand p l e R s m args below meth c T locs cells slots → T.heap = h → ∃ T', Stand p l e R s m args below meth c T' locs cells slots ∧ T'.heap = h ∧ ∀ target, Steps p.tables e below (T'.setTop g') target → Steps p.tables e below (T.setTop g) target) (hr : Wk p l e R s m args below meth c Q FE h locs cells slots g') : Wk p l e R s m args below meth c Q FE h locs cells slots g := fun T X eT => by
  obtain ⟨T', X', e', q⟩ := hs T X eT
  obtain ⟨s₂, o, st, r⟩ := hr T' X' e'
  exact ⟨s₂, o, q s₂ st, r⟩
theorem iloadN (C : Cx p s m meth c Z code maxL ret own nm R FE k0) {k : Fin 4} {v : Int32} (hd : decode code pc = .ok (.iload_n k, 1)) (hp : pc + 1 = pc') (hl : Ls[k.val]? = some (.val (.int v)))
    (hr : Wk p l e R s m args below meth c Q FE h locs cells slots (mkF m pc' Ls (.int v :: st))) : Wk p l e R s m args below meth c Q FE h locs cells slots (mkF m pc Ls st) := by
  subst hp
  exact Wk.step (fun T t X eT q => XS.iloadN X.here C.1 rfl (hb C.2.1 hd) hl q) hr
theorem lloadN (C : Cx p s m meth c Z code maxL ret own nm R FE k0) {k : Fin 4} {v : Int64} (hd : decode code pc = .ok (.lload_n k, 1)) (hp : pc + 1 = pc') (hl : Ls[k.val]? = some (.val (.long v)))
    (hr : Wk p l e R s m args below meth c Q FE h locs cells slots (mkF m pc' Ls (.long v :: st))) : Wk p l e R s m args below meth c Q FE h locs cells slots (mkF m pc Ls st) := by
  subst hp
  exact Wk.step (fun T t X eT q => XS.lloadN X.here C.1 rfl (hb C.2.1 hd) hl q) hr
theorem aloadN (C : Cx p s m meth c Z code maxL ret own nm R FE k0) {k : Fin 4} {v : Value} (hd : decode code pc = .ok (.aload_n k, 1)) (hp : pc + 1 = pc') (hl : Ls[k.val]? = some (.val v)) (hv : v.isRef = true)
    (hr : Wk p l e R s m args below meth c Q FE h locs cells slots (mkF m pc' Ls (v :: st))) : Wk p l e R s m args below meth c Q FE h locs cells slots (mkF m pc Ls st) := by
  subst hp
  exact Wk.step (fun T t X eT q => XS.aloadN X.here C.1 rfl (hb C.2.1 hd) hl hv q) hr
theorem istoreN (C : Cx p s m meth c Z code maxL ret own nm R FE k0) {k : Fin 4} {v : Int32} {Ls' : Array Slot} (hd : decode code pc = .ok (.istore_n k, 1)) (hp : pc + 1 = pc') (hl : storeLocals Ls k.val (.int v) = some Ls')
    (hr : Wk p l e R s m args below meth c Q FE h locs cells slots (mkF m pc' Ls' st)) : Wk p l e R s m args below meth c Q FE h locs cells slots (mkF m pc Ls (.int v :: st)) := by
  subst hp
  exact Wk.step (fun T t X eT q => XS.istoreN X.here C.1 rfl (hb C.2.1 hd) rfl hl q) hr
theorem lstoreN (C : Cx p s m meth c Z code maxL ret own nm R FE k0) {k : Fin 4} {v : Int64} {Ls' : Array Slot} (hd : decode code pc = .ok (.lstore_n k, 1)) (hp : pc + 1 = pc') (hl : storeLocals Ls k.val (.long v) = some Ls')
    (hr : Wk p l e R s m args below meth c Q FE h locs cells slots (mkF m pc' Ls' st)) : Wk p l e R s m args below meth c Q FE h locs cells slots (mkF m pc Ls (.long v :: st)) := by
  subst hp
  exact Wk.step (fun T t X eT q => XS.lstoreN X.here C.1 rfl (hb C.2.1 hd) rfl hl q) hr
theorem astoreN (C : Cx p s m meth c Z code maxL ret own nm R FE k0) {k : Fin 4} {v : Value} {Ls' : Array Slot} (hd : decode code pc = .ok (.astore_n k, 1)) (hp : pc + 1 = pc') (hv : v.isRef = true) (hl : storeLocals Ls k.val v = some Ls')
    (hr : Wk p l e R s m args below meth c Q FE h locs cells slots (mkF m pc' Ls' st)) : Wk p l e R s m args below meth c Q FE h locs cells slots (mkF m pc Ls (v :: st)) := by
  subst hp
  exact Wk.step (fun T t X eT q => XS.astoreN X.here C.1 rfl (hb C.2.1 hd) rfl hv hl q) hr
theorem iload (C : Cx p s m meth c Z code maxL ret own nm R FE k0) {k : Nat} {v : Int32} (hd : decode code pc = .ok (.iload k, 2)) (hp : pc + 2 = pc') (hl : Ls[k]? = some (.val (.int v)))
    (hr : Wk p l e R s m args below meth c Q FE h locs cells slots (mkF m pc' Ls (.int v :: st))) : Wk p l e R s m args below meth c Q FE h locs cells slots (mkF m pc Ls st) := by
  subst hp
  exact Wk.step (fun T t X eT q => XS.iload X.here C.1 rfl (hb C.2.1 hd) hl q) hr
theorem lload (C : Cx p s m meth c Z code maxL ret own nm R FE k0) {k : Nat} {v : Int64} (hd : decode code pc = .ok (.lload k, 2)) (hp : pc + 2 = pc') (hl : Ls[k]? = some (.val (.long v)))
    (hr : Wk p l e R s m args below meth c Q FE h locs cells slots (mkF m pc' Ls (.long v :: st))) : Wk p l e R s m args below meth c Q FE h locs cells slots (mkF m pc Ls st) := by
  subst hp
  exact Wk.step (fun T t X eT q => XS.lload X.here C.1 rfl (hb C.2.1 hd) hl q) hr
theorem aload (C : Cx p s m meth c Z code maxL ret own nm R FE k0) {k : Nat} {v : Value} (hd : decode code pc = .ok (.aload k, 2)) (hp : pc + 2 = pc') (hl : Ls[k]? = some (.val v)) (hv : v.isRef = true)
    (hr : Wk p l e R s m args below meth c Q FE h locs cells slots (mkF m pc' Ls (v :: st))) : Wk p l e R s m args below meth c Q FE h locs cells slots (mkF m pc Ls st) := by
  subst hp
  exact Wk.step (fun T t X eT q => XS.aload X.here C.1 rfl (hb C.2.1 hd) hl hv q) hr
theorem istore (C : Cx p s m meth c Z code maxL ret own nm R FE k0) {k : Nat} {v : Int32} {Ls' : Array Slot} (hd : decode code pc = .ok (.istore k, 2)) (hp : pc + 2 = pc') (hl : storeLocals Ls k (.int v) = some Ls')
    (hr : Wk p l e R s m args below meth c Q FE h locs cells slots (mkF m pc' Ls' st)) : Wk p l e R s m args below meth c Q FE h locs cells slots (mkF m pc Ls (.int v :: st)) := by
  subst hp
  exact Wk.step (fun T t X eT q => XS.istore X.here C.1 rfl (hb C.2.1 hd) rfl hl q) hr
theorem lstore (C : Cx p s m meth c Z code maxL ret own nm R FE k0) {k : Nat} {v : Int64} {Ls' : Array Slot} (hd : decode code pc = .ok (.lstore k, 2)) (hp : pc + 2 = pc') (hl : storeLocals Ls k (.long v) = some Ls')
    (hr : Wk p l e R s m args below meth c Q FE h locs cells slots (mkF m pc' Ls' st)) : Wk p l e R s m args below meth c Q FE h locs cells slots (mkF m pc Ls (.long v :: st)) := by
  subst hp
  exact Wk.step (fun T t X eT q => XS.lstore X.here C.1 rfl (hb C.2.1 hd) rfl hl q) hr
theorem astore (C : Cx p s m meth c Z code maxL ret own nm R FE k0) {k : Nat} {v : Value} {Ls' : Array Slot} (hd : decode code pc = .ok (.astore k, 2)) (hp : pc + 2 = pc') (hv : v.isRef = true) (hl : storeLocals Ls k v = some Ls')
    (hr : Wk p l e R s m args below meth c Q FE h locs cells slots (mkF m pc' Ls' st)) : Wk p l e R s m args below meth c Q FE h locs cells slots (mkF m pc Ls (v :: st)) := by
  subst hp
  exact Wk.step (fun T t X eT q => XS.astore X.here C.1 rfl (hb C.2.1 hd) rfl hv hl q) hr
theorem iconst (C : Cx p s m meth c Z code maxL ret own nm R FE k0) {i : Int} {v : Int32} (hd : decode code pc = .ok (.iconst i, 1)) (hp : pc + 1 = pc') (hv : Int32.ofInt i = v)
    (hr : Wk p l e R s m args below meth c Q FE h locs cells slots (mkF m pc' Ls (.int v :: st))) : Wk p l e R s m args below meth c Q FE h locs cells slots (mkF m pc Ls st) := by
  subst hp
  subst hv
  exact Wk.step (fun T t X eT q => XS.iconst X.here C.1 rfl (hb C.2.1 hd) q) hr
theorem bipush (C : Cx p s m meth c Z code maxL ret own nm R FE k0) {i : Int} {v : Int32} (hd : decode code pc = .ok (.bipush i, 2)) (hp : pc + 2 = pc') (hv : (Int8.ofInt i).toInt32 = v)
    (hr : Wk p l e R s m args below meth c Q FE h locs cells slots (mkF m pc' Ls (.int v :: st))) : Wk p l e R s m args below meth c Q FE h locs cells slots (mkF m pc Ls st) := by
  subst hp
  subst hv
  exact Wk.step (fun T t X eT q => XS.bipush X.here C.1 rfl (hb C.2.1 hd) q) hr
theorem sipush (C : Cx p s m meth c Z code maxL ret own nm R FE k0) {i : Int} {v : Int32} (hd : decode code pc = .ok (.sipush i, 3)) (hp : pc + 3 = pc') (hv : (Int16.ofInt i).toInt32 = v)
    (hr : Wk p l e R s m args below meth c Q FE h locs cells slots (mkF m pc' Ls (.int v :: st))) : Wk p l e R s m args below meth c Q FE h locs cells slots (mkF m pc Ls st) := by
  subst hp
  subst hv
  exact Wk.step (fun T t X eT q => XS.sipush X.here C.1 rfl (hb C.2.1 hd) q) hr
theorem lconst (C : Cx p s m meth c Z code maxL ret own nm R FE k0) {k : Fin 2} {v : Int64} (hd : decode code pc = .ok (.lconst k, 1)) (hp : pc + 1 = pc') (hv : Int64.ofNat k = v)
    (hr : Wk p l e R s m args below meth c Q FE h locs cells slots (mkF m pc' Ls (.long v :: st))) : Wk p l e R s m args below meth c Q FE h locs cells slots (mkF m pc Ls st) := by
  subst hp
  subst hv
  exact Wk.step (fun T t X eT q => XS.lconst X.here C.1 rfl (hb C.2.1 hd) q) hr
theorem aconstNull (C : Cx p s m meth c Z code maxL ret own nm R FE k0)  (hd : decode code pc = .ok (.aconst_null, 1)) (hp : pc + 1 = pc') 
    (hr : Wk p l e R s m args below meth c Q FE h locs cells slots (mkF m pc' Ls (.null :: st))) : Wk p l e R s m args below meth c Q FE h locs cells slots (mkF m pc Ls st) := by
  subst hp
  exact Wk.step (fun T t X eT q => XS.aconstNull X.here C.1 rfl (hb C.2.1 hd) q) hr
theorem iadd (C : Cx p s m meth c Z code maxL ret own nm R FE k0) {x y : Int32} (hd : decode code pc = .ok (.iadd, 1)) (hp : pc + 1 = pc') 
    (hr : Wk p l e R s m args below meth c Q FE h locs cells slots (mkF m pc' Ls (.int (x + y) :: st))) : Wk p l e R s m args below meth c Q FE h locs cells slots (mkF m pc Ls (.int y :: .int x :: st)) := by
  subst hp
  exact Wk.step (fun T t X eT q => XS.iadd X.here C.1 rfl (hb C.2.1 hd) rfl q) hr
theorem isub (C : Cx p s m meth c Z code maxL ret own nm R FE k0) {x y : Int32} (hd : decode code pc = .ok (.isub, 1)) (hp : pc + 1 = pc') 
    (hr : Wk p l e R s m args below meth c Q FE h locs cells slots (mkF m pc' Ls (.int (x - y) :: st))) : Wk p l e R s m args below meth c Q FE h locs cells slots (mkF m pc Ls (.int y :: .int x :: st)) := by
  subst hp
  exact Wk.step (fun T t X eT q => XS.isub X.here C.1 rfl (hb C.2.1 hd) rfl q) hr
theorem imul (C : Cx p s m meth c Z code maxL ret own nm R FE k0) {x y : Int32} (hd : decode code pc = .ok (.imul, 1)) (hp : pc + 1 = pc') 
    (hr : Wk p l e R s m args below meth c Q FE h locs cells slots (mkF m pc' Ls (.int (x * y) :: st))) : Wk p l e R s m args below meth c Q FE h locs cells slots (mkF m pc Ls (.int y :: .int x :: st)) := by
  subst hp
  exact Wk.step (fun T t X eT q => XS.imul X.here C.1 rfl (hb C.2.1 hd) rfl q) hr
theorem iand (C : Cx p s m meth c Z code maxL ret own nm R FE k0) {x y : Int32} (hd : decode code pc = .ok (.iand, 1)) (hp : pc + 1 = pc') 
    (hr : Wk p l e R s m args below meth c Q FE h locs cells slots (mkF m pc' Ls (.int (x &&& y) :: st))) : Wk p l e R s m args below meth c Q FE h locs cells slots (mkF m pc Ls (.int y :: .int x :: st)) := by
  subst hp
  exact Wk.step (fun T t X eT q => XS.iand X.here C.1 rfl (hb C.2.1 hd) rfl q) hr
theorem ladd (C : Cx p s m meth c Z code maxL ret own nm R FE k0) {x y : Int64} (hd : decode code pc = .ok (.ladd, 1)) (hp : pc + 1 = pc') 
    (hr : Wk p l e R s m args below meth c Q FE h locs cells slots (mkF m pc' Ls (.long (x + y) :: st))) : Wk p l e R s m args below meth c Q FE h locs cells slots (mkF m pc Ls (.long y :: .long x :: st)) := by
  subst hp
  exact Wk.step (fun T t X eT q => XS.ladd X.here C.1 rfl (hb C.2.1 hd) rfl q) hr
theorem lsub (C : Cx p s m meth c Z code maxL ret own nm R FE k0) {x y : Int64} (hd : decode code pc = .ok (.lsub, 1)) (hp : pc + 1 = pc') 
    (hr : Wk p l e R s m args below meth c Q FE h locs cells slots (mkF m pc' Ls (.long (x - y) :: st))) : Wk p l e R s m args below meth c Q FE h locs cells slots (mkF m pc Ls (.long y :: .long x :: st)) := by
  subst hp
  exact Wk.step (fun T t X eT q => XS.lsub X.here C.1 rfl (hb C.2.1 hd) rfl q) hr
theorem lmul (C : Cx p s m meth c Z code maxL ret own nm R FE k0) {x y : Int64} (hd : decode code pc = .ok (.lmul, 1)) (hp : pc + 1 = pc') 
    (hr : Wk p l e R s m args below meth c Q FE h locs cells slots (mkF m pc' Ls (.long (x * y) :: st))) : Wk p l e R s m args below meth c Q FE h locs cells slots (mkF m pc Ls (.long y :: .long x :: st)) := by
  subst hp
  exact Wk.step (fun T t X eT q => XS.lmul X.here C.1 rfl (hb C.2.1 hd) rfl q) hr
theorem land (C : Cx p s m meth c Z code maxL ret own nm R FE k0) {x y : Int64} (hd : decode code pc = .ok (.land, 1)) (hp : pc + 1 = pc') 
    (hr : Wk p l e R s m args below meth c Q FE h locs cells slots (mkF m pc' Ls (.long (x &&& y) :: st))) : Wk p l e R s m args below meth c Q FE h locs cells slots (mkF m pc Ls (.long y :: .long x :: st)) := by
  subst hp
  exact Wk.step (fun T t X eT q => XS.land X.here C.1 rfl (hb C.2.1 hd) rfl q) hr
theorem idiv (C : Cx p s m meth c Z code maxL ret own nm R FE k0) {x y : Int32} (hd : decode code pc = .ok (.idiv, 1)) (hp : pc + 1 = pc') (hy : y ≠ 0)
    (hr : Wk p l e R s m args below meth c Q FE h locs cells slots (mkF m pc' Ls (.int (x / y) :: st))) : Wk p l e R s m args below meth c Q FE h locs cells slots (mkF m pc Ls (.int y :: .int x :: st)) := by
  subst hp
  exact Wk.step (fun T t X eT q => XS.idiv X.here C.1 rfl (hb C.2.1 hd) rfl hy q) hr
theorem ldiv (C : Cx p s m meth c Z code maxL ret own nm R FE k0) {x y : Int64} (hd : decode code pc = .ok (.ldiv, 1)) (hp : pc + 1 = pc') (hy : y ≠ 0)
    (hr : Wk p l e R s m args below meth c Q FE h locs cells slots (mkF m pc' Ls (.long (x / y) :: st))) : Wk p l e R s m args below meth c Q FE h locs cells slots (mkF m pc Ls (.long y :: .long x :: st)) := by
  subst hp
  exact Wk.step (fun T t X eT q => XS.ldiv X.here C.1 rfl (hb C.2.1 hd) rfl hy q) hr
theorem irem (C : Cx p s m meth c Z code maxL ret own nm R FE k0) {x y : Int32} (hd : decode code pc = .ok (.irem, 1)) (hp : pc + 1 = pc') (hy : y ≠ 0)
    (hr : Wk p l e R s m args below meth c Q FE h locs cells slots (mkF m pc' Ls (.int (x % y) :: st))) : Wk p l e R s m args below meth c Q FE h locs cells slots (mkF m pc Ls (.int y :: .int x :: st)) := by
  subst hp
  exact Wk.step (fun T t X eT q => iremM (g := mkF m pc Ls (.int y :: .int x :: st)) X C.1 rfl (hb C.2.1 hd) rfl hy q) hr
theorem iushr (C : Cx p s m meth c Z code maxL ret own nm R FE k0) {x y : Int32} (hd : decode code pc = .ok (.iushr, 1)) (hp : pc + 1 = pc') 
    (hr : Wk p l e R s m args below meth c Q FE h locs cells slots (mkF m pc' Ls (.int ((x.toUInt32 >>> (y &&& 31).toUInt32).toInt32) :: st))) : Wk p l e R s m args below meth c Q FE h locs cells slots (mkF m pc Ls (.int y :: .int x :: st)) := by
  subst hp
  exact Wk.step (fun T t X eT q => XS.iushr X.here C.1 rfl (hb C.2.1 hd) rfl q) hr
theorem ineg (C : Cx p s m meth c Z code maxL ret own nm R FE k0) {x : Int32} (hd : decode code pc = .ok (.ineg, 1)) (hp : pc + 1 = pc') 
    (hr : Wk p l e R s m args below meth c Q FE h locs cells slots (mkF m pc' Ls (.int (-x) :: st))) : Wk p l e R s m args below meth c Q FE h locs cells slots (mkF m pc Ls (.int x :: st)) := by
  subst hp
  exact Wk.step (fun T t X eT q => XS.ineg X.here C.1 rfl (hb C.2.1 hd) rfl q) hr
theorem i2l (C : Cx p s m meth c Z code maxL ret own nm R FE k0) {x : Int32} (hd : decode code pc = .ok (.i2l, 1)) (hp : pc + 1 = pc') 
    (hr : Wk p l e R s m args below meth c Q FE h locs cells slots (mkF m pc' Ls (.long x.toInt64 :: st))) : Wk p l e R s m args below meth c Q FE h locs cells slots (mkF m pc Ls (.int x :: st)) := by
  subst hp
  exact Wk.step (fun T t X eT q => XS.i2l X.here C.1 rfl (hb C.2.1 hd) rfl q) hr
theorem l2i (C : Cx p s m meth c Z code maxL ret own nm R FE k0) {x : Int64} (hd : decode code pc = .ok (.l2i, 1)) (hp : pc + 1 = pc') 
    (hr : Wk p l e R s m args below meth c Q FE h locs cells slots (mkF m pc' Ls (.int x.toInt32 :: st))) : Wk p l e R s m args below meth c Q FE h locs cells slots (mkF m pc Ls (.long x :: st)) := by
  subst hp
  exact Wk.step (fun T t X eT q => XS.l2i X.here C.1 rfl (hb C.2.1 hd) rfl q) hr
theorem lcmp (C : Cx p s m meth c Z code maxL ret own nm R FE k0) {x y : Int64} (hd : decode code pc = .ok (.lcmp, 1)) (hp : pc + 1 = pc') 
    (hr : Wk p l e R s m args below meth c Q FE h locs cells slots (mkF m pc' Ls (.int (if y < x then 1 else if x = y then 0 else -1) :: st))) : Wk p l e R s m args below meth c Q FE h locs cells slots (mkF m pc Ls (.long y :: .long x :: st)) := by
  subst hp
  exact Wk.step (fun T t X eT q => XS.lcmp X.here C.1 rfl (hb C.2.1 hd) rfl q) hr
theorem dup (C : Cx p s m meth c Z code maxL ret own nm R FE k0) {v : Value} (hd : decode code pc = .ok (.dup, 1)) (hp : pc + 1 = pc') (hv : v.category = 1)
    (hr : Wk p l e R s m args below meth c Q FE h locs cells slots (mkF m pc' Ls (v :: v :: st))) : Wk p l e R s m args below meth c Q FE h locs cells slots (mkF m pc Ls (v :: st)) := by
  subst hp
  exact Wk.step (fun T t X eT q => XS.dup X.here C.1 rfl (hb C.2.1 hd) rfl hv q) hr
theorem pop_ (C : Cx p s m meth c Z code maxL ret own nm R FE k0) {v : Value} (hd : decode code pc = .ok (.pop, 1)) (hp : pc + 1 = pc') (hv : v.category = 1)
    (hr : Wk p l e R s m args below meth c Q FE h locs cells slots (mkF m pc' Ls st)) : Wk p l e R s m args below meth c Q FE h locs cells slots (mkF m pc Ls (v :: st)) := by
  subst hp
  exact Wk.step (fun T t X eT q => XS.pop X.here C.1 rfl (hb C.2.1 hd) rfl hv q) hr
theorem iinc (C : Cx p s m meth c Z code maxL ret own nm R FE k0) {k : Nat} {d : Int} {v : Int32} {Ls' : Array Slot} (hd : decode code pc = .ok (.iinc k d, 3)) (hp : pc + 3 = pc') (hv : Ls[k]? = some (.val (.int v))) (hl : storeLocals Ls k (.int (v + Int32.ofInt d)) = some Ls')
    (hr : Wk p l e R s m args below meth c Q FE h locs cells slots (mkF m pc' Ls' st)) : Wk p l e R s m args below meth c Q FE h locs cells slots (mkF m pc Ls st) := by
  subst hp
  exact Wk.step (fun T t X eT q => XS.iinc X.here C.1 rfl (hb C.2.1 hd) hv hl q) hr
theorem goto_ (C : Cx p s m meth c Z code maxL ret own nm R FE k0) {o : Int} (hd : decode code pc = .ok (.goto o, 3)) (ho : 0 ≤ (pc : Int) + o) (hp : ((pc : Int) + o).toNat = pc')
    (hr : Wk p l e R s m args below meth c Q FE h locs cells slots (mkF m pc' Ls st)) : Wk p l e R s m args below meth c Q FE h locs cells slots (mkF m pc Ls st) :=
  Wk.step (fun T t X eT q => XS.goto X.here C.1 rfl rfl (hb C.2.1 hd) ho hp q) hr
theorem icmp_eq (C : Cx p s m meth c Z code maxL ret own nm R FE k0) {x y : Int32} {o : Int} (pcT pcF : Nat) (hd : decode code pc = .ok (.if_icmp .eq o, 3)) (ho : 0 ≤ (pc : Int) + o) (hT : ((pc : Int) + o).toNat = pcT) (hF : pc + 3 = pcF)
    (ht : x = y → Wk p l e R s m args below meth c Q FE h locs cells slots (mkF m pcT Ls st)) (hf : ¬ x = y → Wk p l e R s m args below meth c Q FE h locs cells slots (mkF m pcF Ls st)) : Wk p l e R s m args below meth c Q FE h locs cells slots (mkF m pc Ls (.int y :: .int x :: st)) := by
  by_cases q : x = y
  · have k := (teq q).1
    exact Wk.step (fun T t X eT r => XS.icmpYes X.here C.1 rfl rfl (hb C.2.1 hd) rfl k ho hT r) (ht q)
  · have k := (feq q).1
    exact Wk.step (fun T t X eT r => XS.icmpNo X.here C.1 rfl (hb C.2.1 hd) rfl k (by subst hF; exact r)) (hf q)
theorem if_eq (C : Cx p s m meth c Z code maxL ret own nm R FE k0) {x : Int32} {o : Int} (pcT pcF : Nat) (hd : decode code pc = .ok (.ifCond .eq o, 3)) (ho : 0 ≤ (pc : Int) + o) (hT : ((pc : Int) + o).toNat = pcT) (hF : pc + 3 = pcF)
    (ht : x = 0 → Wk p l e R s m args below meth c Q FE h locs cells slots (mkF m pcT Ls st)) (hf : ¬ x = 0 → Wk p l e R s m args below meth c Q FE h locs cells slots (mkF m pcF Ls st)) : Wk p l e R s m args below meth c Q FE h locs cells slots (mkF m pc Ls (.int x :: st)) := by
  by_cases q : x = 0
  · have k := (if0 _ _).trans (teq q).1
    exact Wk.step (fun T t X eT r => XS.ifYes X.here C.1 rfl rfl (hb C.2.1 hd) rfl k ho hT r) (ht q)
  · have k := (if0 _ _).trans (feq q).1
    exact Wk.step (fun T t X eT r => XS.ifNo X.here C.1 rfl (hb C.2.1 hd) rfl k (by subst hF; exact r)) (hf q)
theorem icmp_ne (C : Cx p s m meth c Z code maxL ret own nm R FE k0) {x y : Int32} {o : Int} (pcT pcF : Nat) (hd : decode code pc = .ok (.if_icmp .ne o, 3)) (ho : 0 ≤ (pc : Int) + o) (hT : ((pc : Int) + o).toNat = pcT) (hF : pc + 3 = pcF)
    (ht : ¬ x = y → Wk p l e R s m args below meth c Q FE h locs cells slots (mkF m pcT Ls st)) (hf : x = y → Wk p l e R s m args below meth c Q FE h locs cells slots (mkF m pcF Ls st)) : Wk p l e R s m args below meth c Q FE h locs cells slots (mkF m pc Ls (.int y :: .int x :: st)) := by
  by_cases q : x = y
  · have k := (teq q).2
    exact Wk.step (fun T t X eT r => XS.icmpNo X.here C.1 rfl (hb C.2.1 hd) rfl k (by subst hF; exact r)) (hf q)
  · have k := (feq q).2
    exact Wk.step (fun T t X eT r => XS.icmpYes X.here C.1 rfl rfl (hb C.2.1 hd) rfl k ho hT r) (ht q)
theorem if_ne (C : Cx p s m meth c Z code maxL ret own nm R FE k0) {x : Int32} {o : Int} (pcT pcF : Nat) (hd : decode code pc = .ok (.ifCond .ne o, 3)) (ho : 0 ≤ (pc : Int) + o) (hT : ((pc : Int) + o).toNat = pcT) (hF : pc + 3 = pcF)
    (ht : ¬ x = 0 → Wk p l e R s m args below meth c Q FE h locs cells slots (mkF m pcT Ls st)) (hf : x = 0 → Wk p l e R s m args below meth c Q FE h locs cells slots (mkF m pcF Ls st)) : Wk p l e R s m args below meth c Q FE h locs cells slots (mkF m pc Ls (.int x :: st)) := by
  by_cases q : x = 0
  · have k := (if0 _ _).trans (teq q).2
    exact Wk.step (fun T t X eT r => XS.ifNo X.here C.1 rfl (hb C.2.1 hd) rfl k (by subst hF; exact r)) (hf q)
  · have k := (if0 _ _).trans (feq q).2
    exact Wk.step (fun T t X eT r => XS.ifYes X.here C.1 rfl rfl (hb C.2.1 hd) rfl k ho hT r) (ht q)
theorem icmp_lt (C : Cx p s m meth c Z code maxL ret own nm R FE k0) {x y : Int32} {o : Int} (pcT pcF : Nat) (hd : decode code pc = .ok (.if_icmp .lt o, 3)) (ho : 0 ≤ (pc : Int) + o) (hT : ((pc : Int) + o).toNat = pcT) (hF : pc + 3 = pcF)
    (ht : x < y → Wk p l e R s m args below meth c Q FE h locs cells slots (mkF m pcT Ls st)) (hf : ¬ x < y → Wk p l e R s m args below meth c Q FE h locs cells slots (mkF m pcF Ls st)) : Wk p l e R s m args below meth c Q FE h locs cells slots (mkF m pc Ls (.int y :: .int x :: st)) := by
  by_cases q : x < y
  · have k := (tlt q).1
    exact Wk.step (fun T t X eT r => XS.icmpYes X.here C.1 rfl rfl (hb C.2.1 hd) rfl k ho hT r) (ht q)
  · have k := (flt q).1
    exact Wk.step (fun T t X eT r => XS.icmpNo X.here C.1 rfl (hb C.2.1 hd) rfl k (by subst hF; exact r)) (hf q)
theorem if_lt (C : Cx p s m meth c Z code maxL ret own nm R FE k0) {x : Int32} {o : Int} (pcT pcF : Nat) (hd : decode code pc = .ok (.ifCond .lt o, 3)) (ho : 0 ≤ (pc : Int) + o) (hT : ((pc : Int) + o).toNat = pcT) (hF : pc + 3 = pcF)
    (ht : x < 0 → Wk p l e R s m args below meth c Q FE h locs cells slots (mkF m pcT Ls st)) (hf : ¬ x < 0 → Wk p l e R s m args below meth c Q FE h locs cells slots (mkF m pcF Ls st)) : Wk p l e R s m args below meth c Q FE h locs cells slots (mkF m pc Ls (.int x :: st)) := by
  by_cases q : x < 0
  · have k := (if0 _ _).trans (tlt q).1
    exact Wk.step (fun T t X eT r => XS.ifYes X.here C.1 rfl rfl (hb C.2.1 hd) rfl k ho hT r) (ht q)
  · have k := (if0 _ _).trans (flt q).1
    exact Wk.step (fun T t X eT r => XS.ifNo X.here C.1 rfl (hb C.2.1 hd) rfl k (by subst hF; exact r)) (hf q)
theorem icmp_ge (C : Cx p s m meth c Z code maxL ret own nm R FE k0) {x y : Int32} {o : Int} (pcT pcF : Nat) (hd : decode code pc = .ok (.if_icmp .ge o, 3)) (ho : 0 ≤ (pc : Int) + o) (hT : ((pc : Int) + o).toNat = pcT) (hF : pc + 3 = pcF)
    (ht : ¬ x < y → Wk p l e R s m args below meth c Q FE h locs cells slots (mkF m pcT Ls st)) (hf : x < y → Wk p l e R s m args below meth c Q FE h locs cells slots (mkF m pcF Ls st)) : Wk p l e R s m args below meth c Q FE h locs cells slots (mkF m pc Ls (.int y :: .int x :: st)) := by
  by_cases q : x < y
  · have k := (tlt q).2.1
    exact Wk.step (fun T t X eT r => XS.icmpNo X.here C.1 rfl (hb C.2.1 hd) rfl k (by subst hF; exact r)) (hf q)
  · have k := (flt q).2.1
    exact Wk.step (fun T t X eT r => XS.icmpYes X.here C.1 rfl rfl (hb C.2.1 hd) rfl k ho hT r) (ht q)
theorem if_ge (C : Cx p s m meth c Z code maxL ret own nm R FE k0) {x : Int32} {o : Int} (pcT pcF : Nat) (hd : decode code pc = .ok (.ifCond .ge o, 3)) (ho : 0 ≤ (pc : Int) + o) (hT : ((pc : Int) + o).toNat = pcT) (hF : pc + 3 = pcF)
    (ht : ¬ x < 0 → Wk p l e R s m args below meth c Q FE h locs cells slots (mkF m pcT Ls st)) (hf : x < 0 → Wk p l e R s m args below meth c Q FE h locs cells slots (mkF m pcF Ls st)) : Wk p l e R s m args below meth c Q FE h locs cells slots (mkF m pc Ls (.int x :: st)) := by
  by_cases q : x < 0
  · have k := (if0 _ _).trans (tlt q).2.1
    exact Wk.step (fun T t X eT r => XS.ifNo X.here C.1 rfl (hb C.2.1 hd) rfl k (by subst hF; exact r)) (hf q)
  · have k := (if0 _ _).trans (flt q).2.1
    exact Wk.step (fun T t X eT r => XS.ifYes X.here C.1 rfl rfl (hb C.2.1 hd) rfl k ho hT r) (ht q)
theorem icmp_gt (C : Cx p s m meth c Z code maxL ret own nm R FE k0) {x y : Int32} {o : Int} (pcT pcF : Nat) (hd : decode code pc = .ok (.if_icmp .gt o, 3)) (ho : 0 ≤ (pc : Int) + o) (hT : ((pc : Int) + o).toNat = pcT) (hF : pc + 3 = pcF)
    (ht : y < x → Wk p l e R s m args below meth c Q FE h locs cells slots (mkF m pcT Ls st)) (hf : ¬ y < x → Wk p l e R s m args below meth c Q FE h locs cells slots (mkF m pcF Ls st)) : Wk p l e R s m args below meth c Q FE h locs cells slots (mkF m pc Ls (.int y :: .int x :: st)) := by
  by_cases q : y < x
  · have k := (tlt q).2.2.1
    exact Wk.step (fun T t X eT r => XS.icmpYes X.here C.1 rfl rfl (hb C.2.1 hd) rfl k ho hT r) (ht q)
  · have k := (flt q).2.2.1
    exact Wk.step (fun T t X eT r => XS.icmpNo X.here C.1 rfl (hb C.2.1 hd) rfl k (by subst hF; exact r)) (hf q)
theorem if_gt (C : Cx p s m meth c Z code maxL ret own nm R FE k0) {x : Int32} {o : Int} (pcT pcF : Nat) (hd : decode code pc = .ok (.ifCond .gt o, 3)) (ho : 0 ≤ (pc : Int) + o) (hT : ((pc : Int) + o).toNat = pcT) (hF : pc + 3 = pcF)
    (ht : 0 < x → Wk p l e R s m args below meth c Q FE h locs cells slots (mkF m pcT Ls st)) (hf : ¬ 0 < x → Wk p l e R s m args below meth c Q FE h locs cells slots (mkF m pcF Ls st)) : Wk p l e R s m args below meth c Q FE h locs cells slots (mkF m pc Ls (.int x :: st)) := by
  by_cases q : 0 < x
  · have k := (if0 _ _).trans (tlt q).2.2.1
    exact Wk.step (fun T t X eT r => XS.ifYes X.here C.1 rfl rfl (hb C.2.1 hd) rfl k ho hT r) (ht q)
  · have k := (if0 _ _).trans (flt q).2.2.1
    exact Wk.step (fun T t X eT r => XS.ifNo X.here C.1 rfl (hb C.2.1 hd) rfl k (by subst hF; exact r)) (hf q)
theorem icmp_le (C : Cx p s m meth c Z code maxL ret own nm R FE k0) {x y : Int32} {o : Int} (pcT pcF : Nat) (hd : decode code pc = .ok (.if_icmp .le o, 3)) (ho : 0 ≤ (pc : Int) + o) (hT : ((pc : Int) + o).toNat = pcT) (hF : pc + 3 = pcF)
    (ht : ¬ y < x → Wk p l e R s m args below meth c Q FE h locs cells slots (mkF m pcT Ls st)) (hf : y < x → Wk p l e R s m args below meth c Q FE h locs cells slots (mkF m pcF Ls st)) : Wk p l e R s m args below meth c Q FE h locs cells slots (mkF m pc Ls (.int y :: .int x :: st)) := by
  by_cases q : y < x
  · have k := (tlt q).2.2.2
    exact Wk.step (fun T t X eT r => XS.icmpNo X.here C.1 rfl (hb C.2.1 hd) rfl k (by subst hF; exact r)) (hf q)
  · have k := (flt q).2.2.2
    exact Wk.step (fun T t X eT r => XS.icmpYes X.here C.1 rfl rfl (hb C.2.1 hd) rfl k ho hT r) (ht q)
theorem if_le (C : Cx p s m meth c Z code maxL ret own nm R FE k0) {x : Int32} {o : Int} (pcT pcF : Nat) (hd : decode code pc = .ok (.ifCond .le o, 3)) (ho : 0 ≤ (pc : Int) + o) (hT : ((pc : Int) + o).toNat = pcT) (hF : pc + 3 = pcF)
    (ht : ¬ 0 < x → Wk p l e R s m args below meth c Q FE h locs cells slots (mkF m pcT Ls st)) (hf : 0 < x → Wk p l e R s m args below meth c Q FE h locs cells slots (mkF m pcF Ls st)) : Wk p l e R s m args below meth c Q FE h locs cells slots (mkF m pc Ls (.int x :: st)) := by
  by_cases q : 0 < x
  · have k := (if0 _ _).trans (tlt q).2.2.2
    exact Wk.step (fun T t X eT r => XS.ifNo X.here C.1 rfl (hb C.2.1 hd) rfl k (by subst hF; exact r)) (hf q)
  · have k := (if0 _ _).trans (flt q).2.2.2
    exact Wk.step (fun T t X eT r => XS.ifYes X.here C.1 rfl rfl (hb C.2.1 hd) rfl k ho hT r) (ht q)
theorem acmp_eq (C : Cx p s m meth c Z code maxL ret own nm R FE k0) {a b : Addr} {o : Int} (pcT pcF : Nat) (hd : decode code pc = .ok (.if_acmp .eq o, 3)) (ho : 0 ≤ (pc : Int) + o) (hT : ((pc : Int) + o).toNat = pcT) (hF : pc + 3 = pcF)
    (ht : a = b → Wk p l e R s m args below meth c Q FE h locs cells slots (mkF m pcT Ls st)) (hf : ¬ a = b → Wk p l e R s m args below meth c Q FE h locs cells slots (mkF m pcF Ls st)) : Wk p l e R s m args below meth c Q FE h locs cells slots (mkF m pc Ls (.ref b :: .ref a :: st)) := by
  by_cases q : a = b
  · exact Wk.step (fun T t X eT r => RoadKit.acmp (g := mkF m pc Ls (.ref b :: .ref a :: st)) X C.1 rfl rfl rfl (same := true) rfl (hb C.2.1 hd) rfl (decide_eq_true (congrArg Value.ref q)) ho (by rw [← hT]; rfl) r) (ht q)
  · exact Wk.step (fun T t X eT r => RoadKit.acmp (g := mkF m pc Ls (.ref b :: .ref a :: st)) X C.1 rfl rfl rfl (same := false) rfl (hb C.2.1 hd) rfl (decide_eq_false fun u => q (Value.ref.inj u)) ho (by rw [← hF]; rfl) r) (hf q)
theorem acmp_ne (C : Cx p s m meth c Z code maxL ret own nm R FE k0) {a b : Addr} {o : Int} (pcT pcF : Nat) (hd : decode code pc = .ok (.if_acmp .ne o, 3)) (ho : 0 ≤ (pc : Int) + o) (hT : ((pc : Int) + o).toNat = pcT) (hF : pc + 3 = pcF)
    (ht : ¬ a = b → Wk p l e R s m args below meth c Q FE h locs cells slots (mkF m pcT Ls st)) (hf : a = b → Wk p l e R s m args below meth c Q FE h locs cells slots (mkF m pcF Ls st)) : Wk p l e R s m args below meth c Q FE h locs cells slots (mkF m pc Ls (.ref b :: .ref a :: st)) := by
  by_cases q : a = b
  · exact Wk.step (fun T t X eT r => RoadKit.acmp (g := mkF m pc Ls (.ref b :: .ref a :: st)) X C.1 rfl rfl rfl (same := true) rfl (hb C.2.1 hd) rfl (decide_eq_true (congrArg Value.ref q)) ho (by rw [← hF]; rfl) r) (hf q)
  · exact Wk.step (fun T t X eT r => RoadKit.acmp (g := mkF m pc Ls (.ref b :: .ref a :: st)) X C.1 rfl rfl rfl (same := false) rfl (hb C.2.1 hd) rfl (decide_eq_false fun u => q (Value.ref.inj u)) ho (by rw [← hT]; rfl) r) (ht q)
theorem ifnull_ref (C : Cx p s m meth c Z code maxL ret own nm R FE k0) {b : Addr} {o : Int} (hd : decode code pc = .ok (.ifnull o, 3)) (hp : pc + 3 = pc')
    (hr : Wk p l e R s m args below meth c Q FE h locs cells slots (mkF m pc' Ls st)) : Wk p l e R s m args below meth c Q FE h locs cells slots (mkF m pc Ls (.ref b :: st)) :=
  Wk.step (fun T t X eT q => XS.ifnullNo X.here C.1 rfl (hb C.2.1 hd) rfl (by subst hp; exact q)) hr
theorem ifnull_null (C : Cx p s m meth c Z code maxL ret own nm R FE k0) {o : Int} (hd : decode code pc = .ok (.ifnull o, 3)) (ho : 0 ≤ (pc : Int) + o) (hp : ((pc : Int) + o).toNat = pc')
    (hr : Wk p l e R s m args below meth c Q FE h locs cells slots (mkF m pc' Ls st)) : Wk p l e R s m args below meth c Q FE h locs cells slots (mkF m pc Ls (.null :: st)) :=
  Wk.step (fun T t X eT q => XS.ifnullYes X.here C.1 rfl rfl (hb C.2.1 hd) rfl ho hp q) hr
theorem ifnonnull_ref (C : Cx p s m meth c Z code maxL ret own nm R FE k0) {b : Addr} {o : Int} (hd : decode code pc = .ok (.ifnonnull o, 3)) (ho : 0 ≤ (pc : Int) + o) (hp : ((pc : Int) + o).toNat = pc')
    (hr : Wk p l e R s m args below meth c Q FE h locs cells slots (mkF m pc' Ls st)) : Wk p l e R s m args below meth c Q FE h locs cells slots (mkF m pc Ls (.ref b :: st)) :=
  Wk.step (fun T t X eT q => XS.ifnonnullYes X.here C.1 rfl rfl (hb C.2.1 hd) rfl ho hp q) hr
theorem ifnonnull_null (C : Cx p s m meth c Z code maxL ret own nm R FE k0) {o : Int} (hd : decode code pc = .ok (.ifnonnull o, 3)) (hp : pc + 3 = pc')
    (hr : Wk p l e R s m args below meth c Q FE h locs cells slots (mkF m pc' Ls st)) : Wk p l e R s m args below meth c Q FE h locs cells slots (mkF m pc Ls (.null :: st)) :=
  Wk.step (fun T t X eT q => XS.ifnonnullNo X.here C.1 rfl (hb C.2.1 hd) rfl (by subst hp; exact q)) hr
theorem tswIn (C : Cx p s m meth c Z code maxL ret own nm R FE k0) {i : Int32} {dflt low high o : Int} {offs : Array Int} {len : Nat} (hd : decode code pc = .ok (.tableswitch dflt low high offs, len)) (hin : ¬ (i.toInt < low ∨ i.toInt > high)) (hoff : offs[(i.toInt - low).toNat]? = some o) (ho : 0 ≤ (pc : Int) + o) (hp : ((pc : Int) + o).toNat = pc')
    (hr : Wk p l e R s m args below meth c Q FE h locs cells slots (mkF m pc' Ls st)) : Wk p l e R s m args below meth c Q FE h locs cells slots (mkF m pc Ls (.int i :: st)) :=
  Wk.step (fun T t X eT q => XS.tswIn X.here C.1 rfl rfl (hb C.2.1 hd) rfl hin hoff ho hp q) hr
theorem tswOut (C : Cx p s m meth c Z code maxL ret own nm R FE k0) {i : Int32} {dflt low high : Int} {offs : Array Int} {len : Nat} (hd : decode code pc = .ok (.tableswitch dflt low high offs, len)) (hout : i.toInt < low ∨ i.toInt > high) (ho : 0 ≤ (pc : Int) + dflt) (hp : ((pc : Int) + dflt).toNat = pc')
    (hr : Wk p l e R s m args below meth c Q FE h locs cells slots (mkF m pc' Ls st)) : Wk p l e R s m args below meth c Q FE h locs cells slots (mkF m pc Ls (.int i :: st)) :=
  Wk.step (fun T t X eT q => XS.tswOut X.here C.1 rfl rfl (hb C.2.1 hd) rfl hout ho hp q) hr
theorem ldcInt (C : Cx p s m meth c Z code maxL ret own nm R FE k0) {index : Nat} {v : Int32} (w : (Cond.constant own index v).before a0 Z = true) (hd : decode code pc = .ok (.ldc index, 2)) (hp : pc + 2 = pc')
    (hr : Wk p l e R s m args below meth c Q FE h locs cells slots (mkF m pc' Ls (.int v :: st))) : Wk p l e R s m args below meth c Q FE h locs cells slots (mkF m pc Ls st) := by
  subst hp
  exact Wk.step (fun T t X eT q => X.ldcInt C.1 C.2.2.2.2.1 (mvT C.2.2.2.2.2.1 w) (g := mkF m pc Ls st) rfl (hb C.2.1 hd) t q) hr
theorem ldc2Long (C : Cx p s m meth c Z code maxL ret own nm R FE k0) {index : Nat} {v : Int64} (w : (Cond.constantLong own index v).before a0 Z = true) (hd : decode code pc = .ok (.ldc2_w index, 3)) (hp : pc + 3 = pc')
    (hr : Wk p l e R s m args below meth c Q FE h locs cells slots (mkF m pc' Ls (.long v :: st))) : Wk p l e R s m args below meth c Q FE h locs cells slots (mkF m pc Ls st) := by
  subst hp
  exact Wk.step (fun T t X eT q => X.ldc2Long C.1 C.2.2.2.2.1 (mvT C.2.2.2.2.2.1 w) (g := mkF m pc Ls st) rfl (hb C.2.1 hd) t q) hr
theorem getS_ (C : Cx p s m meth c Z code maxL ret own nm R FE k0) {O n d : String} {index : Nat} {v : Value} (w : (Cond.fieldLink own index O n d).before a0 Z = true) (F : Sta Z h O n d v) (hd : decode code pc = .ok (.getstatic index, 3)) (hp : pc + 3 = pc')
    (hr : Wk p l e R s m args below meth c Q FE h locs cells slots (mkF m pc' Ls (v :: st))) : Wk p l e R s m args below meth c Q FE h locs cells slots (mkF m pc Ls st) := by
  subst hp
  exact Wk.law (fun T X eT => RoadKit.getS (host := "") X C.1 C.2.2.2.2.2.1 C.2.2.2.2.1 w Via.refl eT F (g := mkF m pc Ls st) rfl (hb C.2.1 hd)) hr
theorem getF_ (C : Cx p s m meth c Z code maxL ret own nm R FE k0) {R0 O n d : String} {index : Nat} {a : Addr} {v : Value} (w : (Cond.fieldLink own index R0 n d).before a0 Z = true) (via : Via Z R0 O n d) (F : Fld Z h a O n d v) (hd : decode code pc = .ok (.getfield index, 3)) (hp : pc + 3 = pc')
    (hr : Wk p l e R s m args below meth c Q FE h locs cells slots (mkF m pc' Ls (v :: st))) : Wk p l e R s m args below meth c Q FE h locs cells slots (mkF m pc Ls (.ref a :: st)) := by
  subst hp
  exact Wk.law (fun T X eT => RoadKit.getF (host := "") X C.1 C.2.2.2.2.2.1 C.2.2.2.2.1 (Or.inl w) via eT F (g := mkF m pc Ls (.ref a :: st)) rfl rfl (hb C.2.1 hd)) hr
theorem ret_Z (C : Cx p s m meth c Z code maxL ret own nm R FE k0) {z : Int32} (hd : decode code pc = .ok (.ireturn, 1)) (hret : ret = some .boolean) (hz : nar .boolean z = z) (hc : cells ≤ R.cells) (hs : slots ≤ R.slots) (hQ : Q (some (.int z)) h locs) (hk : k0 ≤ h.size := by exact Nat.zero_le _) : Wk p l e R s m args below meth c Q FE h locs cells slots (mkF m pc Ls (.int z :: st)) := fun T X eT => by
  obtain ⟨fs, hr, hrun, hended, hW, hsame⟩ := X.leave (v := some (.int (nar .boolean z))) (fun q => by rw [C.2.2.2.1.trans hret] at q; cases q) C.2.2.2.2.2.2.2.1
  refine ⟨_, _, RoadKit.retN X C.1 (t := .boolean) (C.2.2.2.1.trans hret) (Or.inl rfl) (hb C.2.1 hd) hr, hrun, hended, _, _, rfl, ?_, C.2.2.2.2.2.2.2.2 _ _ _ (by show k0 ≤ T.heap.size; rw [eT]; exact hk) ⟨⟨_, rfl⟩, hW, hsame.mono hc hs⟩⟩
  show Q _ T.heap _
  rw [eT, hz]; exact hQ
theorem ret_I (C : Cx p s m meth c Z code maxL ret own nm R FE k0) {z : Int32} (hd : decode code pc = .ok (.ireturn, 1)) (hret : ret = some .int) (hc : cells ≤ R.cells) (hs : slots ≤ R.slots) (hQ : Q (some (.int z)) h locs) (hk : k0 ≤ h.size := by exact Nat.zero_le _) : Wk p l e R s m args below meth c Q FE h locs cells slots (mkF m pc Ls (.int z :: st)) := fun T X eT => by
  obtain ⟨fs, hr, hrun, hended, hW, hsame⟩ := X.leave (v := some (.int z)) (fun q => by rw [C.2.2.2.1.trans hret] at q; cases q) C.2.2.2.2.2.2.2.1
  refine ⟨_, _, RoadKit.retOut X C.1 (t := .int) (i := .ireturn) (C.2.2.2.1.trans hret) rfl (Or.inl ⟨rfl, Or.inl rfl, z, rfl⟩) (hb C.2.1 hd) hr, hrun, hended, _, _, rfl, ?_, C.2.2.2.2.2.2.2.2 _ _ _ (by show k0 ≤ T.heap.size; rw [eT]; exact hk) ⟨⟨_, rfl⟩, hW, hsame.mono hc hs⟩⟩
  show Q _ T.heap _
  rw [eT]; exact hQ
theorem ret_J (C : Cx p s m meth c Z code maxL ret own nm R FE k0) {z : Int64} (hd : decode code pc = .ok (.lreturn, 1)) (hret : ret = some .long) (hc : cells ≤ R.cells) (hs : slots ≤ R.slots) (hQ : Q (some (.long z)) h locs) (hk : k0 ≤ h.size := by exact Nat.zero_le _) : Wk p l e R s m args below meth c Q FE h locs cells slots (mkF m pc Ls (.long z :: st)) := fun T X eT => by
  obtain ⟨fs, hr, hrun, hended, hW, hsame⟩ := X.leave (v := some (.long z)) (fun q => by rw [C.2.2.2.1.trans hret] at q; cases q) C.2.2.2.2.2.2.2.1
  refine ⟨_, _, RoadKit.retOut X C.1 (t := .long) (i := .lreturn) (C.2.2.2.1.trans hret) rfl (Or.inr (Or.inl ⟨rfl, rfl, z, rfl⟩)) (hb C.2.1 hd) hr, hrun, hended, _, _, rfl, ?_, C.2.2.2.2.2.2.2.2 _ _ _ (by show k0 ≤ T.heap.size; rw [eT]; exact hk) ⟨⟨_, rfl⟩, hW, hsame.mono hc hs⟩⟩
  show Q _ T.heap _
  rw [eT]; exact hQ
theorem ret_A (C : Cx p s m meth c Z code maxL ret own nm R FE k0) {w : Value} {t : FieldType} (hd : decode code pc = .ok (.areturn, 1)) (hret : ret = some t) (ht : t.isReference = true) (hw : w.isRef = true) (hn : narrow t w = w) (hc : cells ≤ R.cells) (hs : slots ≤ R.slots) (hQ : Q (some w) h locs) (hk : k0 ≤ h.size := by exact Nat.zero_le _) : Wk p l e R s m args below meth c Q FE h locs cells slots (mkF m pc Ls (w :: st)) := fun T X eT => by
  obtain ⟨fs, hr, hrun, hended, hW, hsame⟩ := X.leave (v := some w) (fun q => by rw [C.2.2.2.1.trans hret] at q; cases q) C.2.2.2.2.2.2.2.1
  refine ⟨_, _, RoadKit.retOut X C.1 (t := t) (i := .areturn) (C.2.2.2.1.trans hret) hn (Or.inr (Or.inr (Or.inr (Or.inr ⟨rfl, ht, hw⟩)))) (hb C.2.1 hd) hr, hrun, hended, _, _, rfl, ?_, C.2.2.2.2.2.2.2.2 _ _ _ (by show k0 ≤ T.heap.size; rw [eT]; exact hk) ⟨⟨_, rfl⟩, hW, hsame.mono hc hs⟩⟩
  show Q _ T.heap _
  rw [eT]; exact hQ
theorem ret_V (C : Cx p s m meth c Z code maxL ret own nm R FE k0)  (hd : decode code pc = .ok (.return_, 1)) (hret : ret = none) (hc : cells ≤ R.cells) (hs : slots ≤ R.slots) (hQ : Q none h locs) (hk : k0 ≤ h.size := by exact Nat.zero_le _) : Wk p l e R s m args below meth c Q FE h locs cells slots (mkF m pc Ls []) := fun T X eT => by
  obtain ⟨fs, hr, hrun, hended, hW, hsame⟩ := X.leave (v := none) (fun _ => rfl) C.2.2.2.2.2.2.2.1
  refine ⟨_, _, X.returnOut C.1 (C.2.2.2.1.trans hret) (hb C.2.1 hd) hr, hrun, hended, _, _, rfl, ?_, C.2.2.2.2.2.2.2.2 _ _ _ (by show k0 ≤ T.heap.size; rw [eT]; exact hk) ⟨⟨_, rfl⟩, hW, hsame.mono hc hs⟩⟩
  show Q _ T.heap _
  rw [eT]; exact hQ
theorem callS_ (C : Cx p s m meth c Z code maxL ret own nm R FE k0) {y : MethodName} {bytes : ByteArray} {maxL' index : Nat} {ret' : Option FieldType} {rm : Room} {Qc : Option Value → Heap → List Loc → Prop} {ps : List FieldType} {rt : Option FieldType} {W : Nat} (wl : (Cond.methodLink own index y).before a0 Z = true) (ws : (Cond.static y).before a0 Z = true) (wi : (Cond.initialized y.cls).before a0 Z = true) (wc : (Cond.code y bytes maxL' ret').before a0 Z = true) (hy : y.cls ≠ "java/lang/invoke/MethodHandle" ∧ y.cls ≠ "java/lang/invoke/VarHandle")
    (hpd : parseMethodDescriptor y.desc = some ⟨ps, rt⟩) (argsL rest : List Value) (hlen : argsL.length = ps.length) (hsz : Ls.size = maxL) (hW : (rest.map fun v => v.category).sum = W) (hfr : rm.frames + 1 ≤ R.frames) (hlo : W + (maxL' + 11) + rm.locals ≤ R.locals) (hce : cells + rm.cells ≤ R.cells) (hsl : slots + rm.slots ≤ R.slots) (hM : Met0 l Z y [] bytes maxL' ret' rm argsL.toArray h Qc) (hst : st = argsL.reverse ++ rest) (hd : decode code pc = .ok (.invokestatic index, 3)) (hp : pc + 3 = pc')
    (hr : ∀ v h' L, Qc v h' L → Wk p l e R s m args below meth c Q FE h' (locs ++ L) (cells + rm.cells) (slots + rm.slots) (mkF m pc' Ls (v.toList ++ rest))) : Wk p l e R s m args below meth c Q FE h locs cells slots (mkF m pc Ls st) := fun T X eT => by
  subst hp hW hst
  have hZ := C.2.2.2.2.2.1
  obtain ⟨v, vm₁, ⟨T', L', k', n'⟩, -, X', ⟨L, hq, q1, q2, q3⟩, st'⟩ := Jvm.LawKit.callS X C.1 (y := y) C.2.2.2.2.1 (mvT hZ wl) (mvT hZ ws) (mvT hZ wi) (mvT hZ wc) hy (backOf hM hZ wc wi hfr hlo) (g := mkF m pc Ls (argsL.reverse ++ rest)) rfl (by show Ls.size = _; rw [hsz, C.2.2.1]) (argsL := argsL) (rest := rest) (lenOf hpd hlen) rfl (by show 2 * 0 + _ ≤ _; omega) (hb C.2.1 hd) (fun _ _ => ⟨rfl, eT, hce, hsl⟩)
  dsimp only [Pt.U, Pt.locs, Pt.cells, Pt.slots] at X' q1 q2 q3 hq st'
  subst q1 q2 q3
  obtain ⟨s₂, o, st₂, r⟩ := hr v _ L hq T' X' rfl
  exact ⟨s₂, o, st' _ st₂, r⟩
theorem callV_ (C : Cx p s m meth c Z code maxL ret own nm R FE k0) {y : MethodName} {bytes : ByteArray} {maxL' index : Nat} {ret' : Option FieldType} {rm : Room} {Qc : Option Value → Heap → List Loc → Prop} {ps : List FieldType} {rt : Option FieldType} {W : Nat} {z : MethodName} {K : String} {b : Addr} (wl : (Cond.methodLink own index y).before a0 Z = true) (wd : (Cond.declares y).before a0 Z = true) (hnf : ∀ U : State, Z.Warmed39 U.vm → NotFace U y) (wse : (Cond.selects K y z).before a0 Z = true) (win : (Cond.instanceMethod z).before a0 Z = true) (wi : (Cond.initialized z.cls).before a0 Z = true) (wc : (Cond.code z bytes maxL' ret').before a0 Z = true) (hy : y.cls ≠ "java/lang/invoke/MethodHandle" ∧ y.cls ≠ "java/lang/invoke/VarHandle") (E : Exa Z h b K)
    (hpd : parseMethodDescriptor y.desc = some ⟨ps, rt⟩) (argsL rest : List Value) (hlen : argsL.length = ps.length) (hsz : Ls.size = maxL) (hW : (rest.map fun v => v.category).sum = W) (hfr : rm.frames + 1 ≤ R.frames) (hlo : W + (maxL' + 11) + rm.locals ≤ R.locals) (hce : cells + rm.cells ≤ R.cells) (hsl : slots + rm.slots ≤ R.slots) (hM : Met0 l Z z [] bytes maxL' ret' rm (.ref b :: argsL).toArray h Qc) (hst : st = argsL.reverse ++ .ref b :: rest) (hd : decode code pc = .ok (.invokevirtual index, 3)) (hp : pc + 3 = pc')
    (hr : ∀ v h' L, Qc v h' L → Wk p l e R s m args below meth c Q FE h' (locs ++ L) (cells + rm.cells) (slots + rm.slots) (mkF m pc' Ls (v.toList ++ rest))) : Wk p l e R s m args below meth c Q FE h locs cells slots (mkF m pc Ls st) := fun T X eT => by
  subst hp hW hst
  have hZ := C.2.2.2.2.2.1
  obtain ⟨cq, kq, qa, qb, qc⟩ := isOf hZ eT E
  obtain ⟨v, vm₁, ⟨T', L', k', n'⟩, -, X', ⟨L, hq, q1, q2, q3⟩, st'⟩ := X.virtualBack C.1 (y := y) (z := z) C.2.2.2.2.1 (mvT hZ wl) (mvT hZ wd) (hnf s hZ) (mvT hZ wse) (mvT hZ win) hy (backOf hM hZ wc wi hfr hlo) qa qc (g := mkF m pc Ls (argsL.reverse ++ .ref b :: rest)) rfl (by show Ls.size = _; rw [hsz, C.2.2.1]) (Steps.refl _) (argsL := argsL) (rest := rest) (lenOf hpd hlen) rfl (by show 2 * 0 + _ ≤ _; omega) (hb C.2.1 hd) (fun _ _ => ⟨rfl, eT, hce, hsl⟩)
  dsimp only [Pt.U, Pt.locs, Pt.cells, Pt.slots] at X' q1 q2 q3 hq st'
  subst q1 q2 q3
  obtain ⟨s₂, o, st₂, r⟩ := hr v _ L hq T' X' rfl
  exact ⟨s₂, o, st'.trans st₂, r⟩
theorem nf_sel {Z : State} {a0 : Array Value} {y : MethodName} {K : String} (w : (Cond.selects K y y).before a0 Z = true) : ∀ U : State, Z.Warmed39 U.vm → NotFace U y := fun U hZ => notFace_of_selects (args := #[]) (mvT hZ w)
theorem callUp_ (C : Cx p s m meth c Z code maxL ret own nm R FE k0) {y : MethodName} {bytes : ByteArray} {maxL' index : Nat} {ret' : Option FieldType} {rm : Room} {Qc : Option Value → Heap → List Loc → Prop} {ps : List FieldType} {rt : Option FieldType} {W : Nat} {z : MethodName} {K owner : String} {b : Addr} (wl : (Cond.methodLink own index y).before a0 Z = true) (wsm : (Cond.sameMethod y.cls owner y.name y.desc).before a0 Z = true) (wd : (Cond.declares ⟨owner, y.name, y.desc⟩).before a0 Z = true) (wse : (Cond.selects K y z).before a0 Z = true) (win : (Cond.instanceMethod z).before a0 Z = true) (wi : (Cond.initialized z.cls).before a0 Z = true) (wc : (Cond.code z bytes maxL' ret').before a0 Z = true) (hy : owner ≠ "java/lang/invoke/MethodHandle" ∧ owner ≠ "java/lang/invoke/VarHandle") (E : Exa Z h b K)
    (hpd : parseMethodDescriptor y.desc = some ⟨ps, rt⟩) (argsL rest : List Value) (hlen : argsL.length = ps.length) (hsz : Ls.size = maxL) (hW : (rest.map fun v => v.category).sum = W) (hfr : rm.frames + 1 ≤ R.frames) (hlo : W + (maxL' + 11) + rm.locals ≤ R.locals) (hce : cells + rm.cells ≤ R.cells) (hsl : slots + rm.slots ≤ R.slots) (hM : Met0 l Z z [] bytes maxL' ret' rm (.ref b :: argsL).toArray h Qc) (hst : st = argsL.reverse ++ .ref b :: rest) (hd : decode code pc = .ok (.invokevirtual index, 3)) (hp : pc + 3 = pc')
    (hr : ∀ v h' L, Qc v h' L → Wk p l e R s m args below meth c Q FE h' (locs ++ L) (cells + rm.cells) (slots + rm.slots) (mkF m pc' Ls (v.toList ++ rest))) : Wk p l e R s m args below meth c Q FE h locs cells slots (mkF m pc Ls st) := fun T X eT => by
  subst hp hW hst
  have hZ := C.2.2.2.2.2.1
  obtain ⟨cq, kq, qa, qb, qc⟩ := isOf hZ eT E
  obtain ⟨v, vm₁, ⟨T', L', k', n'⟩, -, X', ⟨L, hq, q1, q2, q3⟩, st'⟩ := X.virtualBackUp C.1 (x := y) (y := z) C.2.2.2.2.1 (mvT hZ wl) (mvT hZ wsm) (mvT hZ wd) hy (mvT hZ wse) (mvT hZ win) (backOf hM hZ wc wi hfr hlo) qa qc (g := mkF m pc Ls (argsL.reverse ++ .ref b :: rest)) rfl (by show Ls.size = _; rw [hsz, C.2.2.1]) (Steps.refl _) (argsL := argsL) (rest := rest) (lenOf hpd hlen) rfl (by show 2 * 0 + _ ≤ _; omega) (hb C.2.1 hd) (fun _ _ => ⟨rfl, eT, hce, hsl⟩)
  dsimp only [Pt.U, Pt.locs, Pt.cells, Pt.slots] at X' q1 q2 q3 hq st'
  subst q1 q2 q3
  obtain ⟨s₂, o, st₂, r⟩ := hr v _ L hq T' X' rfl
  exact ⟨s₂, o, st'.trans st₂, r⟩
theorem instY_ (C : Cx p s m meth c Z code maxL ret own nm R FE k0) {K : String} {index : Nat} {a : Addr} (w : (Cond.classLink own index K).before a0 Z = true) (F : Ins Z h a K true) (hd : decode code pc = .ok (.instanceof index, 3)) (hp : pc + 3 = pc')
    (hr : Wk p l e R s m args below meth c Q FE h locs cells slots (mkF m pc' Ls (.int 1 :: st))) : Wk p l e R s m args below meth c Q FE h locs cells slots (mkF m pc Ls (.ref a :: st)) := by
  subst hp
  exact Wk.law (fun T X eT => RoadKit.instY X C.1 C.2.2.2.2.2.1 C.2.2.2.2.1 w eT F (g := mkF m pc Ls (.ref a :: st)) rfl rfl (hb C.2.1 hd)) hr
theorem newO_ (C : Cx p s m meth c Z code maxL ret own nm R FE k0) {K : String} {index n : Nat} (w : (Cond.classLink own index K).before a0 Z = true) (wi : (Cond.instantiable K n).before a0 Z = true) (wz : (Cond.initialized K).before a0 Z = true) (hd : decode code pc = .ok (.new index, 3)) (hp : pc + 3 = pc') (hc : cells + 1 ≤ R.cells) (hl : slots + n ≤ R.slots)
    (hr : ∀ h' a, a = h.size → Ext h h' → Exa Z h' a K → (∀ {O nm d : String} {ty : FieldType}, Laid Z a0 K O nm d → parseFieldDescriptor d = some ty → Fld Z h' a O nm d (defaultValue ty)) → Wk p l e R s m args below meth c Q FE h' locs (cells + 1) (slots + n) (mkF m pc' Ls (.ref a :: st))) : Wk p l e R s m args below meth c Q FE h locs cells slots (mkF m pc Ls st) := fun T X eT => by
  subst hp
  obtain ⟨T', h', X', e', E', A', D', -, q⟩ := RoadKit.newO X C.1 C.2.2.2.2.2.1 C.2.2.2.2.1 w wi wz eT (g := mkF m pc Ls st) rfl (hb C.2.1 hd) hc hl
  obtain ⟨s₂, o, st₂, r⟩ := hr h' _ rfl E' A' D' T' X' e'
  exact ⟨s₂, o, q s₂ st₂, r⟩
theorem putF_ (C : Cx p s m meth c Z code maxL ret own nm R FE k0) {R0 O n d K : String} {index kk : Nat} {ty : FieldType} {a : Addr} {v old : Value} (w : (Cond.fieldLink own index R0 n d).before a0 Z = true) (via : Via Z R0 O n d) (F : Fld Z h a O n d old) (E : Exa Z h a K) (Lw : (Cond.lays K O n d).before a0 Z = true ∨ ((Cond.laysFinal K O n d).before a0 Z = true ∧ own = O ∧ nm = "<init>")) (wi : (Cond.instantiable K kk).before a0 Z = true)
    (hty : parseFieldDescriptor d = some ty) (hn : narrow ty v = v) (hf : fits ty v = true) (hd : decode code pc = .ok (.putfield index, 3)) (hp : pc + 3 = pc')
    (hr : ∀ h', Wr h h' a (Jvm.RoadKit.slotOf Z O n d) v → Wk p l e R s m args below meth c Q FE h' (locs ++ [⟨a, Jvm.RoadKit.slotOf Z O n d⟩]) cells slots (mkF m pc' Ls st)) : Wk p l e R s m args below meth c Q FE h locs cells slots (mkF m pc Ls (v :: .ref a :: st)) := fun T X eT => by
  subst hp
  obtain ⟨T', h', X', e', W', q⟩ := RoadKit.putF (host := "") X C.1 C.2.2.2.2.2.1 C.2.2.2.2.1 (Or.inl w) via eT F E (Lw.imp id fun z => ⟨z.1, z.2.1, C.2.2.2.2.2.2.1.trans z.2.2⟩) wi hty hn hf (g := mkF m pc Ls (v :: .ref a :: st)) rfl rfl (hb C.2.1 hd)
  obtain ⟨s₂, o, st₂, r⟩ := hr h' W' T' X' e'
  exact ⟨s₂, o, q s₂ st₂, r⟩
theorem initO_ (C : Cx p s m meth c Z code maxL ret own nm R FE k0) {index : Nat} {a : Addr} {W : Nat} (w1 : (Cond.methodLink own index Lib.objectInit).before a0 Z = true) (w2 : (Cond.instanceMethod Lib.objectInit).before a0 Z = true) (w3 : (Cond.code Lib.objectInit ⟨#[0xb1]⟩ 1 none).before a0 Z = true) (hsz : Ls.size = maxL) (hd : decode code pc = .ok (.invokespecial index, 3)) (hf : 1 ≤ R.frames) (hW : (st.map fun v => v.category).sum = W) (hl : W + 12 ≤ R.locals) (hp : pc + 3 = pc')
    (hr : Wk p l e R s m args below meth c Q FE h locs cells slots (mkF m pc' Ls st)) : Wk p l e R s m args below meth c Q FE h locs cells slots (mkF m pc Ls (.ref a :: st)) := by
  subst hp hW
  exact Wk.law (fun T X eT => RoadKit.initO X C.1 C.2.2.2.2.2.1 C.2.2.2.2.1 w1 w2 w3 eT (g := mkF m pc Ls (.ref a :: st)) rfl (by show Ls.size = _; rw [hsz, C.2.2.1]) rfl (hb C.2.1 hd) hf (by show 2 * 0 + _ ≤ _; omega) hl) hr
theorem callC_ (C : Cx p s m meth c Z code maxL ret own nm R FE k0) {y : MethodName} {bytes : ByteArray} {maxL' index : Nat} {rm : Room} {Qc : Option Value → Heap → List Loc → Prop} {ps : List FieldType} {rt : Option FieldType} {W : Nat} {a : Addr} (hy1 : y.name = "<init>") (wl : (Cond.methodLink own index y).before a0 Z = true) (win : (Cond.instanceMethod y).before a0 Z = true) (wi : (Cond.initialized y.cls).before a0 Z = true) (wc : (Cond.code y bytes maxL' none).before a0 Z = true) (hy : y.cls ≠ "java/lang/invoke/MethodHandle" ∧ y.cls ≠ "java/lang/invoke/VarHandle")
    (hpd : parseMethodDescriptor y.desc = some ⟨ps, rt⟩) (argsL rest : List Value) (hlen : argsL.length = ps.length) (hsz : Ls.size = maxL) (hW : (rest.map fun v => v.category).sum = W) (hfr : rm.frames + 1 ≤ R.frames) (hlo : W + (maxL' + 11) + rm.locals ≤ R.locals) (hce : cells + rm.cells ≤ R.cells) (hsl : slots + rm.slots ≤ R.slots) (hM : Met0 l Z y [] bytes maxL' none rm (.ref a :: argsL).toArray h Qc) (hst : st = argsL.reverse ++ .ref a :: rest) (hd : decode code pc = .ok (.invokespecial index, 3)) (hp : pc + 3 = pc')
    (hr : ∀ v h' L, Qc v h' L → Wk p l e R s m args below meth c Q FE h' (locs ++ L) (cells + rm.cells) (slots + rm.slots) (mkF m pc' Ls (v.toList ++ rest))) : Wk p l e R s m args below meth c Q FE h locs cells slots (mkF m pc Ls st) := fun T X eT => by
  subst hp hW hst
  have hZ := C.2.2.2.2.2.1
  obtain ⟨v, vm₁, ⟨T', L', k', n'⟩, -, X', ⟨L, hq, q1, q2, q3⟩, st'⟩ := X.specialBack C.1 (y := y) hy1 C.2.2.2.2.1 (mvT hZ wl) (mvT hZ win) (mvT hZ wc) hy (backOf hM hZ wc wi hfr hlo) (g := mkF m pc Ls (argsL.reverse ++ .ref a :: rest)) rfl (by show Ls.size = _; rw [hsz, C.2.2.1]) (Steps.refl _) (a := a) (argsL := argsL) (rest := rest) (lenOf hpd hlen) rfl (by show 2 * 0 + _ ≤ _; omega) (hb C.2.1 hd) (fun _ _ => ⟨rfl, eT, hce, hsl⟩)
  dsimp only [Pt.U, Pt.locs, Pt.cells, Pt.slots] at X' q1 q2 q3 hq st'
  subst q1 q2 q3
  obtain ⟨s₂, o, st₂, r⟩ := hr v _ L hq T' X' rfl
  exact ⟨s₂, o, st'.trans st₂, r⟩
theorem callF_ (C : Cx p s m meth c Z code maxL ret own nm R FE k0) {y : MethodName} {bytes : ByteArray} {maxL' index : Nat} {ret' : Option FieldType} {rm : Room} {Qc : Option Value → Heap → List Loc → Prop} {ps : List FieldType} {rt : Option FieldType} {W : Nat} {z : MethodName} {K : String} {b : Addr} {count : Nat} (wl : (Cond.methodLink own index y).before a0 Z = true) (wd : (Cond.declares y).before a0 Z = true) (wim : (Cond.interfaceMethod y.cls y.cls y.name y.desc).before a0 Z = true) (hfa : ((Cond.interfaceMethod y.cls y.cls y.name y.desc).onTables && (Cond.interfaceMethod y.cls y.cls y.name y.desc).keepsFace) = true) (wse : (Cond.selects K y z).before a0 Z = true) (win : (Cond.instanceMethod z).before a0 Z = true) (wpu : (Cond.publicMethod z).before a0 Z = true) (wun : (Cond.unhidden K y.name y.desc).before a0 Z = true) (wca : (Cond.castable K y.cls).before a0 Z = true) (wi : (Cond.initialized z.cls).before a0 Z = true) (wc : (Cond.code z bytes maxL' ret').before a0 Z = true) (hy : y.cls ≠ "java/lang/invoke/MethodHandle" ∧ y.cls ≠ "java/lang/invoke/VarHandle") (E : Exa Z h b K)
    (hpd : parseMethodDescriptor y.desc = some ⟨ps, rt⟩) (argsL rest : List Value) (hlen : argsL.length = ps.length) (hsz : Ls.size = maxL) (hW : (rest.map fun v => v.category).sum = W) (hfr : rm.frames + 1 ≤ R.frames) (hlo : W + (maxL' + 11) + rm.locals ≤ R.locals) (hce : cells + rm.cells ≤ R.cells) (hsl : slots + rm.slots ≤ R.slots) (hM : Met0 l Z z [] bytes maxL' ret' rm (.ref b :: argsL).toArray h Qc) (hst : st = argsL.reverse ++ .ref b :: rest) (hd : decode code pc = .ok (.invokeinterface index count, 5)) (hp : pc + 5 = pc')
    (hr : ∀ v h' L, Qc v h' L → Wk p l e R s m args below meth c Q FE h' (locs ++ L) (cells + rm.cells) (slots + rm.slots) (mkF m pc' Ls (v.toList ++ rest))) : Wk p l e R s m args below meth c Q FE h locs cells slots (mkF m pc Ls st) := fun T X eT => by
  subst hp hW hst
  have hZ := C.2.2.2.2.2.1
  obtain ⟨cq, kq, qa, qb, qc⟩ := isOf hZ eT E
  obtain ⟨v, vm₁, ⟨T', L', k', n'⟩, -, X', ⟨L, hq, q1, q2, q3⟩, st'⟩ := X.interfaceBack C.1 (xi := y) (y := z) C.2.2.2.2.1 (mvT hZ wl) (mvT hZ wd) (mvT hZ wim hfa) (mvT hZ wse) (mvT hZ win) (mvT hZ wpu) (mvT hZ wun) (mvT hZ wca) hy (backOf hM hZ wc wi hfr hlo) qa qb qc (g := mkF m pc Ls (argsL.reverse ++ .ref b :: rest)) rfl (by show Ls.size = _; rw [hsz, C.2.2.1]) (Steps.refl _) (argsL := argsL) (rest := rest) (lenOf hpd hlen) rfl (by show 2 * 0 + _ ≤ _; omega) (hb C.2.1 hd) (fun _ _ => ⟨rfl, eT, hce, hsl⟩)
  dsimp only [Pt.U, Pt.locs, Pt.cells, Pt.slots] at X' q1 q2 q3 hq st'
  subst q1 q2 q3
  obtain ⟨s₂, o, st₂, r⟩ := hr v _ L hq T' X' rfl
  exact ⟨s₂, o, st'.trans st₂, r⟩
theorem newP_ (C : Cx p s m meth c Z code maxL ret own nm R FE k0) {aty : ArrayType} {ty : FieldType} {n : Int32} {cap : Nat} (hty : newarray.typeOf aty = ty) (w : (Cond.arrayClass ty).before a0 Z = true) (hd : decode code pc = .ok (.newarray aty, 2)) (hp : pc + 2 = pc') (hn : ¬ n < 0) (hcap : n.toNatClampNeg ≤ cap) (hb8 : cap * 8 ≤ 536870912) (hc : cells + 1 ≤ R.cells) (hl : slots + cap ≤ R.slots)
    (hr : ∀ h' cA a, a = h.size → Ext h h' → Arv Z h' a cA ty n [] (defaultValue ty) → Wk p l e R s m args below meth c Q FE h' locs (cells + 1) (slots + cap) (mkF m pc' Ls (.ref a :: st))) : Wk p l e R s m args below meth c Q FE h locs cells slots (mkF m pc Ls (.int n :: st)) := fun T X eT => by
  subst hp hty
  obtain ⟨T', h', cA, X', e', E', A', q⟩ := RoadKit.newP X C.1 C.2.2.2.2.2.1 w eT (g := mkF m pc Ls (.int n :: st)) rfl (hb C.2.1 hd) rfl hn hcap hb8 hc hl
  obtain ⟨s₂, o, st₂, r⟩ := hr h' cA _ rfl E' (Arv.new A' hn) T' X' e'
  exact ⟨s₂, o, q s₂ st₂, r⟩
theorem newR_ (C : Cx p s m meth c Z code maxL ret own nm R FE k0) {K : String} {index : Nat} {n : Int32} {cap : Nat} (w1 : (Cond.classLink own index K).before a0 Z = true) (w2 : (Cond.arrayOver (.object K)).before a0 Z = true) (hd : decode code pc = .ok (.anewarray index, 3)) (hp : pc + 3 = pc') (hn : ¬ n < 0) (hcap : n.toNatClampNeg ≤ cap) (hb8 : cap * 8 ≤ 536870912) (hc : cells + 1 ≤ R.cells) (hl : slots + cap ≤ R.slots)
    (hr : ∀ h' cA a, a = h.size → Ext h h' → Arv Z h' a cA (.object K) n [] (defaultValue (.object K)) → Ovr Z cA K → Wk p l e R s m args below meth c Q FE h' locs (cells + 1) (slots + cap) (mkF m pc' Ls (.ref a :: st))) : Wk p l e R s m args below meth c Q FE h locs cells slots (mkF m pc Ls (.int n :: st)) := fun T X eT => by
  subst hp
  obtain ⟨T', h', cA, X', e', E', A', O', q⟩ := RoadKit.newR X C.1 C.2.2.2.2.2.1 C.2.2.2.2.1 w1 w2 eT (g := mkF m pc Ls (.int n :: st)) rfl (hb C.2.1 hd) rfl hn hcap hb8 hc hl
  obtain ⟨s₂, o, st₂, r⟩ := hr h' cA _ rfl E' (Arv.new A' hn) O' T' X' e'
  exact ⟨s₂, o, q s₂ st₂, r⟩
theorem stI_ (C : Cx p s m meth c Z code maxL ret own nm R FE k0) {a : Addr} {k : ClassId} {n j x : Int32} {vs : List Value} {dv : Value} (A : Arv Z h a k .int n vs dv) (hj : ¬ j < 0 ∧ j < n) (i : Nat) (hi : j.toNatClampNeg = i) (hlen : i < vs.length) (hd : decode code pc = .ok (.iastore, 1)) (hp : pc + 1 = pc')
    (hr : ∀ h', Wr h h' a j.toNatClampNeg (.int x) → Arv Z h' a k .int n (vs.set i (.int x)) dv → Wk p l e R s m args below meth c Q FE h' (locs ++ [⟨a, j.toNatClampNeg⟩]) cells slots (mkF m pc' Ls st)) : Wk p l e R s m args below meth c Q FE h locs cells slots (mkF m pc Ls (.int x :: .int j :: .ref a :: st)) := fun T X eT => by
  subst hp
  obtain ⟨cl, A1, q1, S1, N1, H1, G1⟩ := A
  obtain ⟨T', h', X', e', W', q⟩ := RoadKit.stI X C.1 C.2.2.2.2.2.1 eT A1 (inb_of S1 hj) (g := mkF m pc Ls (.int x :: .int j :: .ref a :: st)) rfl rfl (hb C.2.1 hd)
  obtain ⟨s₂, o, st₂, r⟩ := hr h' W' (Arv.set A1 q1 S1 N1 H1 G1 rfl W' i hi hlen) T' X' e'
  exact ⟨s₂, o, q s₂ st₂, r⟩
theorem stR_ (C : Cx p s m meth c Z code maxL ret own nm R FE k0) {a b : Addr} {k : ClassId} {K K' : String} {n j : Int32} {vs : List Value} {dv : Value} (A : Arv Z h a k (.object K) n vs dv) (O : Ovr Z k K) (I : Ins Z h b K true) (hj : ¬ j < 0 ∧ j < n) (i : Nat) (hi : j.toNatClampNeg = i) (hlen : i < vs.length) (hd : decode code pc = .ok (.aastore, 1)) (hp : pc + 1 = pc')
    (hr : ∀ h', Wr h h' a j.toNatClampNeg (.ref b) → Arv Z h' a k (.object K) n (vs.set i (.ref b)) dv → Wk p l e R s m args below meth c Q FE h' (locs ++ [⟨a, j.toNatClampNeg⟩]) cells slots (mkF m pc' Ls st)) : Wk p l e R s m args below meth c Q FE h locs cells slots (mkF m pc Ls (.ref b :: .int j :: .ref a :: st)) := fun T X eT => by
  subst hp
  obtain ⟨cl, A1, q1, S1, N1, H1, G1⟩ := A
  obtain ⟨T', h', X', e', W', q⟩ := RoadKit.stR X C.1 C.2.2.2.2.2.1 eT A1 (inb_of S1 hj) rfl (Sto.ofV A1 q1 O I) (g := mkF m pc Ls (.ref b :: .int j :: .ref a :: st)) rfl rfl (hb C.2.1 hd)
  obtain ⟨s₂, o, st₂, r⟩ := hr h' W' (Arv.set A1 q1 S1 N1 H1 G1 rfl W' i hi hlen) T' X' e'
  exact ⟨s₂, o, q s₂ st₂, r⟩
theorem ldI_ (C : Cx p s m meth c Z code maxL ret own nm R FE k0) {a : Addr} {cl : Cell} {j : Int32} {v : Value} (A : Arr Z h a cl .int) (hin : ¬ (j < 0 ∨ cl.slots.size ≤ j.toNatClampNeg)) (hv : cl.slots[j.toNatClampNeg]? = some v) (hd : decode code pc = .ok (.iaload, 1)) (hp : pc + 1 = pc')
    (hr : Wk p l e R s m args below meth c Q FE h locs cells slots (mkF m pc' Ls (v :: st))) : Wk p l e R s m args below meth c Q FE h locs cells slots (mkF m pc Ls (.int j :: .ref a :: st)) := by
  subst hp
  exact Wk.step (fun T t X eT q => X.iaload C.1 (j := j) (v := v) (by rw [eT]; exact A.1) (State.isArrayOf_alike C.2.2.2.2.2.1.alike A.2.1) A.2.2 hin hv (g := mkF m pc Ls (.int j :: .ref a :: st)) rfl rfl (hb C.2.1 hd) t q) hr
theorem ldA_ (C : Cx p s m meth c Z code maxL ret own nm R FE k0) {a : Addr} {cl : Cell} {ty : FieldType} {j : Int32} {v : Value} (A : Arr Z h a cl ty) (hty : ty.isReference = true) (hin : ¬ (j < 0 ∨ cl.slots.size ≤ j.toNatClampNeg)) (hv : cl.slots[j.toNatClampNeg]? = some v) (hd : decode code pc = .ok (.aaload, 1)) (hp : pc + 1 = pc')
    (hr : Wk p l e R s m args below meth c Q FE h locs cells slots (mkF m pc' Ls (v :: st))) : Wk p l e R s m args below meth c Q FE h locs cells slots (mkF m pc Ls (.int j :: .ref a :: st)) := by
  subst hp
  exact Wk.step (fun T t X eT q => X.aaload C.1 (j := j) (v := v) (by rw [eT]; exact A.1) (State.isArrayOf_alike C.2.2.2.2.2.1.alike A.2.1) hty A.2.2 hin hv (g := mkF m pc Ls (.int j :: .ref a :: st)) rfl rfl (hb C.2.1 hd) t q) hr
theorem Fr.put {k : Nat} {L : List Loc} {a : Addr} {i : Nat} (N : Fr k L) (q : k ≤ a) : Fr k (L ++ [⟨a, i⟩]) := N.app fun y hy => by cases List.mem_singleton.mp hy; exact q
theorem ldcS_ {vm0 : Vm} (C : Cx p (s.setVm vm0) m meth c Z code maxL ret own nm R (FEw s R) k0) (hS : s.Since vm0 k0) (hk : k0 ≤ h.size) {text : String} {index n : Nat} (w : (Cond.stringLink own index text).before a0 Z = true) (wS : ∀ a ∈ Bundle.stringAtoms, a.before a0 Z = true) (hd : decode code pc = .ok (.ldc index, 2)) (hp : pc + 2 = pc') (hn : 4 * text.toList.length ≤ n) (hbig : n ≤ 536870912) (hc : cells + 2 ≤ R.cells) (hl : slots + (n + 4) ≤ R.slots)
    (hr : ∀ vm1 k1 a h', Cx p (s.setVm vm1) m meth c Z code maxL ret own nm R (FEw s R) k1 → s.Since vm1 k1 → k1 ≤ h'.size → Ext h h' → Wk p l e R (s.setVm vm1) m args below meth c Q (FEw s R) h' locs (cells + 2) (slots + (n + 4)) (mkF m pc' Ls (.ref a :: st))) : Wk p l e R (s.setVm vm0) m args below meth c Q (FEw s R) h locs cells slots (mkF m pc Ls st) := fun T X eT => by
  subst hp
  obtain ⟨a, T', h', k1, X', e', E', hS', hk', hZ', ho', q⟩ := RoadKit.ldcS X C.1 C.2.2.2.2.2.1 C.2.2.2.2.1 w wS eT hS hk (g := mkF m pc Ls st) rfl (hb C.2.1 hd) hn hbig hc hl
  obtain ⟨s₂, o, st₂, r⟩ := hr T'.vm k1 a h' ⟨C.1, C.2.1, C.2.2.1, C.2.2.2.1, ho', hZ', C.2.2.2.2.2.2.1, C.2.2.2.2.2.2.2.1, fe_since hS'⟩ hS' hk' E' T' X' e'
  exact ⟨s₂, o, q s₂ st₂, r⟩
theorem callCS_ {vm0 : Vm} (C : Cx p (s.setVm vm0) m meth c Z code maxL ret own nm R (FEw s R) k0) (hS : s.Since vm0 k0) (hk : k0 ≤ h.size) {y : MethodName} {bytes : ByteArray} {maxL' index : Nat} {rm : Room} {Qc : Option Value → Heap → List Loc → Prop} {ps : List FieldType} {rt : Option FieldType} {W : Nat} {a : Addr} (hy1 : y.name = "<init>") (wl : (Cond.methodLink own index y).before a0 Z = true) (win : (Cond.instanceMethod y).before a0 Z = true) (wi : (Cond.initialized y.cls).before a0 Z = true) (wc : (Cond.code y bytes maxL' none).before a0 Z = true) (hy : y.cls ≠ "java/lang/invoke/MethodHandle" ∧ y.cls ≠ "java/lang/invoke/VarHandle")
    (hpd : parseMethodDescriptor y.desc = some ⟨ps, rt⟩) (argsL rest : List Value) (hlen : argsL.length = ps.length) (hsz : Ls.size = maxL) (hW : (rest.map fun v => v.category).sum = W) (hfr : rm.frames + 1 ≤ R.frames) (hlo : W + (maxL' + 11) + rm.locals ≤ R.locals) (hce : cells + rm.cells ≤ R.cells) (hsl : slots + rm.slots ≤ R.slots) (hM : MetS l Z y [] bytes maxL' none rm (.ref a :: argsL).toArray h Qc) (hst : st = argsL.reverse ++ .ref a :: rest) (hd : decode code pc = .ok (.invokespecial index, 3)) (hp : pc + 3 = pc')
    (hr : ∀ vm1 k1 v h' L, Qc v h' L → Cx p (s.setVm vm1) m meth c Z code maxL ret own nm R (FEw s R) k1 → s.Since vm1 k1 → k1 ≤ h'.size → h.size ≤ h'.size → Wk p l e R (s.setVm vm1) m args below meth c Q (FEw s R) h' (locs ++ L) (cells + rm.cells) (slots + rm.slots) (mkF m pc' Ls (v.toList ++ rest))) : Wk p l e R (s.setVm vm0) m args below meth c Q (FEw s R) h locs cells slots (mkF m pc Ls st) := fun T X eT => by
  subst hp hW hst
  have hZ : Z.Warmed39 (s.setVm vm0).vm := C.2.2.2.2.2.1
  obtain ⟨v, vm₁, ⟨T', L', k', n'⟩, -, X', hS', hgr, ⟨L, hq, q1, q2, q3⟩, st'⟩ := X.specialBackS C.1 (y := y) hy1 C.2.2.2.2.1 (mvT hZ wl) (mvT hZ win) (mvT hZ wc) hy (backOfS hM hZ wc wi hfr hlo) (g := mkF m pc Ls (argsL.reverse ++ .ref a :: rest)) rfl (by show Ls.size = _; rw [hsz, C.2.2.1]) (Steps.refl _) (a := a) (argsL := argsL) (rest := rest) (lenOf hpd hlen) rfl (by show 2 * 0 + _ ≤ _; omega) (hb C.2.1 hd) (fun _ _ => ⟨rfl, eT, hce, hsl⟩)
  dsimp only [Pt.U, Pt.locs, Pt.cells, Pt.slots] at X' q1 q2 q3 hq hgr hS' st'
  subst q1 q2 q3
  have hS1 : s.Since T'.vm T'.heap.size := foldS hS (by rw [eT]; exact hk) hS' hgr
  obtain ⟨s₂, o, st₂, r⟩ := hr T'.vm T'.heap.size v _ L hq ⟨C.1, C.2.1, C.2.2.1, C.2.2.2.1, by rw [show (s.setVm T'.vm).vm = T'.vm from rfl, hS'.1.alike.findClass]; exact C.2.2.2.2.1, State.Warmed39.trans (t := s.setVm vm0) C.2.2.2.2.2.1 hS'.1, C.2.2.2.2.2.2.1, C.2.2.2.2.2.2.2.1, fe_since hS1⟩ hS1 (Nat.le_refl _) (by rw [← eT]; exact hgr) T' X' rfl
  exact ⟨s₂, o, st'.trans st₂, r⟩
theorem callVS_ {vm0 : Vm} (C : Cx p (s.setVm vm0) m meth c Z code maxL ret own nm R (FEw s R) k0) (hS : s.Since vm0 k0) (hk : k0 ≤ h.size) {y : MethodName} {bytes : ByteArray} {maxL' index : Nat} {ret' : Option FieldType} {rm : Room} {Qc : Option Value → Heap → List Loc → Prop} {ps : List FieldType} {rt : Option FieldType} {W : Nat} {z : MethodName} {K : String} {b : Addr} (wl : (Cond.methodLink own index y).before a0 Z = true) (wd : (Cond.declares y).before a0 Z = true) (hnf : ∀ U : State, Z.Warmed39 U.vm → NotFace U y) (wse : (Cond.selects K y z).before a0 Z = true) (win : (Cond.instanceMethod z).before a0 Z = true) (wi : (Cond.initialized z.cls).before a0 Z = true) (wc : (Cond.code z bytes maxL' ret').before a0 Z = true) (hy : y.cls ≠ "java/lang/invoke/MethodHandle" ∧ y.cls ≠ "java/lang/invoke/VarHandle") (E : Exa Z h b K)
    (hpd : parseMethodDescriptor y.desc = some ⟨ps, rt⟩) (argsL rest : List Value) (hlen : argsL.length = ps.length) (hsz : Ls.size = maxL) (hW : (rest.map fun v => v.category).sum = W) (hfr : rm.frames + 1 ≤ R.frames) (hlo : W + (maxL' + 11) + rm.locals ≤ R.locals) (hce : cells + rm.cells ≤ R.cells) (hsl : slots + rm.slots ≤ R.slots) (hM : MetS l Z z [] bytes maxL' ret' rm (.ref b :: argsL).toArray h Qc) (hst : st = argsL.reverse ++ .ref b :: rest) (hd : decode code pc = .ok (.invokevirtual index, 3)) (hp : pc + 3 = pc')
    (hr : ∀ vm1 k1 v h' L, Qc v h' L → Cx p (s.setVm vm1) m meth c Z code maxL ret own nm R (FEw s R) k1 → s.Since vm1 k1 → k1 ≤ h'.size → h.size ≤ h'.size → Wk p l e R (s.setVm vm1) m args below meth c Q (FEw s R) h' (locs ++ L) (cells + rm.cells) (slots + rm.slots) (mkF m pc' Ls (v.toList ++ rest))) : Wk p l e R (s.setVm vm0) m args below meth c Q (FEw s R) h locs cells slots (mkF m pc Ls st) := fun T X eT => by
  subst hp hW hst
  have hZ : Z.Warmed39 (s.setVm vm0).vm := C.2.2.2.2.2.1
  obtain ⟨cq, kq, qa, qb, qc⟩ := isOf (s := s.setVm vm0) hZ eT E
  obtain ⟨v, vm₁, ⟨T', L', k', n'⟩, -, X', hS', hgr, ⟨L, hq, q1, q2, q3⟩, st'⟩ := X.virtualBackS C.1 (y := y) (z := z) C.2.2.2.2.1 (mvT hZ wl) (mvT hZ wd) (hnf _ hZ) (mvT hZ wse) (mvT hZ win) hy (backOfS hM hZ wc wi hfr hlo) qa qc (g := mkF m pc Ls (argsL.reverse ++ .ref b :: rest)) rfl (by show Ls.size = _; rw [hsz, C.2.2.1]) (Steps.refl _) (argsL := argsL) (rest := rest) (lenOf hpd hlen) rfl (by show 2 * 0 + _ ≤ _; omega) (hb C.2.1 hd) (fun _ _ => ⟨rfl, eT, hce, hsl⟩)
  dsimp only [Pt.U, Pt.locs, Pt.cells, Pt.slots] at X' q1 q2 q3 hq hgr hS' st'
  subst q1 q2 q3
  have hS1 : s.Since T'.vm T'.heap.size := foldS hS (by rw [eT]; exact hk) hS' hgr
  obtain ⟨s₂, o, st₂, r⟩ := hr T'.vm T'.heap.size v _ L hq ⟨C.1, C.2.1, C.2.2.1, C.2.2.2.1, by rw [show (s.setVm T'.vm).vm = T'.vm from rfl, hS'.1.alike.findClass]; exact C.2.2.2.2.1, State.Warmed39.trans (t := s.setVm vm0) C.2.2.2.2.2.1 hS'.1, C.2.2.2.2.2.2.1, C.2.2.2.2.2.2.2.1, fe_since hS1⟩ hS1 (Nat.le_refl _) (by rw [← eT]; exact hgr) T' X' rfl
  exact ⟨s₂, o, st'.trans st₂, r⟩
end Steps
/-! ## what the case says of a constant -/
theorem Ext.refl (h : Heap) : Ext h h := ⟨Nat.le_refl _, fun _ _ q => q⟩
theorem sta_of {s : State} {args : Array Value} {C n d K : String} (hx : (Cond.exactly (.static C n d) K).value args s none s [] = some true) (wi : (Cond.initialized C).before args s = true) (wl : (Cond.laysStatic C n d).before args s = true) : ∃ a, (Term.static C n d).eval args s none [] s = some (.ref a) ∧ Sta s s.heap C n d (.ref a) ∧ Exa s s.heap a K := by
  obtain ⟨a, ev⟩ := exa_v hx
  exact ⟨a, ev, Sta.start ev (Or.inr ⟨wi, wl⟩), Exa.start ev hx⟩
theorem fld_of {s : State} {args : Array Value} {t : Term} {a : Addr} {C n d : String} {k : Int32} (ev : t.eval args s none [] s = some (.ref a)) (hx : (Cond.eq (.field t C n d) (.int k)).value args s none s [] = some true) : Fld s s.heap a C n d (.int k) := by
  obtain ⟨x, y, h1, h2, -, -⟩ := cmp_v (Or.inl hx)
  have h2' : y = .int k := (Option.some.inj h2).symm
  subst h2'
  have h3 : x = .int k := by
    cases x <;> simp [Cond.value, h1, h2] at hx
    · rw [hx]
  subst h3
  rw [fld_at ev] at h1
  exact Fld.start h1
theorem eq_int {s : State} {args : Array Value} {t : Term} {k : Int32} (hx : (Cond.eq t (.int k)).value args s none s [] = some true) : t.eval args s none [] s = some (.int k) := by
  obtain ⟨x, y, h1, h2, -, -⟩ := cmp_v (Or.inl hx)
  have h2' : y = .int k := (Option.some.inj h2).symm
  subst h2'
  have h3 : x = .int k := by
    cases x <;> simp [Cond.value, h1, h2] at hx
    · rw [hx]
  rw [h1, h3]
theorem sta_arr {s : State} {args : Array Value} {C n d : String} {ty : FieldType} (hx : (Cond.arrayOf (.static C n d) ty).value args s none s [] = some true) (wi : (Cond.initialized C).before args s = true) (wl : (Cond.laysStatic C n d).before args s = true) : ∃ a cl, (Term.static C n d).eval args s none [] s = some (.ref a) ∧ Sta s s.heap C n d (.ref a) ∧ Arr s s.heap a cl ty := by
  obtain ⟨a, ev⟩ := arr_v hx
  obtain ⟨cl, A⟩ := Arr.start ev hx
  exact ⟨a, cl, ev, Sta.start ev (Or.inr ⟨wi, wl⟩), A⟩
theorem arr_len {s : State} {args : Array Value} {t : Term} {a : Addr} {cl : Cell} {ty : FieldType} {n : Nat} (hn : n < 2 ^ 31) (ev : t.eval args s none [] s = some (.ref a)) (A : Arr s s.heap a cl ty) (hx : (Cond.eq (.length t) (.int (Int32.ofNat n))).value args s none s [] = some true) : cl.slots.size = n := by
  have h5 := A.fin (Vm.Alike.refl _)
  have h7 := eq_int hx
  have h3 : cl.slots.size < 2 ^ 31 := by
    by_cases q : cl.slots.size < 2 ^ 31
    · exact q
    · simp [Term.eval, ev, h5, q] at h7
  rw [len_f ev h5 h3] at h7
  have h6 := congrArg Int32.toInt (Value.int.inj (Option.some.inj h7))
  rw [show (Int32.ofNat n).toInt = n from len_toInt hn, len_toInt h3] at h6
  omega
theorem arr_at {s : State} {args : Array Value} {t : Term} {a : Addr} {cl : Cell} {ty : FieldType} {j v : Int32} (ev : t.eval args s none [] s = some (.ref a)) (A : Arr s s.heap a cl ty) (hx : (Cond.eq (.elem t (.int j)) (.int v)).value args s none s [] = some true) : cl.slots[j.toNatClampNeg]? = some (.int v) :=
  (elem_in (eq_int hx) ev rfl A.1).2
theorem lc_self (x : Int64) : (if x < x then 1 else if x = x then 0 else -1 : Int32) = 0 := by simp
theorem lc_ge0 {x : Int64} (h : 0 ≤ x) : ¬ (if 0 < x then 1 else if x = 0 then 0 else -1 : Int32) < 0 := by
  by_cases a : 0 < x
  · rw [if_pos a]; decide
  · rw [if_neg a]
    have e : x = 0 := by
      rw [Int64.lt_iff_toInt_lt] at a; rw [Int64.le_iff_toInt_le] at h
      apply Int64.toInt_inj.mp; omega
    rw [if_pos e]; decide
end Jvm.Own
namespace Jvm.Own
open Jvm.RoadKit
theorem ofNat_inj {i j : Nat} (hi : i < 2 ^ 31) (hj : j < 2 ^ 31) (h : Int32.ofNat i = Int32.ofNat j) : i = j := by
  have q := congrArg Int32.toInt h
  rw [show (Int32.ofNat i).toInt = i from len_toInt hi, show (Int32.ofNat j).toInt = j from len_toInt hj] at q
  exact Int.ofNat.inj q
theorem rem_nat (x : Int32) (n : Nat) (h0 : 0 < n) (h1 : n < 2 ^ 31) : ∃ k : Nat, k < n ∧ (x &&& 2147483647) % (Int32.ofNat n) = Int32.ofNat k := by
  have e1 : (x &&& 2147483647).toInt = x.toInt % 2 ^ 31 := Jvm.Kit.i32_mask x 2147483647 (k := 31) (by decide) (by decide)
  have e2 : (Int32.ofNat n).toInt = n := len_toInt h1
  have e3 : ((x &&& 2147483647) % Int32.ofNat n).toInt = (x.toInt % 2 ^ 31) % n := by rw [Jvm.Kit.i32_rem_nonneg (by rw [e1]; omega), e1, e2]
  have p0 : 0 ≤ (x.toInt % 2 ^ 31) % (n : Int) := Int.emod_nonneg _ (by omega)
  have p1 : (x.toInt % 2 ^ 31) % (n : Int) < n := Int.emod_lt_of_pos _ (by omega)
  generalize (x.toInt % 2 ^ 31) % (n : Int) = z at *
  refine ⟨z.toNat, by omega, ?_⟩
  apply Int32.toInt_inj.mp
  rw [e3, show (Int32.ofNat z.toNat).toInt = (z.toNat : Int) from len_toInt (by omega)]
  omega
end Jvm.Own
namespace Jvm.Pilot.@@N@@
open Jvm Jvm.ClassFile Sem Op Lib Jvm.Free Jvm.Stand Jvm.LawKit Jvm.RoadKit Bundle Jvm.Own Jvm.Pilot.@@N@@.Jvm.D
def nmsK (k : Nat) : String := ["TRUE", "FALSE"].getD k ""
def KsK (Z : State) (ad : Nat → Addr) : Prop := ∀ k, k < 2 → Sta Z Z.heap "com/example/moraine/moraine/expression/Expression$Constant" (nmsK k) "Lcom/example/moraine/moraine/expression/Expression$Constant;" (.ref (ad k)) ∧ Exa Z Z.heap (ad k) "com/example/moraine/moraine/expression/Expression$Constant" ∧ Fld Z Z.heap (ad k) "java/lang/Enum" "ordinal" "I" (.int (Int32.ofNat k))
theorem KsK.inj {Z : State} {ad : Nat → Addr} (K : KsK Z ad) (i j : Nat) (hi : i < 2) (hj : j < 2) : ad i = ad j ↔ i = j := by
  refine ⟨fun q => ?_, fun q => by rw [q]⟩
  by_cases u : i = j
  · exact u
  · exact absurd q (Fld.ne (K i hi).2.2 (K j hj).2.2 fun w => u (ofNat_inj (by omega) (by omega) (Value.int.inj w)))
theorem rm_negate0_d0 : decode prog_18_method_4_code 0 = .ok (.aload_n 0, 1) := by decide +kernel
theorem rm_negate0_d1 : decode prog_18_method_4_code 1 = .ok (.getstatic 3, 3) := by decide +kernel
theorem rm_negate0_d4 : decode prog_18_method_4_code 4 = .ok (.if_acmp .ne 9, 3) := by decide +kernel
theorem rm_negate0_d7 : decode prog_18_method_4_code 7 = .ok (.getstatic 7, 3) := by decide +kernel
theorem rm_negate0_d10 : decode prog_18_method_4_code 10 = .ok (.goto 6, 3) := by decide +kernel
theorem rm_negate0_d16 : decode prog_18_method_4_code 16 = .ok (.areturn, 1) := by decide +kernel
theorem pn_com_example_moraine_moraine_expression_Expression_Constant : plainName "com/example/moraine/moraine/expression/Expression$Constant" = true := by first | (simp [plainName, overriddenIn]; done) | decide +kernel
set_option maxRecDepth 65536 in
set_option maxHeartbeats 40000000 in
theorem rm_negate0 (l : Launch) (Z : State) (a0 : Array Value) (hw : ∀ d ∈ tables_1, d.before a0 Z = true) (ad : Nat → Addr) (K : KsK Z ad) (h0 : Heap) (E : Ext Z.heap h0) :
    Met0 l Z (⟨"com/example/moraine/moraine/expression/Expression$Constant", "negate", "()Lcom/example/moraine/moraine/expression/Expression;"⟩ : MethodName) [] prog_18_method_4_code 1 (some (.object "com/example/moraine/moraine/expression/Expression")) ({ frames := 0, cells := 0, slots := 0, locals := 0 } : Room) #[(.ref (ad 0))] h0 (fun v h L => v = some (.ref (ad 1)) ∧ h0 = h ∧ L = []) := by
  have hinj := K.inj
  refine Met0.of_walk (plainFor_of_name pn_com_example_moraine_moraine_expression_Expression_Constant) (Ls := #[.val (.ref (ad 0))]) (fun m => by first | rfl | (simp [entryFrame, mkF, argsToLocals, Value.category]; done)) ?_
  intro p e s m below meth c C
  refine aloadN C rm_negate0_d0 (pc' := 1) rfl rfl rfl ?_
  refine getS_ C (hw _ (List.mem_of_getElem? (i := 8) rfl)) ((K 0 (by decide)).1.ext E) rm_negate0_d1 (pc' := 4) rfl ?_
  refine acmp_ne C 13 7 rm_negate0_d4 (by decide) rfl rfl (fun q4 => ?_) (fun q4 => ?_)
  · exact absurd rfl q4
  refine getS_ C (hw _ (List.mem_of_getElem? (i := 9) rfl)) ((K 1 (by decide)).1.ext E) rm_negate0_d7 (pc' := 10) rfl ?_
  refine goto_ C rm_negate0_d10 (by decide) (pc' := 16) rfl ?_
  exact ret_A C rm_negate0_d16 rfl rfl rfl rfl (by decide) (by decide) ⟨rfl, rfl, rfl⟩
theorem rm_negate1_d0 : decode prog_18_method_4_code 0 = .ok (.aload_n 0, 1) := by decide +kernel
theorem rm_negate1_d1 : decode prog_18_method_4_code 1 = .ok (.getstatic 3, 3) := by decide +kernel
theorem rm_negate1_d4 : decode prog_18_method_4_code 4 = .ok (.if_acmp .ne 9, 3) := by decide +kernel
theorem rm_negate1_d13 : decode prog_18_method_4_code 13 = .ok (.getstatic 3, 3) := by decide +kernel
theorem rm_negate1_d16 : decode prog_18_method_4_code 16 = .ok (.areturn, 1) := by decide +kernel
set_option maxRecDepth 65536 in
set_option maxHeartbeats 40000000 in
theorem rm_negate1 (l : Launch) (Z : State) (a0 : Array Value) (hw : ∀ d ∈ tables_1, d.before a0 Z = true) (ad : Nat → Addr) (K : KsK Z ad) (h0 : Heap) (E : Ext Z.heap h0) :
    Met0 l Z (⟨"com/example/moraine/moraine/expression/Expression$Constant", "negate", "()Lcom/example/moraine/moraine/expression/Expression;"⟩ : MethodName) [] prog_18_method_4_code 1 (some (.object "com/example/moraine/moraine/expression/Expression")) ({ frames := 0, cells := 0, slots := 0, locals := 0 } : Room) #[(.ref (ad 1))] h0 (fun v h L => v = some (.ref (ad 0)) ∧ h0 = h ∧ L = []) := by
  have hinj := K.inj
  refine Met0.of_walk (plainFor_of_name pn_com_example_moraine_moraine_expression_Expression_Constant) (Ls := #[.val (.ref (ad 1))]) (fun m => by first | rfl | (simp [entryFrame, mkF, argsToLocals, Value.category]; done)) ?_
  intro p e s m below meth c C
  refine aloadN C rm_negate1_d0 (pc' := 1) rfl rfl rfl ?_
  refine getS_ C (hw _ (List.mem_of_getElem? (i := 8) rfl)) ((K 0 (by decide)).1.ext E) rm_negate1_d1 (pc' := 4) rfl ?_
  refine acmp_ne C 13 7 rm_negate1_d4 (by decide) rfl rfl (fun q4 => ?_) (fun q4 => ?_)
  · skip
    refine getS_ C (hw _ (List.mem_of_getElem? (i := 8) rfl)) ((K 0 (by decide)).1.ext E) rm_negate1_d13 (pc' := 16) rfl ?_
    exact ret_A C rm_negate1_d16 rfl rfl rfl rfl (by decide) (by decide) ⟨rfl, rfl, rfl⟩
  · exact absurd q4 (by simp [hinj])
theorem rm_evaluate0_d0 : decode prog_18_method_6_code 0 = .ok (.aload_n 0, 1) := by decide +kernel
theorem rm_evaluate0_d1 : decode prog_18_method_6_code 1 = .ok (.getstatic 3, 3) := by decide +kernel
theorem rm_evaluate0_d4 : decode prog_18_method_6_code 4 = .ok (.if_acmp .ne 7, 3) := by decide +kernel
theorem rm_evaluate0_d7 : decode prog_18_method_6_code 7 = .ok (.iconst 1, 1) := by decide +kernel
theorem rm_evaluate0_d8 : decode prog_18_method_6_code 8 = .ok (.goto 4, 3) := by decide +kernel
theorem rm_evaluate0_d12 : decode prog_18_method_6_code 12 = .ok (.ireturn, 1) := by decide +kernel
set_option maxRecDepth 65536 in
set_option maxHeartbeats 40000000 in
theorem rm_evaluate0 (l : Launch) (Z : State) (a0 : Array Value) (hw : ∀ d ∈ tables_1, d.before a0 Z = true) (ad : Nat → Addr) (K : KsK Z ad) (h0 : Heap) (E : Ext Z.heap h0) :
    Met0 l Z (⟨"com/example/moraine/moraine/expression/Expression$Constant", "evaluate", "(Ljava/util/function/Predicate;)Z"⟩ : MethodName) [] prog_18_method_6_code 2 (some .boolean) ({ frames := 0, cells := 0, slots := 0, locals := 0 } : Room) #[(.ref (ad 0)), .null] h0 (fun v h L => v = some (.int 1) ∧ h0 = h ∧ L = []) := by
  have hinj := K.inj
  refine Met0.of_walk (plainFor_of_name pn_com_example_moraine_moraine_expression_Expression_Constant) (Ls := #[.val (.ref (ad 0)), .val .null]) (fun m => by first | rfl | (simp [entryFrame, mkF, argsToLocals, Value.category]; done)) ?_
  intro p e s m below meth c C
  refine aloadN C rm_evaluate0_d0 (pc' := 1) rfl rfl rfl ?_
  refine getS_ C (hw _ (List.mem_of_getElem? (i := 8) rfl)) ((K 0 (by decide)).1.ext E) rm_evaluate0_d1 (pc' := 4) rfl ?_
  refine acmp_ne C 11 7 rm_evaluate0_d4 (by decide) rfl rfl (fun q4 => ?_) (fun q4 => ?_)
  · exact absurd rfl q4
  refine iconst C rm_evaluate0_d7 (pc' := 8) rfl (v := 1) rfl ?_
  refine goto_ C rm_evaluate0_d8 (by decide) (pc' := 12) rfl ?_
  exact ret_Z C rm_evaluate0_d12 rfl (by decide) (by decide) (by decide) ⟨rfl, rfl, rfl⟩
theorem rm_evaluate1_d0 : decode prog_18_method_6_code 0 = .ok (.aload_n 0, 1) := by decide +kernel
theorem rm_evaluate1_d1 : decode prog_18_method_6_code 1 = .ok (.getstatic 3, 3) := by decide +kernel
theorem rm_evaluate1_d4 : decode prog_18_method_6_code 4 = .ok (.if_acmp .ne 7, 3) := by decide +kernel
theorem rm_evaluate1_d11 : decode prog_18_method_6_code 11 = .ok (.iconst 0, 1) := by decide +kernel
theorem rm_evaluate1_d12 : decode prog_18_method_6_code 12 = .ok (.ireturn, 1) := by decide +kernel
set_option maxRecDepth 65536 in
set_option maxHeartbeats 40000000 in
theorem rm_evaluate1 (l : Launch) (Z : State) (a0 : Array Value) (hw : ∀ d ∈ tables_1, d.before a0 Z = true) (ad : Nat → Addr) (K : KsK Z ad) (h0 : Heap) (E : Ext Z.heap h0) :
    Met0 l Z (⟨"com/example/moraine/moraine/expression/Expression$Constant", "evaluate", "(Ljava/util/function/Predicate;)Z"⟩ : MethodName) [] prog_18_method_6_code 2 (some .boolean) ({ frames := 0, cells := 0, slots := 0, locals := 0 } : Room) #[(.ref (ad 1)), .null] h0 (fun v h L => v = some (.int 0) ∧ h0 = h ∧ L = []) := by
  have hinj := K.inj
  refine Met0.of_walk (plainFor_of_name pn_com_example_moraine_moraine_expression_Expression_Constant) (Ls := #[.val (.ref (ad 1)), .val .null]) (fun m => by first | rfl | (simp [entryFrame, mkF, argsToLocals, Value.category]; done)) ?_
  intro p e s m below meth c C
  refine aloadN C rm_evaluate1_d0 (pc' := 1) rfl rfl rfl ?_
  refine getS_ C (hw _ (List.mem_of_getElem? (i := 8) rfl)) ((K 0 (by decide)).1.ext E) rm_evaluate1_d1 (pc' := 4) rfl ?_
  refine acmp_ne C 11 7 rm_evaluate1_d4 (by decide) rfl rfl (fun q4 => ?_) (fun q4 => ?_)
  · skip
    refine iconst C rm_evaluate1_d11 (pc' := 12) rfl (v := 0) rfl ?_
    exact ret_Z C rm_evaluate1_d12 rfl (by decide) (by decide) (by decide) ⟨rfl, rfl, rfl⟩
  · exact absurd q4 (by simp [hinj])
theorem rm_or0_d0 : decode prog_16_method_6_code 0 = .ok (.aload_n 0, 1) := by decide +kernel
theorem rm_or0_d1 : decode prog_16_method_6_code 1 = .ok (.getstatic 7, 3) := by decide +kernel
theorem rm_or0_d4 : decode prog_16_method_6_code 4 = .ok (.if_acmp .eq 10, 3) := by decide +kernel
theorem rm_or0_d14 : decode prog_16_method_6_code 14 = .ok (.getstatic 7, 3) := by decide +kernel
theorem rm_or0_d17 : decode prog_16_method_6_code 17 = .ok (.areturn, 1) := by decide +kernel
theorem pn_com_example_moraine_moraine_expression_Expression : plainName "com/example/moraine/moraine/expression/Expression" = true := by first | (simp [plainName, overriddenIn]; done) | decide +kernel
set_option maxRecDepth 65536 in
set_option maxHeartbeats 40000000 in
theorem rm_or0 (l : Launch) (Z : State) (a0 : Array Value) (hw : ∀ d ∈ tables_1, d.before a0 Z = true) (ad : Nat → Addr) (K : KsK Z ad) (h0 : Heap) (E : Ext Z.heap h0) :
    Met0 l Z (⟨"com/example/moraine/moraine/expression/Expression", "or", "(Lcom/example/moraine/moraine/expression/Expression;Lcom/example/moraine/moraine/expression/Expression;)Lcom/example/moraine/moraine/expression/Expression;"⟩ : MethodName) [] prog_16_method_6_code 2 (some (.object "com/example/moraine/moraine/expression/Expression")) ({ frames := 0, cells := 0, slots := 0, locals := 0 } : Room) #[(.ref (ad 0)), (.ref (ad 1))] h0 (fun v h L => v = some (.ref (ad 0)) ∧ h0 = h ∧ L = []) := by
  have hinj := K.inj
  refine Met0.of_walk (plainFor_of_name pn_com_example_moraine_moraine_expression_Expression) (Ls := #[.val (.ref (ad 0)), .val (.ref (ad 1))]) (fun m => by first | rfl | (simp [entryFrame, mkF, argsToLocals, Value.category]; done)) ?_
  intro p e s m below meth c C
  refine aloadN C rm_or0_d0 (pc' := 1) rfl rfl rfl ?_
  refine getS_ C (hw _ (List.mem_of_getElem? (i := 35) rfl)) ((K 0 (by decide)).1.ext E) rm_or0_d1 (pc' := 4) rfl ?_
  refine acmp_eq C 14 7 rm_or0_d4 (by decide) rfl rfl (fun q4 => ?_) (fun q4 => ?_)
  · skip
    refine getS_ C (hw _ (List.mem_of_getElem? (i := 35) rfl)) ((K 0 (by decide)).1.ext E) rm_or0_d14 (pc' := 17) rfl ?_
    exact ret_A C rm_or0_d17 rfl rfl rfl rfl (by decide) (by decide) ⟨rfl, rfl, rfl⟩
  · exact absurd rfl q4
theorem rm_or1_d0 : decode prog_16_method_6_code 0 = .ok (.aload_n 0, 1) := by decide +kernel
theorem rm_or1_d1 : decode prog_16_method_6_code 1 = .ok (.getstatic 7, 3) := by decide +kernel
theorem rm_or1_d4 : decode prog_16_method_6_code 4 = .ok (.if_acmp .eq 10, 3) := by decide +kernel
theorem rm_or1_d7 : decode prog_16_method_6_code 7 = .ok (.aload_n 1, 1) := by decide +kernel
theorem rm_or1_d8 : decode prog_16_method_6_code 8 = .ok (.getstatic 7, 3) := by decide +kernel
theorem rm_or1_d11 : decode prog_16_method_6_code 11 = .ok (.if_acmp .ne 7, 3) := by decide +kernel
theorem rm_or1_d14 : decode prog_16_method_6_code 14 = .ok (.getstatic 7, 3) := by decide +kernel
theorem rm_or1_d17 : decode prog_16_method_6_code 17 = .ok (.areturn, 1) := by decide +kernel
set_option maxRecDepth 65536 in
set_option maxHeartbeats 40000000 in
theorem rm_or1 (l : Launch) (Z : State) (a0 : Array Value) (hw : ∀ d ∈ tables_1, d.before a0 Z = true) (ad : Nat → Addr) (K : KsK Z ad) (h0 : Heap) (E : Ext Z.heap h0) :
    Met0 l Z (⟨"com/example/moraine/moraine/expression/Expression", "or", "(Lcom/example/moraine/moraine/expression/Expression;Lcom/example/moraine/moraine/expression/Expression;)Lcom/example/moraine/moraine/expression/Expression;"⟩ : MethodName) [] prog_16_method_6_code 2 (some (.object "com/example/moraine/moraine/expression/Expression")) ({ frames := 0, cells := 0, slots := 0, locals := 0 } : Room) #[(.ref (ad 1)), (.ref (ad 0))] h0 (fun v h L => v = some (.ref (ad 0)) ∧ h0 = h ∧ L = []) := by
  have hinj := K.inj
  refine Met0.of_walk (plainFor_of_name pn_com_example_moraine_moraine_expression_Expression) (Ls := #[.val (.ref (ad 1)), .val (.ref (ad 0))]) (fun m => by first | rfl | (simp [entryFrame, mkF, argsToLocals, Value.category]; done)) ?_
  intro p e s m below meth c C
  refine aloadN C rm_or1_d0 (pc' := 1) rfl rfl rfl ?_
  refine getS_ C (hw _ (List.mem_of_getElem? (i := 35) rfl)) ((K 0 (by decide)).1.ext E) rm_or1_d1 (pc' := 4) rfl ?_
  refine acmp_eq C 14 7 rm_or1_d4 (by decide) rfl rfl (fun q4 => ?_) (fun q4 => ?_)
  · exact absurd q4 (by simp [hinj])
  refine aloadN C rm_or1_d7 (pc' := 8) rfl rfl rfl ?_
  refine getS_ C (hw _ (List.mem_of_getElem? (i := 35) rfl)) ((K 0 (by decide)).1.ext E) rm_or1_d8 (pc' := 11) rfl ?_
  refine acmp_ne C 18 14 rm_or1_d11 (by decide) rfl rfl (fun q11 => ?_) (fun q11 => ?_)
  · exact absurd rfl q11
  refine getS_ C (hw _ (List.mem_of_getElem? (i := 35) rfl)) ((K 0 (by decide)).1.ext E) rm_or1_d14 (pc' := 17) rfl ?_
  exact ret_A C rm_or1_d17 rfl rfl rfl rfl (by decide) (by decide) ⟨rfl, rfl, rfl⟩
theorem rm_and0_d0 : decode prog_16_method_5_code 0 = .ok (.aload_n 0, 1) := by decide +kernel
theorem rm_and0_d1 : decode prog_16_method_5_code 1 = .ok (.getstatic 1, 3) := by decide +kernel
theorem rm_and0_d4 : decode prog_16_method_5_code 4 = .ok (.if_acmp .eq 10, 3) := by decide +kernel
theorem rm_and0_d7 : decode prog_16_method_5_code 7 = .ok (.aload_n 1, 1) := by decide +kernel
theorem rm_and0_d8 : decode prog_16_method_5_code 8 = .ok (.getstatic 1, 3) := by decide +kernel
theorem rm_and0_d11 : decode prog_16_method_5_code 11 = .ok (.if_acmp .ne 7, 3) := by decide +kernel
theorem rm_and0_d14 : decode prog_16_method_5_code 14 = .ok (.getstatic 1, 3) := by decide +kernel
theorem rm_and0_d17 : decode prog_16_method_5_code 17 = .ok (.areturn, 1) := by decide +kernel
set_option maxRecDepth 65536 in
set_option maxHeartbeats 40000000 in
theorem rm_and0 (l : Launch) (Z : State) (a0 : Array Value) (hw : ∀ d ∈ tables_1, d.before a0 Z = true) (ad : Nat → Addr) (K : KsK Z ad) (h0 : Heap) (E : Ext Z.heap h0) :
    Met0 l Z (⟨"com/example/moraine/moraine/expression/Expression", "and", "(Lcom/example/moraine/moraine/expression/Expression;Lcom/example/moraine/moraine/expression/Expression;)Lcom/example/moraine/moraine/expression/Expression;"⟩ : MethodName) [] prog_16_method_5_code 2 (some (.object "com/example/moraine/moraine/expression/Expression")) ({ frames := 0, cells := 0, slots := 0, locals := 0 } : Room) #[(.ref (ad 0)), (.ref (ad 1))] h0 (fun v h L => v = some (.ref (ad 1)) ∧ h0 = h ∧ L = []) := by
  have hinj := K.inj
  refine Met0.of_walk (plainFor_of_name pn_com_example_moraine_moraine_expression_Expression) (Ls := #[.val (.ref (ad 0)), .val (.ref (ad 1))]) (fun m => by first | rfl | (simp [entryFrame, mkF, argsToLocals, Value.category]; done)) ?_
  intro p e s m below meth c C
  refine aloadN C rm_and0_d0 (pc' := 1) rfl rfl rfl ?_
  refine getS_ C (hw _ (List.mem_of_getElem? (i := 39) rfl)) ((K 1 (by decide)).1.ext E) rm_and0_d1 (pc' := 4) rfl ?_
  refine acmp_eq C 14 7 rm_and0_d4 (by decide) rfl rfl (fun q4 => ?_) (fun q4 => ?_)
  · exact absurd q4 (by simp [hinj])
  refine aloadN C rm_and0_d7 (pc' := 8) rfl rfl rfl ?_
  refine getS_ C (hw _ (List.mem_of_getElem? (i := 39) rfl)) ((K 1 (by decide)).1.ext E) rm_and0_d8 (pc' := 11) rfl ?_
  refine acmp_ne C 18 14 rm_and0_d11 (by decide) rfl rfl (fun q11 => ?_) (fun q11 => ?_)
  · exact absurd rfl q11
  refine getS_ C (hw _ (List.mem_of_getElem? (i := 39) rfl)) ((K 1 (by decide)).1.ext E) rm_and0_d14 (pc' := 17) rfl ?_
  exact ret_A C rm_and0_d17 rfl rfl rfl rfl (by decide) (by decide) ⟨rfl, rfl, rfl⟩
theorem rm_and1_d0 : decode prog_16_method_5_code 0 = .ok (.aload_n 0, 1) := by decide +kernel
theorem rm_and1_d1 : decode prog_16_method_5_code 1 = .ok (.getstatic 1, 3) := by decide +kernel
theorem rm_and1_d4 : decode prog_16_method_5_code 4 = .ok (.if_acmp .eq 10, 3) := by decide +kernel
theorem rm_and1_d14 : decode prog_16_method_5_code 14 = .ok (.getstatic 1, 3) := by decide +kernel
theorem rm_and1_d17 : decode prog_16_method_5_code 17 = .ok (.areturn, 1) := by decide +kernel
set_option maxRecDepth 65536 in
set_option maxHeartbeats 40000000 in
theorem rm_and1 (l : Launch) (Z : State) (a0 : Array Value) (hw : ∀ d ∈ tables_1, d.before a0 Z = true) (ad : Nat → Addr) (K : KsK Z ad) (h0 : Heap) (E : Ext Z.heap h0) :
    Met0 l Z (⟨"com/example/moraine/moraine/expression/Expression", "and", "(Lcom/example/moraine/moraine/expression/Expression;Lcom/example/moraine/moraine/expression/Expression;)Lcom/example/moraine/moraine/expression/Expression;"⟩ : MethodName) [] prog_16_method_5_code 2 (some (.object "com/example/moraine/moraine/expression/Expression")) ({ frames := 0, cells := 0, slots := 0, locals := 0 } : Room) #[(.ref (ad 1)), (.ref (ad 0))] h0 (fun v h L => v = some (.ref (ad 1)) ∧ h0 = h ∧ L = []) := by
  have hinj := K.inj
  refine Met0.of_walk (plainFor_of_name pn_com_example_moraine_moraine_expression_Expression) (Ls := #[.val (.ref (ad 1)), .val (.ref (ad 0))]) (fun m => by first | rfl | (simp [entryFrame, mkF, argsToLocals, Value.category]; done)) ?_
  intro p e s m below meth c C
  refine aloadN C rm_and1_d0 (pc' := 1) rfl rfl rfl ?_
  refine getS_ C (hw _ (List.mem_of_getElem? (i := 39) rfl)) ((K 1 (by decide)).1.ext E) rm_and1_d1 (pc' := 4) rfl ?_
  refine acmp_eq C 14 7 rm_and1_d4 (by decide) rfl rfl (fun q4 => ?_) (fun q4 => ?_)
  · skip
    refine getS_ C (hw _ (List.mem_of_getElem? (i := 39) rfl)) ((K 1 (by decide)).1.ext E) rm_and1_d14 (pc' := 17) rfl ?_
    exact ret_A C rm_and1_d17 rfl rfl rfl rfl (by decide) (by decide) ⟨rfl, rfl, rfl⟩
  · exact absurd rfl q4
theorem pd_0 : parseMethodDescriptor "()Lcom/example/moraine/moraine/expression/Expression;" = some ⟨[], some (.object "com/example/moraine/moraine/expression/Expression")⟩ := by decide +kernel
theorem pd_1 : parseMethodDescriptor "(Ljava/util/function/Predicate;)Z" = some ⟨[(.object "java/util/function/Predicate")], some .boolean⟩ := by decide +kernel
theorem pd_2 : parseMethodDescriptor "(Lcom/example/moraine/moraine/expression/Expression;Lcom/example/moraine/moraine/expression/Expression;)Lcom/example/moraine/moraine/expression/Expression;" = some ⟨[(.object "com/example/moraine/moraine/expression/Expression"), (.object "com/example/moraine/moraine/expression/Expression")], some (.object "com/example/moraine/moraine/expression/Expression")⟩ := by decide +kernel
theorem pn_com_example_moraine_moraine_expression_ConstantNegatePinLaw : plainName "com/example/moraine/moraine/expression/ConstantNegatePinLaw" = true := by first | (simp [plainName, overriddenIn]; done) | decide +kernel
set_option maxRecDepth 65536 in
set_option maxHeartbeats 40000000 in
theorem rm0 (l : Launch) (Z : State) (a0 : Array Value) (hw : ∀ d ∈ tables_1, d.before a0 Z = true) (ad : Nat → Addr) (K : KsK Z ad) (k : Int32) (h0 : Heap) (E : Ext Z.heap h0) :
    Met0 l Z x tables_1 code maxLocals ret room_1 #[(.int k)] h0 (fun v _ L => v = some (.int 1) ∧ Fr Z.heap.size L) := by
  have hinj := K.inj
  refine Met0.of_walk (plainFor_of_name pn_com_example_moraine_moraine_expression_ConstantNegatePinLaw) (Ls := #[.val (.int k), .unset, .unset, .unset, .unset, .unset, .unset]) (fun m => by first | rfl | (simp [entryFrame, mkF, argsToLocals, Value.category, maxLocals]; done)) ?_
  intro p e s m below meth c C
  refine iloadN C at_0 (pc' := 1) rfl rfl ?_
  refine iconst C at_1 (pc' := 2) rfl (v := 1) rfl ?_
  refine iand C at_2 (pc' := 3) rfl ?_
  refine if_ne C 12 6 at_3 (by decide) rfl rfl (fun q3 => ?_) (fun q3 => ?_)
  · skip
    refine getS_ C (hw _ (List.mem_of_getElem? (i := 40) rfl)) ((K 1 (by decide)).1.ext E) at_12 (pc' := 15) rfl ?_
    refine astoreN C at_15 (pc' := 16) rfl rfl (Ls' := #[.val (.int k), .val (.ref (ad 1)), .unset, .unset, .unset, .unset, .unset]) rfl ?_
    refine aloadN C at_16 (pc' := 17) rfl rfl rfl ?_
    refine callV_ C (y := (⟨"com/example/moraine/moraine/expression/Expression$Constant", "negate", "()Lcom/example/moraine/moraine/expression/Expression;"⟩ : MethodName)) (z := (⟨"com/example/moraine/moraine/expression/Expression$Constant", "negate", "()Lcom/example/moraine/moraine/expression/Expression;"⟩ : MethodName)) (hw _ (List.mem_of_getElem? (i := 3) rfl)) (hw _ (List.mem_of_getElem? (i := 4) rfl)) (nf_sel (hw _ (List.mem_of_getElem? (i := 6) rfl))) (hw _ (List.mem_of_getElem? (i := 6) rfl)) (hw _ (List.mem_of_getElem? (i := 5) rfl)) (hw _ (List.mem_of_getElem? (i := 1) rfl)) (hw _ (List.mem_of_getElem? (i := 7) rfl)) (by decide) ((K 1 (by decide)).2.1.ext E) pd_0 [] [] rfl rfl (W := 0) rfl (by decide) (by decide) (by decide) (by decide) (rm_negate1 l Z a0 hw ad K h0 E) rfl at_17 (pc' := 20) rfl ?_
    rintro _ _ _ ⟨rfl, rfl, rfl⟩
    show Wk p l e _ _ m _ below meth c _ _ _ _ _ _ (mkF m 20 #[.val (.int k), .val (.ref (ad 1)), .unset, .unset, .unset, .unset, .unset] [(.ref (ad 0))])
    refine astoreN C at_20 (pc' := 21) rfl rfl (Ls' := #[.val (.int k), .val (.ref (ad 1)), .val (.ref (ad 0)), .unset, .unset, .unset, .unset]) rfl ?_
    refine aloadN C at_21 (pc' := 22) rfl rfl rfl ?_
    refine instY_ C (hw _ (List.mem_of_getElem? (i := 11) rfl)) (Ins.self ((K 0 (by decide)).2.1.ext E)) at_22 (pc' := 25) rfl ?_
    refine if_ne C 30 28 at_25 (by decide) rfl rfl (fun q25 => ?_) (fun q25 => ?_)
    · skip
      refine aloadN C at_30 (pc' := 31) rfl rfl rfl ?_
      refine aconstNull C at_31 (pc' := 32) rfl ?_
      refine callF_ C (y := (⟨"com/example/moraine/moraine/expression/Expression", "evaluate", "(Ljava/util/function/Predicate;)Z"⟩ : MethodName)) (z := (⟨"com/example/moraine/moraine/expression/Expression$Constant", "evaluate", "(Ljava/util/function/Predicate;)Z"⟩ : MethodName)) (hw _ (List.mem_of_getElem? (i := 13) rfl)) (hw _ (List.mem_of_getElem? (i := 14) rfl)) (hw _ (List.mem_of_getElem? (i := 15) rfl)) (by first | rfl | decide) (hw _ (List.mem_of_getElem? (i := 16) rfl)) (hw _ (List.mem_of_getElem? (i := 17) rfl)) (hw _ (List.mem_of_getElem? (i := 18) rfl)) (hw _ (List.mem_of_getElem? (i := 19) rfl)) (hw _ (List.mem_of_getElem? (i := 20) rfl)) (hw _ (List.mem_of_getElem? (i := 1) rfl)) (hw _ (List.mem_of_getElem? (i := 21) rfl)) (by decide) ((K 0 (by decide)).2.1.ext E) pd_1 [.null] [] rfl rfl (W := 0) rfl (by decide) (by decide) (by decide) (by decide) (rm_evaluate0 l Z a0 hw ad K h0 E) rfl at_32 (pc' := 37) rfl ?_
      rintro _ _ _ ⟨rfl, rfl, rfl⟩
      show Wk p l e _ _ m _ below meth c _ _ _ _ _ _ (mkF m 37 #[.val (.int k), .val (.ref (ad 1)), .val (.ref (ad 0)), .unset, .unset, .unset, .unset] [(.int 1)])
      refine aloadN C at_37 (pc' := 38) rfl rfl rfl ?_
      refine aconstNull C at_38 (pc' := 39) rfl ?_
      refine callV_ C (y := (⟨"com/example/moraine/moraine/expression/Expression$Constant", "evaluate", "(Ljava/util/function/Predicate;)Z"⟩ : MethodName)) (z := (⟨"com/example/moraine/moraine/expression/Expression$Constant", "evaluate", "(Ljava/util/function/Predicate;)Z"⟩ : MethodName)) (hw _ (List.mem_of_getElem? (i := 22) rfl)) (hw _ (List.mem_of_getElem? (i := 23) rfl)) (nf_sel (hw _ (List.mem_of_getElem? (i := 24) rfl))) (hw _ (List.mem_of_getElem? (i := 24) rfl)) (hw _ (List.mem_of_getElem? (i := 17) rfl)) (hw _ (List.mem_of_getElem? (i := 1) rfl)) (hw _ (List.mem_of_getElem? (i := 21) rfl)) (by decide) ((K 1 (by decide)).2.1.ext E) pd_1 [.null] [(.int 1)] rfl rfl (W := 1) rfl (by decide) (by decide) (by decide) (by decide) (rm_evaluate1 l Z a0 hw ad K h0 E) rfl at_39 (pc' := 42) rfl ?_
      rintro _ _ _ ⟨rfl, rfl, rfl⟩
      show Wk p l e _ _ m _ below meth c _ _ _ _ _ _ (mkF m 42 #[.val (.int k), .val (.ref (ad 1)), .val (.ref (ad 0)), .unset, .unset, .unset, .unset] [(.int 0), (.int 1)])
      refine if_ne C 49 45 at_42 (by decide) rfl rfl (fun q42 => ?_) (fun q42 => ?_)
      · exact absurd q42 (by decide)
      refine iconst C at_45 (pc' := 46) rfl (v := 1) rfl ?_
      refine goto_ C at_46 (by decide) (pc' := 50) rfl ?_
      refine icmp_ne C 57 53 at_50 (by decide) rfl rfl (fun q50 => ?_) (fun q50 => ?_)
      · exact absurd q50 (by decide)
      refine iconst C at_53 (pc' := 54) rfl (v := 1) rfl ?_
      refine goto_ C at_54 (by decide) (pc' := 58) rfl ?_
      refine istoreN C at_58 (pc' := 59) rfl (Ls' := #[.val (.int k), .val (.ref (ad 1)), .val (.ref (ad 0)), .val (.int 1), .unset, .unset, .unset]) rfl ?_
      refine aloadN C at_59 (pc' := 60) rfl rfl rfl ?_
      refine callF_ C (y := (⟨"com/example/moraine/moraine/expression/Expression", "negate", "()Lcom/example/moraine/moraine/expression/Expression;"⟩ : MethodName)) (z := (⟨"com/example/moraine/moraine/expression/Expression$Constant", "negate", "()Lcom/example/moraine/moraine/expression/Expression;"⟩ : MethodName)) (hw _ (List.mem_of_getElem? (i := 25) rfl)) (hw _ (List.mem_of_getElem? (i := 26) rfl)) (hw _ (List.mem_of_getElem? (i := 27) rfl)) (by first | rfl | decide) (hw _ (List.mem_of_getElem? (i := 28) rfl)) (hw _ (List.mem_of_getElem? (i := 5) rfl)) (hw _ (List.mem_of_getElem? (i := 29) rfl)) (hw _ (List.mem_of_getElem? (i := 30) rfl)) (hw _ (List.mem_of_getElem? (i := 20) rfl)) (hw _ (List.mem_of_getElem? (i := 1) rfl)) (hw _ (List.mem_of_getElem? (i := 7) rfl)) (by decide) ((K 0 (by decide)).2.1.ext E) pd_0 [] [] rfl rfl (W := 0) rfl (by decide) (by decide) (by decide) (by decide) (rm_negate0 l Z a0 hw ad K h0 E) rfl at_60 (pc' := 65) rfl ?_
      rintro _ _ _ ⟨rfl, rfl, rfl⟩
      show Wk p l e _ _ m _ below meth c _ _ _ _ _ _ (mkF m 65 #[.val (.int k), .val (.ref (ad 1)), .val (.ref (ad 0)), .val (.int 1), .unset, .unset, .unset] [(.ref (ad 1))])
      refine aloadN C at_65 (pc' := 66) rfl rfl rfl ?_
      refine acmp_ne C 73 69 at_66 (by decide) rfl rfl (fun q66 => ?_) (fun q66 => ?_)
      · exact absurd rfl q66
      refine iconst C at_69 (pc' := 70) rfl (v := 1) rfl ?_
      refine goto_ C at_70 (by decide) (pc' := 74) rfl ?_
      refine istore C at_74 (pc' := 76) rfl (Ls' := #[.val (.int k), .val (.ref (ad 1)), .val (.ref (ad 0)), .val (.int 1), .val (.int 1), .unset, .unset]) rfl ?_
      refine aloadN C at_76 (pc' := 77) rfl rfl rfl ?_
      refine aloadN C at_77 (pc' := 78) rfl rfl rfl ?_
      refine callS_ C (y := (⟨"com/example/moraine/moraine/expression/Expression", "or", "(Lcom/example/moraine/moraine/expression/Expression;Lcom/example/moraine/moraine/expression/Expression;)Lcom/example/moraine/moraine/expression/Expression;"⟩ : MethodName)) (hw _ (List.mem_of_getElem? (i := 31) rfl)) (hw _ (List.mem_of_getElem? (i := 32) rfl)) (hw _ (List.mem_of_getElem? (i := 33) rfl)) (hw _ (List.mem_of_getElem? (i := 34) rfl)) (by decide) pd_2 [(.ref (ad 1)), (.ref (ad 0))] [] rfl rfl (W := 0) rfl (by decide) (by decide) (by decide) (by decide) (rm_or1 l Z a0 hw ad K h0 E) rfl at_78 (pc' := 81) rfl ?_
      rintro _ _ _ ⟨rfl, rfl, rfl⟩
      show Wk p l e _ _ m _ below meth c _ _ _ _ _ _ (mkF m 81 #[.val (.int k), .val (.ref (ad 1)), .val (.ref (ad 0)), .val (.int 1), .val (.int 1), .unset, .unset] [(.ref (ad 0))])
      refine getS_ C (hw _ (List.mem_of_getElem? (i := 0) rfl)) ((K 0 (by decide)).1.ext E) at_81 (pc' := 84) rfl ?_
      refine acmp_ne C 91 87 at_84 (by decide) rfl rfl (fun q84 => ?_) (fun q84 => ?_)
      · exact absurd rfl q84
      refine iconst C at_87 (pc' := 88) rfl (v := 1) rfl ?_
      refine goto_ C at_88 (by decide) (pc' := 92) rfl ?_
      refine istore C at_92 (pc' := 94) rfl (Ls' := #[.val (.int k), .val (.ref (ad 1)), .val (.ref (ad 0)), .val (.int 1), .val (.int 1), .val (.int 1), .unset]) rfl ?_
      refine aloadN C at_94 (pc' := 95) rfl rfl rfl ?_
      refine aloadN C at_95 (pc' := 96) rfl rfl rfl ?_
      refine callS_ C (y := (⟨"com/example/moraine/moraine/expression/Expression", "and", "(Lcom/example/moraine/moraine/expression/Expression;Lcom/example/moraine/moraine/expression/Expression;)Lcom/example/moraine/moraine/expression/Expression;"⟩ : MethodName)) (hw _ (List.mem_of_getElem? (i := 36) rfl)) (hw _ (List.mem_of_getElem? (i := 37) rfl)) (hw _ (List.mem_of_getElem? (i := 33) rfl)) (hw _ (List.mem_of_getElem? (i := 38) rfl)) (by decide) pd_2 [(.ref (ad 1)), (.ref (ad 0))] [] rfl rfl (W := 0) rfl (by decide) (by decide) (by decide) (by decide) (rm_and1 l Z a0 hw ad K h0 E) rfl at_96 (pc' := 99) rfl ?_
      rintro _ _ _ ⟨rfl, rfl, rfl⟩
      show Wk p l e _ _ m _ below meth c _ _ _ _ _ _ (mkF m 99 #[.val (.int k), .val (.ref (ad 1)), .val (.ref (ad 0)), .val (.int 1), .val (.int 1), .val (.int 1), .unset] [(.ref (ad 1))])
      refine getS_ C (hw _ (List.mem_of_getElem? (i := 40) rfl)) ((K 1 (by decide)).1.ext E) at_99 (pc' := 102) rfl ?_
      refine acmp_ne C 109 105 at_102 (by decide) rfl rfl (fun q102 => ?_) (fun q102 => ?_)
      · exact absurd rfl q102
      refine iconst C at_105 (pc' := 106) rfl (v := 1) rfl ?_
      refine goto_ C at_106 (by decide) (pc' := 110) rfl ?_
      refine istore C at_110 (pc' := 112) rfl (Ls' := #[.val (.int k), .val (.ref (ad 1)), .val (.ref (ad 0)), .val (.int 1), .val (.int 1), .val (.int 1), .val (.int 1)]) rfl ?_
      refine iloadN C at_112 (pc' := 113) rfl rfl ?_
      refine if_eq C 135 116 at_113 (by decide) rfl rfl (fun q113 => ?_) (fun q113 => ?_)
      · exact absurd q113 (by decide)
      refine iload C at_116 (pc' := 118) rfl rfl ?_
      refine if_eq C 135 121 at_118 (by decide) rfl rfl (fun q118 => ?_) (fun q118 => ?_)
      · exact absurd q118 (by decide)
      refine iload C at_121 (pc' := 123) rfl rfl ?_
      refine if_eq C 135 126 at_123 (by decide) rfl rfl (fun q123 => ?_) (fun q123 => ?_)
      · exact absurd q123 (by decide)
      refine iload C at_126 (pc' := 128) rfl rfl ?_
      refine if_eq C 135 131 at_128 (by decide) rfl rfl (fun q128 => ?_) (fun q128 => ?_)
      · exact absurd q128 (by decide)
      refine iconst C at_131 (pc' := 132) rfl (v := 1) rfl ?_
      refine goto_ C at_132 (by decide) (pc' := 136) rfl ?_
      exact ret_Z C at_136 rfl (by decide) (by decide) (by decide) ⟨rfl, Fr.nil _⟩
    · exact absurd q25 (by decide)
  · skip
    refine getS_ C (hw _ (List.mem_of_getElem? (i := 0) rfl)) ((K 0 (by decide)).1.ext E) at_6 (pc' := 9) rfl ?_
    refine goto_ C at_9 (by decide) (pc' := 15) rfl ?_
    refine astoreN C at_15 (pc' := 16) rfl rfl (Ls' := #[.val (.int k), .val (.ref (ad 0)), .unset, .unset, .unset, .unset, .unset]) rfl ?_
    refine aloadN C at_16 (pc' := 17) rfl rfl rfl ?_
    refine callV_ C (y := (⟨"com/example/moraine/moraine/expression/Expression$Constant", "negate", "()Lcom/example/moraine/moraine/expression/Expression;"⟩ : MethodName)) (z := (⟨"com/example/moraine/moraine/expression/Expression$Constant", "negate", "()Lcom/example/moraine/moraine/expression/Expression;"⟩ : MethodName)) (hw _ (List.mem_of_getElem? (i := 3) rfl)) (hw _ (List.mem_of_getElem? (i := 4) rfl)) (nf_sel (hw _ (List.mem_of_getElem? (i := 6) rfl))) (hw _ (List.mem_of_getElem? (i := 6) rfl)) (hw _ (List.mem_of_getElem? (i := 5) rfl)) (hw _ (List.mem_of_getElem? (i := 1) rfl)) (hw _ (List.mem_of_getElem? (i := 7) rfl)) (by decide) ((K 0 (by decide)).2.1.ext E) pd_0 [] [] rfl rfl (W := 0) rfl (by decide) (by decide) (by decide) (by decide) (rm_negate0 l Z a0 hw ad K h0 E) rfl at_17 (pc' := 20) rfl ?_
    rintro _ _ _ ⟨rfl, rfl, rfl⟩
    show Wk p l e _ _ m _ below meth c _ _ _ _ _ _ (mkF m 20 #[.val (.int k), .val (.ref (ad 0)), .unset, .unset, .unset, .unset, .unset] [(.ref (ad 1))])
    refine astoreN C at_20 (pc' := 21) rfl rfl (Ls' := #[.val (.int k), .val (.ref (ad 0)), .val (.ref (ad 1)), .unset, .unset, .unset, .unset]) rfl ?_
    refine aloadN C at_21 (pc' := 22) rfl rfl rfl ?_
    refine instY_ C (hw _ (List.mem_of_getElem? (i := 11) rfl)) (Ins.self ((K 1 (by decide)).2.1.ext E)) at_22 (pc' := 25) rfl ?_
    refine if_ne C 30 28 at_25 (by decide) rfl rfl (fun q25 => ?_) (fun q25 => ?_)
    · skip
      refine aloadN C at_30 (pc' := 31) rfl rfl rfl ?_
      refine aconstNull C at_31 (pc' := 32) rfl ?_
      refine callF_ C (y := (⟨"com/example/moraine/moraine/expression/Expression", "evaluate", "(Ljava/util/function/Predicate;)Z"⟩ : MethodName)) (z := (⟨"com/example/moraine/moraine/expression/Expression$Constant", "evaluate", "(Ljava/util/function/Predicate;)Z"⟩ : MethodName)) (hw _ (List.mem_of_getElem? (i := 13) rfl)) (hw _ (List.mem_of_getElem? (i := 14) rfl)) (hw _ (List.mem_of_getElem? (i := 15) rfl)) (by first | rfl | decide) (hw _ (List.mem_of_getElem? (i := 16) rfl)) (hw _ (List.mem_of_getElem? (i := 17) rfl)) (hw _ (List.mem_of_getElem? (i := 18) rfl)) (hw _ (List.mem_of_getElem? (i := 19) rfl)) (hw _ (List.mem_of_getElem? (i := 20) rfl)) (hw _ (List.mem_of_getElem? (i := 1) rfl)) (hw _ (List.mem_of_getElem? (i := 21) rfl)) (by decide) ((K 1 (by decide)).2.1.ext E) pd_1 [.null] [] rfl rfl (W := 0) rfl (by decide) (by decide) (by decide) (by decide) (rm_evaluate1 l Z a0 hw ad K h0 E) rfl at_32 (pc' := 37) rfl ?_
      rintro _ _ _ ⟨rfl, rfl, rfl⟩
      show Wk p l e _ _ m _ below meth c _ _ _ _ _ _ (mkF m 37 #[.val (.int k), .val (.ref (ad 0)), .val (.ref (ad 1)), .unset, .unset, .unset, .unset] [(.int 0)])
      refine aloadN C at_37 (pc' := 38) rfl rfl rfl ?_
      refine aconstNull C at_38 (pc' := 39) rfl ?_
      refine callV_ C (y := (⟨"com/example/moraine/moraine/expression/Expression$Constant", "evaluate", "(Ljava/util/function/Predicate;)Z"⟩ : MethodName)) (z := (⟨"com/example/moraine/moraine/expression/Expression$Constant", "evaluate", "(Ljava/util/function/Predicate;)Z"⟩ : MethodName)) (hw _ (List.mem_of_getElem? (i := 22) rfl)) (hw _ (List.mem_of_getElem? (i := 23) rfl)) (nf_sel (hw _ (List.mem_of_getElem? (i := 24) rfl))) (hw _ (List.mem_of_getElem? (i := 24) rfl)) (hw _ (List.mem_of_getElem? (i := 17) rfl)) (hw _ (List.mem_of_getElem? (i := 1) rfl)) (hw _ (List.mem_of_getElem? (i := 21) rfl)) (by decide) ((K 0 (by decide)).2.1.ext E) pd_1 [.null] [(.int 0)] rfl rfl (W := 1) rfl (by decide) (by decide) (by decide) (by decide) (rm_evaluate0 l Z a0 hw ad K h0 E) rfl at_39 (pc' := 42) rfl ?_
      rintro _ _ _ ⟨rfl, rfl, rfl⟩
      show Wk p l e _ _ m _ below meth c _ _ _ _ _ _ (mkF m 42 #[.val (.int k), .val (.ref (ad 0)), .val (.ref (ad 1)), .unset, .unset, .unset, .unset] [(.int 1), (.int 0)])
      refine if_ne C 49 45 at_42 (by decide) rfl rfl (fun q42 => ?_) (fun q42 => ?_)
      · skip
        refine iconst C at_49 (pc' := 50) rfl (v := 0) rfl ?_
        refine icmp_ne C 57 53 at_50 (by decide) rfl rfl (fun q50 => ?_) (fun q50 => ?_)
        · exact absurd q50 (by decide)
        refine iconst C at_53 (pc' := 54) rfl (v := 1) rfl ?_
        refine goto_ C at_54 (by decide) (pc' := 58) rfl ?_
        refine istoreN C at_58 (pc' := 59) rfl (Ls' := #[.val (.int k), .val (.ref (ad 0)), .val (.ref (ad 1)), .val (.int 1), .unset, .unset, .unset]) rfl ?_
        refine aloadN C at_59 (pc' := 60) rfl rfl rfl ?_
        refine callF_ C (y := (⟨"com/example/moraine/moraine/expression/Expression", "negate", "()Lcom/example/moraine/moraine/expression/Expression;"⟩ : MethodName)) (z := (⟨"com/example/moraine/moraine/expression/Expression$Constant", "negate", "()Lcom/example/moraine/moraine/expression/Expression;"⟩ : MethodName)) (hw _ (List.mem_of_getElem? (i := 25) rfl)) (hw _ (List.mem_of_getElem? (i := 26) rfl)) (hw _ (List.mem_of_getElem? (i := 27) rfl)) (by first | rfl | decide) (hw _ (List.mem_of_getElem? (i := 28) rfl)) (hw _ (List.mem_of_getElem? (i := 5) rfl)) (hw _ (List.mem_of_getElem? (i := 29) rfl)) (hw _ (List.mem_of_getElem? (i := 30) rfl)) (hw _ (List.mem_of_getElem? (i := 20) rfl)) (hw _ (List.mem_of_getElem? (i := 1) rfl)) (hw _ (List.mem_of_getElem? (i := 7) rfl)) (by decide) ((K 1 (by decide)).2.1.ext E) pd_0 [] [] rfl rfl (W := 0) rfl (by decide) (by decide) (by decide) (by decide) (rm_negate1 l Z a0 hw ad K h0 E) rfl at_60 (pc' := 65) rfl ?_
        rintro _ _ _ ⟨rfl, rfl, rfl⟩
        show Wk p l e _ _ m _ below meth c _ _ _ _ _ _ (mkF m 65 #[.val (.int k), .val (.ref (ad 0)), .val (.ref (ad 1)), .val (.int 1), .unset, .unset, .unset] [(.ref (ad 0))])
        refine aloadN C at_65 (pc' := 66) rfl rfl rfl ?_
        refine acmp_ne C 73 69 at_66 (by decide) rfl rfl (fun q66 => ?_) (fun q66 => ?_)
        · exact absurd rfl q66
        refine iconst C at_69 (pc' := 70) rfl (v := 1) rfl ?_
        refine goto_ C at_70 (by decide) (pc' := 74) rfl ?_
        refine istore C at_74 (pc' := 76) rfl (Ls' := #[.val (.int k), .val (.ref (ad 0)), .val (.ref (ad 1)), .val (.int 1), .val (.int 1), .unset, .unset]) rfl ?_
        refine aloadN C at_76 (pc' := 77) rfl rfl rfl ?_
        refine aloadN C at_77 (pc' := 78) rfl rfl rfl ?_
        refine callS_ C (y := (⟨"com/example/moraine/moraine/expression/Expression", "or", "(Lcom/example/moraine/moraine/expression/Expression;Lcom/example/moraine/moraine/expression/Expression;)Lcom/example/moraine/moraine/expression/Expression;"⟩ : MethodName)) (hw _ (List.mem_of_getElem? (i := 31) rfl)) (hw _ (List.mem_of_getElem? (i := 32) rfl)) (hw _ (List.mem_of_getElem? (i := 33) rfl)) (hw _ (List.mem_of_getElem? (i := 34) rfl)) (by decide) pd_2 [(.ref (ad 0)), (.ref (ad 1))] [] rfl rfl (W := 0) rfl (by decide) (by decide) (by decide) (by decide) (rm_or0 l Z a0 hw ad K h0 E) rfl at_78 (pc' := 81) rfl ?_
        rintro _ _ _ ⟨rfl, rfl, rfl⟩
        show Wk p l e _ _ m _ below meth c _ _ _ _ _ _ (mkF m 81 #[.val (.int k), .val (.ref (ad 0)), .val (.ref (ad 1)), .val (.int 1), .val (.int 1), .unset, .unset] [(.ref (ad 0))])
        refine getS_ C (hw _ (List.mem_of_getElem? (i := 0) rfl)) ((K 0 (by decide)).1.ext E) at_81 (pc' := 84) rfl ?_
        refine acmp_ne C 91 87 at_84 (by decide) rfl rfl (fun q84 => ?_) (fun q84 => ?_)
        · exact absurd rfl q84
        refine iconst C at_87 (pc' := 88) rfl (v := 1) rfl ?_
        refine goto_ C at_88 (by decide) (pc' := 92) rfl ?_
        refine istore C at_92 (pc' := 94) rfl (Ls' := #[.val (.int k), .val (.ref (ad 0)), .val (.ref (ad 1)), .val (.int 1), .val (.int 1), .val (.int 1), .unset]) rfl ?_
        refine aloadN C at_94 (pc' := 95) rfl rfl rfl ?_
        refine aloadN C at_95 (pc' := 96) rfl rfl rfl ?_
        refine callS_ C (y := (⟨"com/example/moraine/moraine/expression/Expression", "and", "(Lcom/example/moraine/moraine/expression/Expression;Lcom/example/moraine/moraine/expression/Expression;)Lcom/example/moraine/moraine/expression/Expression;"⟩ : MethodName)) (hw _ (List.mem_of_getElem? (i := 36) rfl)) (hw _ (List.mem_of_getElem? (i := 37) rfl)) (hw _ (List.mem_of_getElem? (i := 33) rfl)) (hw _ (List.mem_of_getElem? (i := 38) rfl)) (by decide) pd_2 [(.ref (ad 0)), (.ref (ad 1))] [] rfl rfl (W := 0) rfl (by decide) (by decide) (by decide) (by decide) (rm_and0 l Z a0 hw ad K h0 E) rfl at_96 (pc' := 99) rfl ?_
        rintro _ _ _ ⟨rfl, rfl, rfl⟩
        show Wk p l e _ _ m _ below meth c _ _ _ _ _ _ (mkF m 99 #[.val (.int k), .val (.ref (ad 0)), .val (.ref (ad 1)), .val (.int 1), .val (.int 1), .val (.int 1), .unset] [(.ref (ad 1))])
        refine getS_ C (hw _ (List.mem_of_getElem? (i := 40) rfl)) ((K 1 (by decide)).1.ext E) at_99 (pc' := 102) rfl ?_
        refine acmp_ne C 109 105 at_102 (by decide) rfl rfl (fun q102 => ?_) (fun q102 => ?_)
        · exact absurd rfl q102
        refine iconst C at_105 (pc' := 106) rfl (v := 1) rfl ?_
        refine goto_ C at_106 (by decide) (pc' := 110) rfl ?_
        refine istore C at_110 (pc' := 112) rfl (Ls' := #[.val (.int k), .val (.ref (ad 0)), .val (.ref (ad 1)), .val (.int 1), .val (.int 1), .val (.int 1), .val (.int 1)]) rfl ?_
        refine iloadN C at_112 (pc' := 113) rfl rfl ?_
        refine if_eq C 135 116 at_113 (by decide) rfl rfl (fun q113 => ?_) (fun q113 => ?_)
        · exact absurd q113 (by decide)
        refine iload C at_116 (pc' := 118) rfl rfl ?_
        refine if_eq C 135 121 at_118 (by decide) rfl rfl (fun q118 => ?_) (fun q118 => ?_)
        · exact absurd q118 (by decide)
        refine iload C at_121 (pc' := 123) rfl rfl ?_
        refine if_eq C 135 126 at_123 (by decide) rfl rfl (fun q123 => ?_) (fun q123 => ?_)
        · exact absurd q123 (by decide)
        refine iload C at_126 (pc' := 128) rfl rfl ?_
        refine if_eq C 135 131 at_128 (by decide) rfl rfl (fun q128 => ?_) (fun q128 => ?_)
        · exact absurd q128 (by decide)
        refine iconst C at_131 (pc' := 132) rfl (v := 1) rfl ?_
        refine goto_ C at_132 (by decide) (pc' := 136) rfl ?_
        exact ret_Z C at_136 rfl (by decide) (by decide) (by decide) ⟨rfl, Fr.nil _⟩
      · exact absurd q42 (by decide)
    · exact absurd q25 (by decide)
set_option maxRecDepth 65536 in
set_option maxHeartbeats 40000000 in
theorem comes_1 {Post : Tables → Env → Array Value → State → Outcome → State → Prop} (hpost : ∀ tb e args s v u, (limb_1_1.after args s (.returned v) u = true ∧ limb_1_2.after args s (.returned v) u = true ∧ True) → FrameEnd s (.returned v) u (Jvm.fieldLocs frame_1_writes args s ++ Jvm.arrayLocs frame_1_arrays args s ++ Jvm.staticLocs frame_1_statics s) 0 0 → Post tb e args s (.returned v) u) :
    ArmFor flags0 classFile x code maxLocals ret World_1 tables_1 room_1 Calls_1 rest_1 Pre_1 Post := by
  intro l hfl _ _ p e ha hc hk s m args below hf hA hF happ hP
  obtain ⟨hcalls, hrest, hpre⟩ := hP
  obtain ⟨-, -, -, hnamed, -, -, -, hat⟩ := (Spec.applies_iff hf).mp happ
  obtain ⟨hg, hn⟩ := and_e (Cond.before_iff.mp (show (Jvm.Cond.and given_1 narrow_1).before args s = true from hpre))
  obtain ⟨u1, w1_⟩ := and_e hg
  obtain ⟨u2, w2_⟩ := and_e hn
  obtain ⟨u3, w3_⟩ := and_e w2_
  obtain ⟨u4, w4_⟩ := and_e w3_
  obtain ⟨v0, rfl⟩ : ∃ v0 : Value, args = #[v0] := by
    have hs : args.size = 1 := by simpa [Cond.value, given_1] using u1
    obtain ⟨L⟩ := args
    match L, hs with
    | [v0], _ => exact ⟨v0, rfl⟩
  have hw := fun d (hd : d ∈ tables_1) => atoms_spec (ws := Jvm.Cond.code x code maxLocals ret :: tables_1) hat d (List.mem_cons_of_mem _ hd)
  have hfit : Fit s := fun {y c} hc i hi => by
    obtain ⟨ha, rfl⟩ := Array.getElem?_eq_some_iff.mp hc
    have q := List.all_eq_true.mp ((Array.all_eq_true_iff_forall_mem.mp hF) _ (Array.getElem_mem ha)) i (List.mem_range.mpr hi)
    simpa [Array.getElem?_eq_getElem hi] using q
  obtain ⟨i0, ei0⟩ := is_v w1_
  obtain rfl : v0 = (.int i0) := Option.some.inj ei0
  obtain ⟨ad_TRUE, ev_TRUE, S_TRUE, E_TRUE⟩ := sta_of u2 (hw _ (List.mem_of_getElem? (i := 1) rfl)) (hw _ (List.mem_of_getElem? (i := 2) rfl))
  obtain ⟨ad_FALSE, ev_FALSE, S_FALSE, E_FALSE⟩ := sta_of u3 (hw _ (List.mem_of_getElem? (i := 1) rfl)) (hw _ (List.mem_of_getElem? (i := 10) rfl))
  have F_ordinal_FALSE := fld_of ev_FALSE u4
  have F_ordinal_TRUE := fld_of ev_TRUE w4_
  have K : KsK s (fun k => [ad_TRUE, ad_FALSE].getD k 0) := fun k hk => by
    match k, hk with
    | 0, _ => exact ⟨S_TRUE, E_TRUE, F_ordinal_TRUE⟩
    | 1, _ => exact ⟨S_FALSE, E_FALSE, F_ordinal_FALSE⟩
    | k + 2, hk => exact absurd hk (by omega)
  obtain ⟨n, o, h1, h2, h3, _, L, rfl, ⟨rfl, N⟩, hq⟩ := rm0 l s _ hw _ K i0 s.heap (Ext.refl _) p e ha hc hk s m _ below hf ((Spec.applies_iff_loose hf).mp happ).1 ⟨rfl, State.Warmed39.refl s, rfl⟩ trivial
  exact ⟨n, _, h1, h2, h3, hpost _ _ _ _ _ _ ⟨Cond.after_iff.mpr rfl, Cond.after_iff.mpr (eq_i res_at (Term.int_eval (1)) rfl), trivial⟩ ⟨hq.1, hq.2.1, (hq.2.2.sift fun y hy => Or.inr (N y hy)).mono (by decide) (by decide)⟩⟩
theorem main_1_1 : Claimed_1_1 := comes_1 fun _ _ _ _ _ _ h hF => ⟨h.1, hF⟩
theorem main_1_2 : Claimed_1_2 := comes_1 fun _ _ _ _ _ _ h hF => ⟨h.2.1, hF⟩
end Jvm.Pilot.@@N@@
namespace Jvm.Pilot.@@N@@
open Jvm Jvm.ClassFile Sem Op Lib Jvm.Free Jvm.Stand Jvm.Pilot.@@N@@.Jvm.D
/-! MADE BY PROGRAM (witnessworld.py) out of the Statement's table words and the real class files: 13 classes; the members and pool entries that the words name. The judged class is class 1, her method 1. -/
namespace start1
open Jvm.ClassFile
def u (s : String) : CpInfo := .utf8 (stringToUtf16 s)
/-- a pool by its gaps: so many unusable entries, then the entry; so many at the end -/
def gap : Nat → List CpInfo → List CpInfo
  | 0, r => r
  | n + 1, r => .unusable :: gap n r
def poolList (es : List (Nat × CpInfo)) (last : Nat) : List CpInfo := es.foldr (fun e r => gap e.1 (e.2 :: r)) (gap last [])
def pool (es : List (Nat × CpInfo)) (last : Nat) : Array CpInfo := ⟨poolList es last⟩
def fileOf (pool : Array CpInfo) (this : Nat) (attrs : Array Attribute := #[]) (ms : Array MethodInfo := #[]) (fl : Nat := 33) (sup : Nat := 0) (ifs : Array Nat := #[]) (fds : Array FieldInfo := #[]) : ClassFile where
  minorVersion := 0
  majorVersion := 65
  constantPool := pool
  accessFlags := fl
  thisClass := this
  superClass := sup
  interfaces := ifs
  fields := fds
  methods := ms
  attributes := attrs
def plain (name : String) (sup : Option ClassId) : Class where
  name := name
  kind := .ordinary
  loader := none
  accessFlags := 33
  super := sup
  interfaces := #[]
  cf := none
  fields := #[]
  methods := #[]
  instanceTypes := #[]
  staticTypes := #[]
  resolved := #[]
  callSites := []
  init := .initialized
  statics := none
  mirror := none

def pool0 : Array CpInfo := pool [(5, u "<init>"), (0, u "()V"), (1, .class_ 10), (1, u "java/lang/Object")] 113

def k0m0 : Method := { name := "<init>", desc := "()V", sig := { parameters := [], returnType := none }, accessFlags := 1, code := none }
/-- java/lang/Object -/
def k0 : Class := { plain "java/lang/Object" none with
  accessFlags := 33
  interfaces := #[]
  cf := some (fileOf pool0 8 #[] #[{ accessFlags := 1, nameIndex := 5, descriptorIndex := 6, attributes := #[] }] 33 0 #[] #[])
  fields := #[]
  methods := #[k0m0]
  instanceTypes := #[]
  staticTypes := #[]
  resolved := Array.replicate 124 none
  statics := none }

def pool1 : Array CpInfo := pool [(2, .class_ 4), (1, u "java/lang/Object"), (0, u "<init>"), (0, u "()V"), (0, .fieldref 8 9), (0, .class_ 10), (0, .nameAndType 11 12), (0, u "com/example/moraine/moraine/expression/Expression$Constant"), (0, u "TRUE"), (0, u "Lcom/example/moraine/moraine/expression/Expression$Constant;"), (0, .fieldref 8 14), (0, .nameAndType 15 12), (0, u "FALSE"), (0, .methodref 8 17), (0, .nameAndType 18 19), (0, u "negate"), (0, u "()Lcom/example/moraine/moraine/expression/Expression;"), (0, .interfaceMethodref 21 22), (0, .class_ 23), (0, .nameAndType 24 25), (0, u "com/example/moraine/moraine/expression/Expression"), (0, u "evaluate"), (0, u "(Ljava/util/function/Predicate;)Z"), (0, .methodref 8 22), (0, .interfaceMethodref 21 17), (0, .interfaceMethodref 21 29), (0, .nameAndType 30 31), (0, u "or"), (0, u "(Lcom/example/moraine/moraine/expression/Expression;Lcom/example/moraine/moraine/expression/Expression;)Lcom/example/moraine/moraine/expression/Expression;"), (0, .interfaceMethodref 21 33), (0, .nameAndType 34 31), (0, u "and"), (0, .class_ 36), (0, u "com/example/moraine/moraine/expression/ConstantNegatePinLaw"), (2, u "law"), (0, u "(I)Z")] 5

def k1m0 : Method := { name := "<init>", desc := "()V", sig := { parameters := [], returnType := none }, accessFlags := 1, code := none }
def k1c1 : Code := { maxStack := 3, maxLocals := 7, code := code, exceptionTable := #[], attributes := #[] }
def k1m1 : Method := { name := "law", desc := "(I)Z", sig := { parameters := [.int], returnType := some .boolean }, accessFlags := 9, code := some k1c1 }
/-- com/example/moraine/moraine/expression/ConstantNegatePinLaw -/
def k1 : Class := { plain "com/example/moraine/moraine/expression/ConstantNegatePinLaw" (some 0) with
  accessFlags := 49
  interfaces := #[]
  cf := some (fileOf pool1 35 #[] #[{ accessFlags := 1, nameIndex := 5, descriptorIndex := 6, attributes := #[] }, { accessFlags := 9, nameIndex := 39, descriptorIndex := 40, attributes := #[] }] 49 2 #[] #[])
  fields := #[]
  methods := #[k1m0, k1m1]
  instanceTypes := #[]
  staticTypes := #[]
  resolved := Array.replicate 46 none
  statics := none }

def pool2 : Array CpInfo := pool [(1, .class_ 2), (0, u "java/lang/constant/Constable"), (0, .class_ 4), (0, u "java/lang/Object")] 6

/-- java/lang/constant/Constable -/
def k2 : Class := { plain "java/lang/constant/Constable" (some 0) with
  accessFlags := 1537
  interfaces := #[]
  cf := some (fileOf pool2 1 #[] #[] 1537 3 #[] #[])
  fields := #[]
  methods := #[]
  instanceTypes := #[]
  staticTypes := #[]
  resolved := Array.replicate 11 none
  statics := none }

def pool3 : Array CpInfo := pool [(1, .class_ 2), (0, u "java/lang/Comparable"), (0, .class_ 4), (0, u "java/lang/Object")] 7

/-- java/lang/Comparable -/
def k3 : Class := { plain "java/lang/Comparable" (some 0) with
  accessFlags := 1537
  interfaces := #[]
  cf := some (fileOf pool3 1 #[] #[] 1537 3 #[] #[])
  fields := #[]
  methods := #[]
  instanceTypes := #[]
  staticTypes := #[]
  resolved := Array.replicate 12 none
  statics := none }

def pool4 : Array CpInfo := pool [(1, .class_ 2), (0, u "java/io/Serializable"), (0, .class_ 4), (0, u "java/lang/Object")] 2

/-- java/io/Serializable -/
def k4 : Class := { plain "java/io/Serializable" (some 0) with
  accessFlags := 1537
  interfaces := #[]
  cf := some (fileOf pool4 1 #[] #[] 1537 3 #[] #[])
  fields := #[]
  methods := #[]
  instanceTypes := #[]
  staticTypes := #[]
  resolved := Array.replicate 7 none
  statics := none }

def pool5 : Array CpInfo := pool [(2, .class_ 4), (1, u "java/lang/Enum"), (0, u "name"), (0, u "Ljava/lang/String;"), (2, u "ordinal"), (0, u "I"), (1, .class_ 14), (1, u "java/lang/Object"), (4, u "hash"), (86, .class_ 108), (1, u "java/lang/Enum$EnumDesc"), (2, .class_ 112), (0, u "java/lang/constant/Constable"), (0, .class_ 114), (0, u "java/lang/Comparable"), (0, .class_ 116), (0, u "java/io/Serializable")] 87

/-- java/lang/Enum -/
def k5 : Class := { plain "java/lang/Enum" (some 0) with
  accessFlags := 1057
  interfaces := #[2, 3, 4]
  cf := some (fileOf pool5 2 #[.nestMembers #[106]] #[] 1057 12 #[111, 113, 115] #[{ accessFlags := 18, nameIndex := 5, descriptorIndex := 6, attributes := #[] }, { accessFlags := 18, nameIndex := 9, descriptorIndex := 10, attributes := #[] }, { accessFlags := 2, nameIndex := 19, descriptorIndex := 10, attributes := #[] }])
  fields := #[{ name := "name", type := (.object "java/lang/String"), accessFlags := 18, slot := 0, constantValue := 0 }, { name := "ordinal", type := .int, accessFlags := 18, slot := 1, constantValue := 0 }, { name := "hash", type := .int, accessFlags := 2, slot := 2, constantValue := 0 }]
  methods := #[]
  instanceTypes := #[(.object "java/lang/String"), .int, .int]
  staticTypes := #[]
  resolved := Array.replicate 204 none
  statics := none }

def pool6 : Array CpInfo := pool [(1, .fieldref 2 3), (0, .class_ 4), (0, .nameAndType 5 6), (0, u "com/example/moraine/moraine/expression/Expression$Constant"), (0, u "FALSE"), (0, u "Lcom/example/moraine/moraine/expression/Expression$Constant;"), (0, .fieldref 2 8), (0, .nameAndType 9 6), (0, u "TRUE"), (0, .class_ 11), (0, u "com/example/moraine/moraine/expression/Expression$And"), (4, .class_ 17), (0, u "com/example/moraine/moraine/expression/Expression$Or"), (1, .class_ 20), (0, u "com/example/moraine/moraine/expression/Expression"), (0, .class_ 22), (0, u "java/lang/Object"), (0, u "negate"), (0, u "()Lcom/example/moraine/moraine/expression/Expression;"), (2, u "evaluate"), (0, u "(Ljava/util/function/Predicate;)Z"), (5, u "and"), (0, u "(Lcom/example/moraine/moraine/expression/Expression;Lcom/example/moraine/moraine/expression/Expression;)Lcom/example/moraine/moraine/expression/Expression;"), (3, u "or")] 12

def k6m0 : Method := { name := "negate", desc := "()Lcom/example/moraine/moraine/expression/Expression;", sig := { parameters := [], returnType := some (.object "com/example/moraine/moraine/expression/Expression") }, accessFlags := 1025, code := none }
def k6m1 : Method := { name := "evaluate", desc := "(Ljava/util/function/Predicate;)Z", sig := { parameters := [(.object "java/util/function/Predicate")], returnType := some .boolean }, accessFlags := 1025, code := none }
def k6c2 : Code := { maxStack := 4, maxLocals := 2, code := prog_16_method_5_code, exceptionTable := #[], attributes := #[] }
def k6m2 : Method := { name := "and", desc := "(Lcom/example/moraine/moraine/expression/Expression;Lcom/example/moraine/moraine/expression/Expression;)Lcom/example/moraine/moraine/expression/Expression;", sig := { parameters := [(.object "com/example/moraine/moraine/expression/Expression"), (.object "com/example/moraine/moraine/expression/Expression")], returnType := some (.object "com/example/moraine/moraine/expression/Expression") }, accessFlags := 9, code := some k6c2 }
def k6c3 : Code := { maxStack := 4, maxLocals := 2, code := prog_16_method_6_code, exceptionTable := #[], attributes := #[] }
def k6m3 : Method := { name := "or", desc := "(Lcom/example/moraine/moraine/expression/Expression;Lcom/example/moraine/moraine/expression/Expression;)Lcom/example/moraine/moraine/expression/Expression;", sig := { parameters := [(.object "com/example/moraine/moraine/expression/Expression"), (.object "com/example/moraine/moraine/expression/Expression")], returnType := some (.object "com/example/moraine/moraine/expression/Expression") }, accessFlags := 9, code := some k6c3 }
/-- com/example/moraine/moraine/expression/Expression -/
def k6 : Class := { plain "com/example/moraine/moraine/expression/Expression" (some 0) with
  accessFlags := 1537
  interfaces := #[]
  cf := some (fileOf pool6 19 #[.nestMembers #[2, 16, 10]] #[{ accessFlags := 1025, nameIndex := 23, descriptorIndex := 24, attributes := #[] }, { accessFlags := 1025, nameIndex := 27, descriptorIndex := 28, attributes := #[] }, { accessFlags := 9, nameIndex := 34, descriptorIndex := 35, attributes := #[] }, { accessFlags := 9, nameIndex := 39, descriptorIndex := 35, attributes := #[] }] 1537 21 #[] #[])
  fields := #[]
  methods := #[k6m0, k6m1, k6m2, k6m3]
  instanceTypes := #[]
  staticTypes := #[]
  resolved := Array.replicate 52 none
  statics := none }

def pool7 : Array CpInfo := pool [(1, .class_ 2), (0, u "com/example/moraine/moraine/expression/Expression$Constant"), (0, .fieldref 1 4), (0, .nameAndType 5 6), (0, u "TRUE"), (0, u "Lcom/example/moraine/moraine/expression/Expression$Constant;"), (0, .fieldref 1 8), (0, .nameAndType 9 6), (0, u "FALSE"), (2, u "$VALUES"), (0, u "[Lcom/example/moraine/moraine/expression/Expression$Constant;"), (6, .class_ 22), (1, u "java/lang/Enum"), (22, .class_ 46), (0, u "com/example/moraine/moraine/expression/Expression"), (7, u "negate"), (0, u "()Lcom/example/moraine/moraine/expression/Expression;"), (3, u "evaluate"), (0, u "(Ljava/util/function/Predicate;)Z")] 12

def k7c0 : Code := { maxStack := 2, maxLocals := 1, code := prog_18_method_4_code, exceptionTable := #[], attributes := #[] }
def k7m0 : Method := { name := "negate", desc := "()Lcom/example/moraine/moraine/expression/Expression;", sig := { parameters := [], returnType := some (.object "com/example/moraine/moraine/expression/Expression") }, accessFlags := 1, code := some k7c0 }
def k7c1 : Code := { maxStack := 2, maxLocals := 2, code := prog_18_method_6_code, exceptionTable := #[], attributes := #[] }
def k7m1 : Method := { name := "evaluate", desc := "(Ljava/util/function/Predicate;)Z", sig := { parameters := [(.object "java/util/function/Predicate")], returnType := some .boolean }, accessFlags := 1, code := some k7c1 }
/-- com/example/moraine/moraine/expression/Expression$Constant -/
def k7 : Class := { plain "com/example/moraine/moraine/expression/Expression$Constant" (some 5) with
  accessFlags := 16433
  interfaces := #[6]
  cf := some (fileOf pool7 1 #[.nestHost 45] #[{ accessFlags := 1, nameIndex := 54, descriptorIndex := 55, attributes := #[] }, { accessFlags := 1, nameIndex := 59, descriptorIndex := 60, attributes := #[] }] 16433 20 #[45] #[{ accessFlags := 16409, nameIndex := 5, descriptorIndex := 6, attributes := #[] }, { accessFlags := 16409, nameIndex := 9, descriptorIndex := 6, attributes := #[] }, { accessFlags := 4122, nameIndex := 12, descriptorIndex := 13, attributes := #[] }])
  fields := #[{ name := "TRUE", type := (.object "com/example/moraine/moraine/expression/Expression$Constant"), accessFlags := 16409, slot := 0, constantValue := 0 }, { name := "FALSE", type := (.object "com/example/moraine/moraine/expression/Expression$Constant"), accessFlags := 16409, slot := 1, constantValue := 0 }, { name := "$VALUES", type := (.array (.object "com/example/moraine/moraine/expression/Expression$Constant")), accessFlags := 4122, slot := 2, constantValue := 0 }]
  methods := #[k7m0, k7m1]
  instanceTypes := #[(.object "java/lang/String"), .int, .int]
  staticTypes := #[(.object "com/example/moraine/moraine/expression/Expression$Constant"), (.object "com/example/moraine/moraine/expression/Expression$Constant"), (.array (.object "com/example/moraine/moraine/expression/Expression$Constant"))]
  resolved := Array.replicate 73 none
  statics := some 0 }

def pool8 : Array CpInfo := pool [(1, u "java/lang/Cloneable"), (0, .class_ 1), (0, u "java/lang/Object"), (0, .class_ 3)] 3

/-- java/lang/Cloneable -/
def k8 : Class := { plain "java/lang/Cloneable" (some 0) with
  accessFlags := 1537
  interfaces := #[]
  cf := some (fileOf pool8 2 #[] #[] 1537 4 #[] #[])
  fields := #[]
  methods := #[]
  instanceTypes := #[]
  staticTypes := #[]
  resolved := Array.replicate 8 none
  statics := none }

/-- the primitive byte -/
def k9 : Class := { plain "byte" none with kind := .primitive 'B', accessFlags := 0x411 }
/-- [B -/
def k10 : Class := { plain "[B" (some 0) with kind := .array 9 .byte, interfaces := #[8, 4], accessFlags := 1041 }

/-- the primitive int -/
def k11 : Class := { plain "int" none with kind := .primitive 'I', accessFlags := 0x411 }
/-- [I -/
def k12 : Class := { plain "[I" (some 0) with kind := .array 11 .int, interfaces := #[8, 4], accessFlags := 1041 }

def heap : Heap := #[{ cls := 7, slots := #[.ref 1, .ref 2, .null], vm := .statics 7 },
  { cls := 7, slots := #[.null, .int 0, .int 0], vm := .none },
  { cls := 7, slots := #[.null, .int 1, .int 0], vm := .none }]
def classes : Array Class := #[k0, k1, k2, k3, k4, k5, k6, k7, k8, k9, k10, k11, k12]
def interned : List (Array UInt16 × Addr) := []
def slotsUsed : Nat := 9
def theMethod : MethodId := ⟨1, 1⟩
def args0 : Array Value := #[.int 5]
def aboutOver (below : List Frame) : State where
  vm := { classes := classes, interned := interned.toArray }
  heap := heap
  slotsUsed := slotsUsed
  threads := #[{ frames := .invoking theMethod args0 :: below }]
def below0 : List Frame := [.native { method := ⟨0, 0⟩, args := #[] }]
def about1 : State := aboutOver below0
def p0 : Program := .bare "" "" ""
def e0 : Env := launch0.env 0 0 0
theorem w_frames : about1.frames = Frame.invoking theMethod args0 :: below0 := rfl
set_option maxRecDepth 65536 in
theorem w_args : argsFit about1.vm theMethod args0 = true := by decide +kernel
set_option maxRecDepth 65536 in
theorem w_heap : heapFits about1 = true := by decide +kernel
set_option maxRecDepth 65536 in
theorem w_runnable : about1.curStatus? = some .runnable := by decide +kernel
set_option maxRecDepth 65536 in
theorem w_alone : about1.alone = true := by decide +kernel
set_option maxRecDepth 65536 in
theorem w_named : about1.methodNamed? x = some theMethod := by decide +kernel
set_option maxRecDepth 65536 in
theorem w_hears : about1.hears theMethod below0 = true := by decide +kernel
set_option maxRecDepth 65536 in
theorem w_ripe : about1.ripe theMethod args0 below0 = true := by decide +kernel
theorem w_running : about1.status = .running := rfl
set_option maxRecDepth 65536 in
theorem w_room : about1.hasRoom e0.platform room_1 = true :=
  launch0.hasRoom_least _ room_1 (by decide +kernel) (by decide +kernel) (by decide +kernel) (by decide +kernel) (by decide +kernel) (by decide +kernel)
theorem allAtoms_all (ts : List Jvm.Cond) (a : Array Jvm.Value) (st : Jvm.State) : (allAtoms ts).before a st = ts.all (fun c => c.before a st) := by
  induction ts with
  | nil => rfl
  | cons c t ih =>
    show (Jvm.Cond.and c (allAtoms t)).before a st = _
    rw [Jvm.Cond.before_and, ih, List.all_cons]
def words1 : List Jvm.Cond := Jvm.Cond.code x code maxLocals ret :: tables_1
/-- a 'code' word, met by the world's own term for the bytes: nothing is compared byte by byte -/
theorem code_word {y : MethodName} {bytes : ByteArray} {mx : Nat} {rt : Option FieldType} {a : Array Value} {s : State} {m : MethodId} {meth : Method} {c : Code} (h1 : s.methodNamed? y = some m) (h2 : s.vm.method? m = some meth) (h3 : meth.code = some c) (h4 : c.code = bytes)
    (h5 : (c.maxLocals == mx && c.exceptionTable.isEmpty && decide (c.maxStack ≤ mostOperands) && decide (meth.sig.returnType = rt) && !meth.locks && decide (parseMethodDescriptor y.desc = some meth.sig)) = true) : (Jvm.Cond.code y bytes mx rt).before a s = true := by
  simp only [Bool.and_eq_true, beq_iff_eq, Bool.not_eq_true', decide_eq_true_eq] at h5
  obtain ⟨⟨⟨⟨⟨g1, g2⟩, g3⟩, g4⟩, g5⟩, g6⟩ := h5
  simp [Cond.before, Cond.holds, Cond.value, h1, h2, h3, h4, g1, g2, g3, g4, g5, g6]
def isCode : Jvm.Cond → Bool
  | .code _ _ _ _ => true
  | _ => false
theorem all_split {L : List Jvm.Cond} {P : Jvm.Cond → Bool} (h1 : L.all (fun c => isCode c || P c) = true) (h2 : ∀ c ∈ L.filter isCode, P c = true) : L.all P = true := by
  refine List.all_eq_true.mpr fun c hc => ?_
  have h := List.all_eq_true.mp h1 c hc
  rcases Bool.eq_false_or_eq_true (isCode c) with hi | hi
  · exact h2 c (List.mem_filter.mpr ⟨hc, hi⟩)
  · simpa [hi] using h
set_option maxRecDepth 65536 in
theorem w_c0 : (Jvm.Cond.code x code maxLocals ret).before args0 about1 = true := code_word (m := ⟨1, 1⟩) (meth := k1m1) (c := k1c1) (by decide +kernel) rfl rfl rfl (by decide +kernel)
set_option maxRecDepth 65536 in
theorem w_c1 : (Jvm.Cond.code ({ cls := "com/example/moraine/moraine/expression/Expression$Constant", name := "negate", desc := "()Lcom/example/moraine/moraine/expression/Expression;" } : Jvm.MethodName) prog_18_method_4_code (1 : Nat) (Option.some (Jvm.ClassFile.FieldType.object "com/example/moraine/moraine/expression/Expression"))).before args0 about1 = true := code_word (m := ⟨7, 0⟩) (meth := k7m0) (c := k7c0) (by decide +kernel) rfl rfl rfl (by decide +kernel)
set_option maxRecDepth 65536 in
theorem w_c2 : (Jvm.Cond.code ({ cls := "com/example/moraine/moraine/expression/Expression$Constant", name := "evaluate", desc := "(Ljava/util/function/Predicate;)Z" } : Jvm.MethodName) prog_18_method_6_code (2 : Nat) (Option.some Jvm.ClassFile.FieldType.boolean)).before args0 about1 = true := code_word (m := ⟨7, 1⟩) (meth := k7m1) (c := k7c1) (by decide +kernel) rfl rfl rfl (by decide +kernel)
set_option maxRecDepth 65536 in
theorem w_c3 : (Jvm.Cond.code ({ cls := "com/example/moraine/moraine/expression/Expression", name := "or", desc := "(Lcom/example/moraine/moraine/expression/Expression;Lcom/example/moraine/moraine/expression/Expression;)Lcom/example/moraine/moraine/expression/Expression;" } : Jvm.MethodName) prog_16_method_6_code (2 : Nat) (Option.some (Jvm.ClassFile.FieldType.object "com/example/moraine/moraine/expression/Expression"))).before args0 about1 = true := code_word (m := ⟨6, 3⟩) (meth := k6m3) (c := k6c3) (by decide +kernel) rfl rfl rfl (by decide +kernel)
set_option maxRecDepth 65536 in
theorem w_c4 : (Jvm.Cond.code ({ cls := "com/example/moraine/moraine/expression/Expression", name := "and", desc := "(Lcom/example/moraine/moraine/expression/Expression;Lcom/example/moraine/moraine/expression/Expression;)Lcom/example/moraine/moraine/expression/Expression;" } : Jvm.MethodName) prog_16_method_5_code (2 : Nat) (Option.some (Jvm.ClassFile.FieldType.object "com/example/moraine/moraine/expression/Expression"))).before args0 about1 = true := code_word (m := ⟨6, 2⟩) (meth := k6m2) (c := k6c2) (by decide +kernel) rfl rfl rfl (by decide +kernel)
def codes1 : List Jvm.Cond := [Jvm.Cond.code x code maxLocals ret, Jvm.Cond.code ({ cls := "com/example/moraine/moraine/expression/Expression$Constant", name := "negate", desc := "()Lcom/example/moraine/moraine/expression/Expression;" } : Jvm.MethodName) prog_18_method_4_code (1 : Nat) (Option.some (Jvm.ClassFile.FieldType.object "com/example/moraine/moraine/expression/Expression")), Jvm.Cond.code ({ cls := "com/example/moraine/moraine/expression/Expression$Constant", name := "evaluate", desc := "(Ljava/util/function/Predicate;)Z" } : Jvm.MethodName) prog_18_method_6_code (2 : Nat) (Option.some Jvm.ClassFile.FieldType.boolean), Jvm.Cond.code ({ cls := "com/example/moraine/moraine/expression/Expression", name := "or", desc := "(Lcom/example/moraine/moraine/expression/Expression;Lcom/example/moraine/moraine/expression/Expression;)Lcom/example/moraine/moraine/expression/Expression;" } : Jvm.MethodName) prog_16_method_6_code (2 : Nat) (Option.some (Jvm.ClassFile.FieldType.object "com/example/moraine/moraine/expression/Expression")), Jvm.Cond.code ({ cls := "com/example/moraine/moraine/expression/Expression", name := "and", desc := "(Lcom/example/moraine/moraine/expression/Expression;Lcom/example/moraine/moraine/expression/Expression;)Lcom/example/moraine/moraine/expression/Expression;" } : Jvm.MethodName) prog_16_method_5_code (2 : Nat) (Option.some (Jvm.ClassFile.FieldType.object "com/example/moraine/moraine/expression/Expression"))]
set_option maxRecDepth 65536 in
theorem codes_eq : words1.filter isCode = codes1 := rfl
theorem w_codes : ∀ c ∈ words1.filter isCode, c.before args0 about1 = true := by
  rw [codes_eq]
  intro c hc
  simp only [codes1, List.mem_cons, List.not_mem_nil, or_false] at hc
  rcases hc with rfl | rfl | rfl | rfl | rfl
  · exact w_c0
  · exact w_c1
  · exact w_c2
  · exact w_c3
  · exact w_c4
set_option maxRecDepth 65536 in
theorem w_t1 : (words1.take 24).all (fun c => isCode c || c.before args0 about1) = true := by decide +kernel
set_option maxRecDepth 65536 in
theorem w_t2 : (words1.drop 24).all (fun c => isCode c || c.before args0 about1) = true := by decide +kernel
theorem w_tables : (allAtoms (Jvm.Cond.code x code maxLocals ret :: tables_1)).before args0 about1 = true := by
  rw [allAtoms_all]
  show words1.all (fun c => c.before args0 about1) = true
  refine all_split ?_ w_codes
  rw [← List.take_append_drop 24 words1, List.all_append, w_t1, w_t2]
  rfl
set_option maxRecDepth 65536 in
theorem w_case : (Jvm.Cond.and given_1 narrow_1).before args0 about1 = true := by decide +kernel
theorem w_applies : (headSpec (Jvm.Cond.code x code maxLocals ret :: tables_1) room_1).applies x e0.platform about1 = true :=
  (Spec.applies_iff w_frames).mpr ⟨w_running, w_runnable, w_alone, w_named, w_hears, w_ripe, w_room, w_tables⟩
theorem atStart : AtStart classFile x code maxLocals ret World_1 tables_1 room_1 Calls_1 rest_1 Pre_1 launch0 p0 e0 about1 theMethod args0 below0 :=
  ⟨lists_1, trivial, launch0.admits_env _ _ _, launch0.least_env, fairChoices_fair.cas, fairChoices_fair.clock, w_frames, w_args, w_heap, w_applies, trivial, trivial, w_case⟩
end start1
theorem witness_1 : WitnessClaimed_1 := ⟨start1.p0, start1.e0, start1.about1, start1.theMethod, start1.args0, start1.below0, start1.atStart⟩
end Jvm.Pilot.@@N@@
