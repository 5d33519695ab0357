import JvmDerived
import JvmDerived.Pilot.@@N@@Statement
import JvmDerived.Pilot.@@N@@Code
set_option linter.unusedVariables false
set_option linter.unusedSimpArgs false
@@BLOCK:NumsL.lean.txt@@
namespace Jvm.Own
open Sem ClassFile Op Lib Jvm.Stand Jvm.Free Jvm.LawKit Jvm.RoadKit
/-! ## a walk, backwards: 'Wk .. g': from every state that stands so, with the frame g on top, the run ends by a return that meets Q -/
def Ends (p : Program) (e : Env) (FE : Outcome → State → List Loc → Prop) (below : List Frame) (Q : Option Value → Heap → List Loc → Prop) (T : State) (g : JFrame) : Prop :=
  ∃ s₂ o, Steps p.tables e below (T.setTop g) s₂ ∧ s₂.status = .running ∧ Ended s₂ below o ∧ ∃ v L, o = .returned v ∧ Q v s₂.heap L ∧ FE o s₂ L
def FEn (s : State) (R : Room) (o : Outcome) (t : State) (L : List Loc) : Prop := FrameEnd s o t L R.cells R.slots
def FEw (s : State) (R : Room) (o : Outcome) (t : State) (L : List Loc) : Prop := ReturnedEndW s o t L R.cells R.slots
def Wk (p : Program) (l : Launch) (e : Env) (R : Room) (s : State) (m : MethodId) (args : Array Value) (below : List Frame) (meth : Method) (c : Code) (Q : Option Value → Heap → List Loc → Prop) (FE : Outcome → State → List Loc → Prop) (h : Heap) (locs : List Loc) (cells slots : Nat) (g : JFrame) : Prop :=
  ∀ T, Stand p l e R s m args below meth c T locs cells slots → T.heap = h → Ends p e FE below Q T g
def Cx (p : Program) (s : State) (m : MethodId) (meth : Method) (c : Code) (Z : State) (code : ByteArray) (maxL : Nat) (ret : Option FieldType) (own nm : String) (R : Room) (FE : Outcome → State → List Loc → Prop) (k0 : Nat) : Prop :=
  p.tables.exec = Jvm.exec ∧ c.code = code ∧ c.maxLocals = maxL ∧ meth.sig.returnType = ret ∧ s.vm.findClass own = some m.cls ∧ Z.Warmed39 s.vm ∧ meth.name = nm ∧ meth.locks = false ∧ ∀ o t L, k0 ≤ t.heap.size → FrameEnd s o t L R.cells R.slots → FE o t L
/-- a body's contract: on these arguments, over this heap -/
def Met0 (l : Launch) (Z : State) (y : MethodName) (ws : List Jvm.Cond) (code : ByteArray) (maxL : Nat) (ret : Option FieldType) (rm : Room) (as' : Array Value) (h0 : Heap) (Q : Option Value → Heap → List Loc → Prop) : Prop :=
  MetFree l y (head1 (Jvm.Cond.code y code maxL ret :: ws) rm) (fun a U => a = as' ∧ Z.Warmed39 U.vm ∧ U.heap = h0) (fun _ _ _ _ _ => True) (fun _ U o U' => ∃ v L, o = .returned v ∧ Q v U'.heap L ∧ FrameEnd U o U' L rm.cells rm.slots)
theorem Met0.of_walk {l : Launch} {Z : State} {y : MethodName} {ws : List Jvm.Cond} {code : ByteArray} {maxL : Nat} {ret : Option FieldType} {rm : Room} {as' : Array Value} {h0 : Heap} {Q : Option Value → Heap → List Loc → Prop} (hpl : plainFor y = true) {Ls : Array Slot} (hef : ∀ m, entryFrame m as' maxL = mkF m 0 Ls [])
    (hb : ∀ p e s m below meth c, Cx p s m meth c Z code maxL ret y.cls y.name rm (FEn s rm) 0 → Wk p l e rm s m as' below meth c Q (FEn s rm) h0 [] 0 0 (mkF m 0 Ls [])) : Met0 l Z y ws code maxL ret rm as' h0 Q := by
  refine MetFree.of_bodySF hpl hisR ?_
  intro p e s m args below meth c s₁ Bd hml0 hP hK
  obtain ⟨rfl, hZ, hh⟩ := hP
  have X0 : Stand p l e rm s m args below meth c s₁ [] 0 0 := Stand.of_body Bd
  have e0 : s₁.heap = h0 := by rw [← hh, Bd.state]; rfl
  have C : Cx p s m meth c Z code maxL ret y.cls y.name rm (FEn s rm) 0 := ⟨Bd.exec, Bd.bytes, hml0, Bd.returns, findClass_of_methodNamed Bd.named, hZ, (name_of_methodNamed Bd.named Bd.method).1, BodyLoose.notSynchronized Bd, fun _ _ _ _ q => q⟩
  obtain ⟨s₂, o, st, r⟩ := hb p e s m below meth c C s₁ X0 e0
  exact ⟨s₂, o, castTop (hef m) st, r⟩
/-- .. of a body that may intern literals -/
def MetS (l : Launch) (Z : State) (y : MethodName) (ws : List Jvm.Cond) (code : ByteArray) (maxL : Nat) (ret : Option FieldType) (rm : Room) (as' : Array Value) (h0 : Heap) (Q : Option Value → Heap → List Loc → Prop) : Prop :=
  MetFree l y (head1 (Jvm.Cond.code y code maxL ret :: ws) rm) (fun a U => a = as' ∧ Z.Warmed39 U.vm ∧ U.heap = h0) (fun _ _ _ _ _ => True) (fun _ U o U' => ∃ v L, o = .returned v ∧ Q v U'.heap L ∧ ReturnedEndW U o U' L rm.cells rm.slots)
theorem MetS.of_walk {l : Launch} {Z : State} {y : MethodName} {ws : List Jvm.Cond} {code : ByteArray} {maxL : Nat} {ret : Option FieldType} {rm : Room} {as' : Array Value} {h0 : Heap} {Q : Option Value → Heap → List Loc → Prop} (hpl : plainFor y = true) {Ls : Array Slot} (hef : ∀ m, entryFrame m as' maxL = mkF m 0 Ls [])
    (hb : ∀ p e s vm0 m below meth c, Cx p (s.setVm vm0) m meth c Z code maxL ret y.cls y.name rm (FEw s rm) 0 → s.Since vm0 0 → Wk p l e rm (s.setVm vm0) m as' below meth c Q (FEw s rm) h0 [] 0 0 (mkF m 0 Ls [])) : MetS l Z y ws code maxL ret rm as' h0 Q := by
  refine MetFree.of_bodySF hpl hisR ?_
  intro p e s m args below meth c s₁ Bd hml0 hP hK
  obtain ⟨rfl, hZ, hh⟩ := hP
  have X0 : Stand p l e rm (s.setVm s.vm) m args below meth c s₁ [] 0 0 := Stand.of_body Bd
  have e0 : s₁.heap = h0 := by rw [← hh, Bd.state]; rfl
  have C : Cx p (s.setVm s.vm) m meth c Z code maxL ret y.cls y.name rm (FEw s rm) 0 := ⟨Bd.exec, Bd.bytes, hml0, Bd.returns, findClass_of_methodNamed Bd.named, hZ, (name_of_methodNamed Bd.named Bd.method).1, BodyLoose.notSynchronized Bd, fun _ _ _ _ q => RoadKit.wide (s := s) q⟩
  obtain ⟨s₂, o, st, r⟩ := hb p e s s.vm m below meth c C ((State.WarmedH.refl s).since 0) s₁ X0 e0
  exact ⟨s₂, o, castTop (hef m) st, r⟩
theorem fe_since {s : State} {vm1 : Vm} {k1 : Nat} {R : Room} (hS : s.Since vm1 k1) : ∀ o t L, k1 ≤ t.heap.size → FrameEnd (s.setVm vm1) o t L R.cells R.slots → FEw s R o t L := fun o t L hk q => by
  obtain ⟨a, b, c⟩ := hS.ended (U := t) q.2.1 hk q.2.2
  exact ⟨q.1, a, b, c⟩
section Steps
variable {p : Program} {l : Launch} {e : Env} {R : Room} {s : State} {m : MethodId} {args : Array Value} {below : List Frame} {meth : Method} {c : Code} {Q : Option Value → Heap → List Loc → Prop} {h : Heap} {locs : List Loc} {cells slots : Nat} {Z : State} {code : ByteArray} {maxL : Nat} {ret : Option FieldType} {own nm : String} {FE : Outcome → State → List Loc → Prop} {k0 : Nat} {a0 : Array Value}
variable {pc pc' : Nat} {Ls : Array Slot} {st rest : List Value}
theorem Wk.step {g g' : JFrame} (hs : ∀ T target, Stand p l e R s m args below meth c T locs cells slots → T.heap = h → Steps p.tables e below (T.setTop g') target → Steps p.tables e below (T.setTop g) target) (hr : Wk p l e R s m args below meth c Q FE h locs cells slots g') : Wk p l e R s m args below meth c Q FE h locs cells slots g := fun T X eT => by
  obtain ⟨s₂, o, st, r⟩ := hr T X eT
  exact ⟨s₂, o, hs T s₂ X eT st, r⟩
theorem Wk.law {g g' : JFrame} (hs : ∀ T, Stand p l e R s m args below meth c T locs cells slots → T.heap = h → ∃ T', Stand p l e R s m args below meth c T' locs cells slots ∧ T'.heap = h ∧ ∀ target, Steps p.tables e below (T'.setTop g') target → Steps p.tables e below (T.setTop g) target) (hr : Wk p l e R s m args below meth c Q FE h locs cells slots g') : Wk p l e R s m args below meth c Q FE h locs cells slots g := fun T X eT => by
  obtain ⟨T', X', e', q⟩ := hs T X eT
  obtain ⟨s₂, o, st, r⟩ := hr T' X' e'
  exact ⟨s₂, o, q s₂ st, r⟩
theorem iloadN (C : Cx p s m meth c Z code maxL ret own nm R FE k0) {k : Fin 4} {v : Int32} (hd : decode code pc = .ok (.iload_n k, 1)) (hp : pc + 1 = pc') (hl : Ls[k.val]? = some (.val (.int v)))
    (hr : Wk p l e R s m args below meth c Q FE h locs cells slots (mkF m pc' Ls (.int v :: st))) : Wk p l e R s m args below meth c Q FE h locs cells slots (mkF m pc Ls st) := by
  subst hp
  exact Wk.step (fun T t X eT q => XS.iloadN X.here C.1 rfl (hb C.2.1 hd) hl q) hr
theorem lloadN (C : Cx p s m meth c Z code maxL ret own nm R FE k0) {k : Fin 4} {v : Int64} (hd : decode code pc = .ok (.lload_n k, 1)) (hp : pc + 1 = pc') (hl : Ls[k.val]? = some (.val (.long v)))
    (hr : Wk p l e R s m args below meth c Q FE h locs cells slots (mkF m pc' Ls (.long v :: st))) : Wk p l e R s m args below meth c Q FE h locs cells slots (mkF m pc Ls st) := by
  subst hp
  exact Wk.step (fun T t X eT q => XS.lloadN X.here C.1 rfl (hb C.2.1 hd) hl q) hr
theorem aloadN (C : Cx p s m meth c Z code maxL ret own nm R FE k0) {k : Fin 4} {v : Value} (hd : decode code pc = .ok (.aload_n k, 1)) (hp : pc + 1 = pc') (hl : Ls[k.val]? = some (.val v)) (hv : v.isRef = true)
    (hr : Wk p l e R s m args below meth c Q FE h locs cells slots (mkF m pc' Ls (v :: st))) : Wk p l e R s m args below meth c Q FE h locs cells slots (mkF m pc Ls st) := by
  subst hp
  exact Wk.step (fun T t X eT q => XS.aloadN X.here C.1 rfl (hb C.2.1 hd) hl hv q) hr
theorem istoreN (C : Cx p s m meth c Z code maxL ret own nm R FE k0) {k : Fin 4} {v : Int32} {Ls' : Array Slot} (hd : decode code pc = .ok (.istore_n k, 1)) (hp : pc + 1 = pc') (hl : storeLocals Ls k.val (.int v) = some Ls')
    (hr : Wk p l e R s m args below meth c Q FE h locs cells slots (mkF m pc' Ls' st)) : Wk p l e R s m args below meth c Q FE h locs cells slots (mkF m pc Ls (.int v :: st)) := by
  subst hp
  exact Wk.step (fun T t X eT q => XS.istoreN X.here C.1 rfl (hb C.2.1 hd) rfl hl q) hr
theorem lstoreN (C : Cx p s m meth c Z code maxL ret own nm R FE k0) {k : Fin 4} {v : Int64} {Ls' : Array Slot} (hd : decode code pc = .ok (.lstore_n k, 1)) (hp : pc + 1 = pc') (hl : storeLocals Ls k.val (.long v) = some Ls')
    (hr : Wk p l e R s m args below meth c Q FE h locs cells slots (mkF m pc' Ls' st)) : Wk p l e R s m args below meth c Q FE h locs cells slots (mkF m pc Ls (.long v :: st)) := by
  subst hp
  exact Wk.step (fun T t X eT q => XS.lstoreN X.here C.1 rfl (hb C.2.1 hd) rfl hl q) hr
theorem astoreN (C : Cx p s m meth c Z code maxL ret own nm R FE k0) {k : Fin 4} {v : Value} {Ls' : Array Slot} (hd : decode code pc = .ok (.astore_n k, 1)) (hp : pc + 1 = pc') (hv : v.isRef = true) (hl : storeLocals Ls k.val v = some Ls')
    (hr : Wk p l e R s m args below meth c Q FE h locs cells slots (mkF m pc' Ls' st)) : Wk p l e R s m args below meth c Q FE h locs cells slots (mkF m pc Ls (v :: st)) := by
  subst hp
  exact Wk.step (fun T t X eT q => XS.astoreN X.here C.1 rfl (hb C.2.1 hd) rfl hv hl q) hr
theorem iload (C : Cx p s m meth c Z code maxL ret own nm R FE k0) {k : Nat} {v : Int32} (hd : decode code pc = .ok (.iload k, 2)) (hp : pc + 2 = pc') (hl : Ls[k]? = some (.val (.int v)))
    (hr : Wk p l e R s m args below meth c Q FE h locs cells slots (mkF m pc' Ls (.int v :: st))) : Wk p l e R s m args below meth c Q FE h locs cells slots (mkF m pc Ls st) := by
  subst hp
  exact Wk.step (fun T t X eT q => XS.iload X.here C.1 rfl (hb C.2.1 hd) hl q) hr
theorem lload (C : Cx p s m meth c Z code maxL ret own nm R FE k0) {k : Nat} {v : Int64} (hd : decode code pc = .ok (.lload k, 2)) (hp : pc + 2 = pc') (hl : Ls[k]? = some (.val (.long v)))
    (hr : Wk p l e R s m args below meth c Q FE h locs cells slots (mkF m pc' Ls (.long v :: st))) : Wk p l e R s m args below meth c Q FE h locs cells slots (mkF m pc Ls st) := by
  subst hp
  exact Wk.step (fun T t X eT q => XS.lload X.here C.1 rfl (hb C.2.1 hd) hl q) hr
theorem aload (C : Cx p s m meth c Z code maxL ret own nm R FE k0) {k : Nat} {v : Value} (hd : decode code pc = .ok (.aload k, 2)) (hp : pc + 2 = pc') (hl : Ls[k]? = some (.val v)) (hv : v.isRef = true)
    (hr : Wk p l e R s m args below meth c Q FE h locs cells slots (mkF m pc' Ls (v :: st))) : Wk p l e R s m args below meth c Q FE h locs cells slots (mkF m pc Ls st) := by
  subst hp
  exact Wk.step (fun T t X eT q => XS.aload X.here C.1 rfl (hb C.2.1 hd) hl hv q) hr
theorem istore (C : Cx p s m meth c Z code maxL ret own nm R FE k0) {k : Nat} {v : Int32} {Ls' : Array Slot} (hd : decode code pc = .ok (.istore k, 2)) (hp : pc + 2 = pc') (hl : storeLocals Ls k (.int v) = some Ls')
    (hr : Wk p l e R s m args below meth c Q FE h locs cells slots (mkF m pc' Ls' st)) : Wk p l e R s m args below meth c Q FE h locs cells slots (mkF m pc Ls (.int v :: st)) := by
  subst hp
  exact Wk.step (fun T t X eT q => XS.istore X.here C.1 rfl (hb C.2.1 hd) rfl hl q) hr
theorem lstore (C : Cx p s m meth c Z code maxL ret own nm R FE k0) {k : Nat} {v : Int64} {Ls' : Array Slot} (hd : decode code pc = .ok (.lstore k, 2)) (hp : pc + 2 = pc') (hl : storeLocals Ls k (.long v) = some Ls')
    (hr : Wk p l e R s m args below meth c Q FE h locs cells slots (mkF m pc' Ls' st)) : Wk p l e R s m args below meth c Q FE h locs cells slots (mkF m pc Ls (.long v :: st)) := by
  subst hp
  exact Wk.step (fun T t X eT q => XS.lstore X.here C.1 rfl (hb C.2.1 hd) rfl hl q) hr
theorem astore (C : Cx p s m meth c Z code maxL ret own nm R FE k0) {k : Nat} {v : Value} {Ls' : Array Slot} (hd : decode code pc = .ok (.astore k, 2)) (hp : pc + 2 = pc') (hv : v.isRef = true) (hl : storeLocals Ls k v = some Ls')
    (hr : Wk p l e R s m args below meth c Q FE h locs cells slots (mkF m pc' Ls' st)) : Wk p l e R s m args below meth c Q FE h locs cells slots (mkF m pc Ls (v :: st)) := by
  subst hp
  exact Wk.step (fun T t X eT q => XS.astore X.here C.1 rfl (hb C.2.1 hd) rfl hv hl q) hr
theorem iconst (C : Cx p s m meth c Z code maxL ret own nm R FE k0) {i : Int} {v : Int32} (hd : decode code pc = .ok (.iconst i, 1)) (hp : pc + 1 = pc') (hv : Int32.ofInt i = v)
    (hr : Wk p l e R s m args below meth c Q FE h locs cells slots (mkF m pc' Ls (.int v :: st))) : Wk p l e R s m args below meth c Q FE h locs cells slots (mkF m pc Ls st) := by
  subst hp
  subst hv
  exact Wk.step (fun T t X eT q => XS.iconst X.here C.1 rfl (hb C.2.1 hd) q) hr
theorem bipush (C : Cx p s m meth c Z code maxL ret own nm R FE k0) {i : Int} {v : Int32} (hd : decode code pc = .ok (.bipush i, 2)) (hp : pc + 2 = pc') (hv : (Int8.ofInt i).toInt32 = v)
    (hr : Wk p l e R s m args below meth c Q FE h locs cells slots (mkF m pc' Ls (.int v :: st))) : Wk p l e R s m args below meth c Q FE h locs cells slots (mkF m pc Ls st) := by
  subst hp
  subst hv
  exact Wk.step (fun T t X eT q => XS.bipush X.here C.1 rfl (hb C.2.1 hd) q) hr
theorem sipush (C : Cx p s m meth c Z code maxL ret own nm R FE k0) {i : Int} {v : Int32} (hd : decode code pc = .ok (.sipush i, 3)) (hp : pc + 3 = pc') (hv : (Int16.ofInt i).toInt32 = v)
    (hr : Wk p l e R s m args below meth c Q FE h locs cells slots (mkF m pc' Ls (.int v :: st))) : Wk p l e R s m args below meth c Q FE h locs cells slots (mkF m pc Ls st) := by
  subst hp
  subst hv
  exact Wk.step (fun T t X eT q => XS.sipush X.here C.1 rfl (hb C.2.1 hd) q) hr
theorem lconst (C : Cx p s m meth c Z code maxL ret own nm R FE k0) {k : Fin 2} {v : Int64} (hd : decode code pc = .ok (.lconst k, 1)) (hp : pc + 1 = pc') (hv : Int64.ofNat k = v)
    (hr : Wk p l e R s m args below meth c Q FE h locs cells slots (mkF m pc' Ls (.long v :: st))) : Wk p l e R s m args below meth c Q FE h locs cells slots (mkF m pc Ls st) := by
  subst hp
  subst hv
  exact Wk.step (fun T t X eT q => XS.lconst X.here C.1 rfl (hb C.2.1 hd) q) hr
theorem aconstNull (C : Cx p s m meth c Z code maxL ret own nm R FE k0)  (hd : decode code pc = .ok (.aconst_null, 1)) (hp : pc + 1 = pc') 
    (hr : Wk p l e R s m args below meth c Q FE h locs cells slots (mkF m pc' Ls (.null :: st))) : Wk p l e R s m args below meth c Q FE h locs cells slots (mkF m pc Ls st) := by
  subst hp
  exact Wk.step (fun T t X eT q => XS.aconstNull X.here C.1 rfl (hb C.2.1 hd) q) hr
theorem iadd (C : Cx p s m meth c Z code maxL ret own nm R FE k0) {x y : Int32} (hd : decode code pc = .ok (.iadd, 1)) (hp : pc + 1 = pc') 
    (hr : Wk p l e R s m args below meth c Q FE h locs cells slots (mkF m pc' Ls (.int (x + y) :: st))) : Wk p l e R s m args below meth c Q FE h locs cells slots (mkF m pc Ls (.int y :: .int x :: st)) := by
  subst hp
  exact Wk.step (fun T t X eT q => XS.iadd X.here C.1 rfl (hb C.2.1 hd) rfl q) hr
theorem isub (C : Cx p s m meth c Z code maxL ret own nm R FE k0) {x y : Int32} (hd : decode code pc = .ok (.isub, 1)) (hp : pc + 1 = pc') 
    (hr : Wk p l e R s m args below meth c Q FE h locs cells slots (mkF m pc' Ls (.int (x - y) :: st))) : Wk p l e R s m args below meth c Q FE h locs cells slots (mkF m pc Ls (.int y :: .int x :: st)) := by
  subst hp
  exact Wk.step (fun T t X eT q => XS.isub X.here C.1 rfl (hb C.2.1 hd) rfl q) hr
theorem imul (C : Cx p s m meth c Z code maxL ret own nm R FE k0) {x y : Int32} (hd : decode code pc = .ok (.imul, 1)) (hp : pc + 1 = pc') 
    (hr : Wk p l e R s m args below meth c Q FE h locs cells slots (mkF m pc' Ls (.int (x * y) :: st))) : Wk p l e R s m args below meth c Q FE h locs cells slots (mkF m pc Ls (.int y :: .int x :: st)) := by
  subst hp
  exact Wk.step (fun T t X eT q => XS.imul X.here C.1 rfl (hb C.2.1 hd) rfl q) hr
theorem iand (C : Cx p s m meth c Z code maxL ret own nm R FE k0) {x y : Int32} (hd : decode code pc = .ok (.iand, 1)) (hp : pc + 1 = pc') 
    (hr : Wk p l e R s m args below meth c Q FE h locs cells slots (mkF m pc' Ls (.int (x &&& y) :: st))) : Wk p l e R s m args below meth c Q FE h locs cells slots (mkF m pc Ls (.int y :: .int x :: st)) := by
  subst hp
  exact Wk.step (fun T t X eT q => XS.iand X.here C.1 rfl (hb C.2.1 hd) rfl q) hr
theorem ladd (C : Cx p s m meth c Z code maxL ret own nm R FE k0) {x y : Int64} (hd : decode code pc = .ok (.ladd, 1)) (hp : pc + 1 = pc') 
    (hr : Wk p l e R s m args below meth c Q FE h locs cells slots (mkF m pc' Ls (.long (x + y) :: st))) : Wk p l e R s m args below meth c Q FE h locs cells slots (mkF m pc Ls (.long y :: .long x :: st)) := by
  subst hp
  exact Wk.step (fun T t X eT q => XS.ladd X.here C.1 rfl (hb C.2.1 hd) rfl q) hr
theorem lsub (C : Cx p s m meth c Z code maxL ret own nm R FE k0) {x y : Int64} (hd : decode code pc = .ok (.lsub, 1)) (hp : pc + 1 = pc') 
    (hr : Wk p l e R s m args below meth c Q FE h locs cells slots (mkF m pc' Ls (.long (x - y) :: st))) : Wk p l e R s m args below meth c Q FE h locs cells slots (mkF m pc Ls (.long y :: .long x :: st)) := by
  subst hp
  exact Wk.step (fun T t X eT q => XS.lsub X.here C.1 rfl (hb C.2.1 hd) rfl q) hr
theorem lmul (C : Cx p s m meth c Z code maxL ret own nm R FE k0) {x y : Int64} (hd : decode code pc = .ok (.lmul, 1)) (hp : pc + 1 = pc') 
    (hr : Wk p l e R s m args below meth c Q FE h locs cells slots (mkF m pc' Ls (.long (x * y) :: st))) : Wk p l e R s m args below meth c Q FE h locs cells slots (mkF m pc Ls (.long y :: .long x :: st)) := by
  subst hp
  exact Wk.step (fun T t X eT q => XS.lmul X.here C.1 rfl (hb C.2.1 hd) rfl q) hr
theorem land (C : Cx p s m meth c Z code maxL ret own nm R FE k0) {x y : Int64} (hd : decode code pc = .ok (.land, 1)) (hp : pc + 1 = pc') 
    (hr : Wk p l e R s m args below meth c Q FE h locs cells slots (mkF m pc' Ls (.long (x &&& y) :: st))) : Wk p l e R s m args below meth c Q FE h locs cells slots (mkF m pc Ls (.long y :: .long x :: st)) := by
  subst hp
  exact Wk.step (fun T t X eT q => XS.land X.here C.1 rfl (hb C.2.1 hd) rfl q) hr
theorem idiv (C : Cx p s m meth c Z code maxL ret own nm R FE k0) {x y : Int32} (hd : decode code pc = .ok (.idiv, 1)) (hp : pc + 1 = pc') (hy : y ≠ 0)
    (hr : Wk p l e R s m args below meth c Q FE h locs cells slots (mkF m pc' Ls (.int (x / y) :: st))) : Wk p l e R s m args below meth c Q FE h locs cells slots (mkF m pc Ls (.int y :: .int x :: st)) := by
  subst hp
  exact Wk.step (fun T t X eT q => XS.idiv X.here C.1 rfl (hb C.2.1 hd) rfl hy q) hr
theorem ldiv (C : Cx p s m meth c Z code maxL ret own nm R FE k0) {x y : Int64} (hd : decode code pc = .ok (.ldiv, 1)) (hp : pc + 1 = pc') (hy : y ≠ 0)
    (hr : Wk p l e R s m args below meth c Q FE h locs cells slots (mkF m pc' Ls (.long (x / y) :: st))) : Wk p l e R s m args below meth c Q FE h locs cells slots (mkF m pc Ls (.long y :: .long x :: st)) := by
  subst hp
  exact Wk.step (fun T t X eT q => XS.ldiv X.here C.1 rfl (hb C.2.1 hd) rfl hy q) hr
theorem irem (C : Cx p s m meth c Z code maxL ret own nm R FE k0) {x y : Int32} (hd : decode code pc = .ok (.irem, 1)) (hp : pc + 1 = pc') (hy : y ≠ 0)
    (hr : Wk p l e R s m args below meth c Q FE h locs cells slots (mkF m pc' Ls (.int (x % y) :: st))) : Wk p l e R s m args below meth c Q FE h locs cells slots (mkF m pc Ls (.int y :: .int x :: st)) := by
  subst hp
  exact Wk.step (fun T t X eT q => iremM (g := mkF m pc Ls (.int y :: .int x :: st)) X C.1 rfl (hb C.2.1 hd) rfl hy q) hr
theorem iushr (C : Cx p s m meth c Z code maxL ret own nm R FE k0) {x y : Int32} (hd : decode code pc = .ok (.iushr, 1)) (hp : pc + 1 = pc') 
    (hr : Wk p l e R s m args below meth c Q FE h locs cells slots (mkF m pc' Ls (.int ((x.toUInt32 >>> (y &&& 31).toUInt32).toInt32) :: st))) : Wk p l e R s m args below meth c Q FE h locs cells slots (mkF m pc Ls (.int y :: .int x :: st)) := by
  subst hp
  exact Wk.step (fun T t X eT q => XS.iushr X.here C.1 rfl (hb C.2.1 hd) rfl q) hr
theorem ineg (C : Cx p s m meth c Z code maxL ret own nm R FE k0) {x : Int32} (hd : decode code pc = .ok (.ineg, 1)) (hp : pc + 1 = pc') 
    (hr : Wk p l e R s m args below meth c Q FE h locs cells slots (mkF m pc' Ls (.int (-x) :: st))) : Wk p l e R s m args below meth c Q FE h locs cells slots (mkF m pc Ls (.int x :: st)) := by
  subst hp
  exact Wk.step (fun T t X eT q => XS.ineg X.here C.1 rfl (hb C.2.1 hd) rfl q) hr
theorem i2l (C : Cx p s m meth c Z code maxL ret own nm R FE k0) {x : Int32} (hd : decode code pc = .ok (.i2l, 1)) (hp : pc + 1 = pc') 
    (hr : Wk p l e R s m args below meth c Q FE h locs cells slots (mkF m pc' Ls (.long x.toInt64 :: st))) : Wk p l e R s m args below meth c Q FE h locs cells slots (mkF m pc Ls (.int x :: st)) := by
  subst hp
  exact Wk.step (fun T t X eT q => XS.i2l X.here C.1 rfl (hb C.2.1 hd) rfl q) hr
theorem l2i (C : Cx p s m meth c Z code maxL ret own nm R FE k0) {x : Int64} (hd : decode code pc = .ok (.l2i, 1)) (hp : pc + 1 = pc') 
    (hr : Wk p l e R s m args below meth c Q FE h locs cells slots (mkF m pc' Ls (.int x.toInt32 :: st))) : Wk p l e R s m args below meth c Q FE h locs cells slots (mkF m pc Ls (.long x :: st)) := by
  subst hp
  exact Wk.step (fun T t X eT q => XS.l2i X.here C.1 rfl (hb C.2.1 hd) rfl q) hr
theorem lcmp (C : Cx p s m meth c Z code maxL ret own nm R FE k0) {x y : Int64} (hd : decode code pc = .ok (.lcmp, 1)) (hp : pc + 1 = pc') 
    (hr : Wk p l e R s m args below meth c Q FE h locs cells slots (mkF m pc' Ls (.int (if y < x then 1 else if x = y then 0 else -1) :: st))) : Wk p l e R s m args below meth c Q FE h locs cells slots (mkF m pc Ls (.long y :: .long x :: st)) := by
  subst hp
  exact Wk.step (fun T t X eT q => XS.lcmp X.here C.1 rfl (hb C.2.1 hd) rfl q) hr
theorem dup (C : Cx p s m meth c Z code maxL ret own nm R FE k0) {v : Value} (hd : decode code pc = .ok (.dup, 1)) (hp : pc + 1 = pc') (hv : v.category = 1)
    (hr : Wk p l e R s m args below meth c Q FE h locs cells slots (mkF m pc' Ls (v :: v :: st))) : Wk p l e R s m args below meth c Q FE h locs cells slots (mkF m pc Ls (v :: st)) := by
  subst hp
  exact Wk.step (fun T t X eT q => XS.dup X.here C.1 rfl (hb C.2.1 hd) rfl hv q) hr
theorem pop_ (C : Cx p s m meth c Z code maxL ret own nm R FE k0) {v : Value} (hd : decode code pc = .ok (.pop, 1)) (hp : pc + 1 = pc') (hv : v.category = 1)
    (hr : Wk p l e R s m args below meth c Q FE h locs cells slots (mkF m pc' Ls st)) : Wk p l e R s m args below meth c Q FE h locs cells slots (mkF m pc Ls (v :: st)) := by
  subst hp
  exact Wk.step (fun T t X eT q => XS.pop X.here C.1 rfl (hb C.2.1 hd) rfl hv q) hr
theorem iinc (C : Cx p s m meth c Z code maxL ret own nm R FE k0) {k : Nat} {d : Int} {v : Int32} {Ls' : Array Slot} (hd : decode code pc = .ok (.iinc k d, 3)) (hp : pc + 3 = pc') (hv : Ls[k]? = some (.val (.int v))) (hl : storeLocals Ls k (.int (v + Int32.ofInt d)) = some Ls')
    (hr : Wk p l e R s m args below meth c Q FE h locs cells slots (mkF m pc' Ls' st)) : Wk p l e R s m args below meth c Q FE h locs cells slots (mkF m pc Ls st) := by
  subst hp
  exact Wk.step (fun T t X eT q => XS.iinc X.here C.1 rfl (hb C.2.1 hd) hv hl q) hr
theorem goto_ (C : Cx p s m meth c Z code maxL ret own nm R FE k0) {o : Int} (hd : decode code pc = .ok (.goto o, 3)) (ho : 0 ≤ (pc : Int) + o) (hp : ((pc : Int) + o).toNat = pc')
    (hr : Wk p l e R s m args below meth c Q FE h locs cells slots (mkF m pc' Ls st)) : Wk p l e R s m args below meth c Q FE h locs cells slots (mkF m pc Ls st) :=
  Wk.step (fun T t X eT q => XS.goto X.here C.1 rfl rfl (hb C.2.1 hd) ho hp q) hr
theorem icmp_eq (C : Cx p s m meth c Z code maxL ret own nm R FE k0) {x y : Int32} {o : Int} (pcT pcF : Nat) (hd : decode code pc = .ok (.if_icmp .eq o, 3)) (ho : 0 ≤ (pc : Int) + o) (hT : ((pc : Int) + o).toNat = pcT) (hF : pc + 3 = pcF)
    (ht : x = y → Wk p l e R s m args below meth c Q FE h locs cells slots (mkF m pcT Ls st)) (hf : ¬ x = y → Wk p l e R s m args below meth c Q FE h locs cells slots (mkF m pcF Ls st)) : Wk p l e R s m args below meth c Q FE h locs cells slots (mkF m pc Ls (.int y :: .int x :: st)) := by
  by_cases q : x = y
  · have k := (teq q).1
    exact Wk.step (fun T t X eT r => XS.icmpYes X.here C.1 rfl rfl (hb C.2.1 hd) rfl k ho hT r) (ht q)
  · have k := (feq q).1
    exact Wk.step (fun T t X eT r => XS.icmpNo X.here C.1 rfl (hb C.2.1 hd) rfl k (by subst hF; exact r)) (hf q)
theorem if_eq (C : Cx p s m meth c Z code maxL ret own nm R FE k0) {x : Int32} {o : Int} (pcT pcF : Nat) (hd : decode code pc = .ok (.ifCond .eq o, 3)) (ho : 0 ≤ (pc : Int) + o) (hT : ((pc : Int) + o).toNat = pcT) (hF : pc + 3 = pcF)
    (ht : x = 0 → Wk p l e R s m args below meth c Q FE h locs cells slots (mkF m pcT Ls st)) (hf : ¬ x = 0 → Wk p l e R s m args below meth c Q FE h locs cells slots (mkF m pcF Ls st)) : Wk p l e R s m args below meth c Q FE h locs cells slots (mkF m pc Ls (.int x :: st)) := by
  by_cases q : x = 0
  · have k := (if0 _ _).trans (teq q).1
    exact Wk.step (fun T t X eT r => XS.ifYes X.here C.1 rfl rfl (hb C.2.1 hd) rfl k ho hT r) (ht q)
  · have k := (if0 _ _).trans (feq q).1
    exact Wk.step (fun T t X eT r => XS.ifNo X.here C.1 rfl (hb C.2.1 hd) rfl k (by subst hF; exact r)) (hf q)
theorem icmp_ne (C : Cx p s m meth c Z code maxL ret own nm R FE k0) {x y : Int32} {o : Int} (pcT pcF : Nat) (hd : decode code pc = .ok (.if_icmp .ne o, 3)) (ho : 0 ≤ (pc : Int) + o) (hT : ((pc : Int) + o).toNat = pcT) (hF : pc + 3 = pcF)
    (ht : ¬ x = y → Wk p l e R s m args below meth c Q FE h locs cells slots (mkF m pcT Ls st)) (hf : x = y → Wk p l e R s m args below meth c Q FE h locs cells slots (mkF m pcF Ls st)) : Wk p l e R s m args below meth c Q FE h locs cells slots (mkF m pc Ls (.int y :: .int x :: st)) := by
  by_cases q : x = y
  · have k := (teq q).2
    exact Wk.step (fun T t X eT r => XS.icmpNo X.here C.1 rfl (hb C.2.1 hd) rfl k (by subst hF; exact r)) (hf q)
  · have k := (feq q).2
    exact Wk.step (fun T t X eT r => XS.icmpYes X.here C.1 rfl rfl (hb C.2.1 hd) rfl k ho hT r) (ht q)
theorem if_ne (C : Cx p s m meth c Z code maxL ret own nm R FE k0) {x : Int32} {o : Int} (pcT pcF : Nat) (hd : decode code pc = .ok (.ifCond .ne o, 3)) (ho : 0 ≤ (pc : Int) + o) (hT : ((pc : Int) + o).toNat = pcT) (hF : pc + 3 = pcF)
    (ht : ¬ x = 0 → Wk p l e R s m args below meth c Q FE h locs cells slots (mkF m pcT Ls st)) (hf : x = 0 → Wk p l e R s m args below meth c Q FE h locs cells slots (mkF m pcF Ls st)) : Wk p l e R s m args below meth c Q FE h locs cells slots (mkF m pc Ls (.int x :: st)) := by
  by_cases q : x = 0
  · have k := (if0 _ _).trans (teq q).2
    exact Wk.step (fun T t X eT r => XS.ifNo X.here C.1 rfl (hb C.2.1 hd) rfl k (by subst hF; exact r)) (hf q)
  · have k := (if0 _ _).trans (feq q).2
    exact Wk.step (fun T t X eT r => XS.ifYes X.here C.1 rfl rfl (hb C.2.1 hd) rfl k ho hT r) (ht q)
theorem icmp_lt (C : Cx p s m meth c Z code maxL ret own nm R FE k0) {x y : Int32} {o : Int} (pcT pcF : Nat) (hd : decode code pc = .ok (.if_icmp .lt o, 3)) (ho : 0 ≤ (pc : Int) + o) (hT : ((pc : Int) + o).toNat = pcT) (hF : pc + 3 = pcF)
    (ht : x < y → Wk p l e R s m args below meth c Q FE h locs cells slots (mkF m pcT Ls st)) (hf : ¬ x < y → Wk p l e R s m args below meth c Q FE h locs cells slots (mkF m pcF Ls st)) : Wk p l e R s m args below meth c Q FE h locs cells slots (mkF m pc Ls (.int y :: .int x :: st)) := by
  by_cases q : x < y
  · have k := (tlt q).1
    exact Wk.step (fun T t X eT r => XS.icmpYes X.here C.1 rfl rfl (hb C.2.1 hd) rfl k ho hT r) (ht q)
  · have k := (flt q).1
    exact Wk.step (fun T t X eT r => XS.icmpNo X.here C.1 rfl (hb C.2.1 hd) rfl k (by subst hF; exact r)) (hf q)
theorem if_lt (C : Cx p s m meth c Z code maxL ret own nm R FE k0) {x : Int32} {o : Int} (pcT pcF : Nat) (hd : decode code pc = .ok (.ifCond .lt o, 3)) (ho : 0 ≤ (pc : Int) + o) (hT : ((pc : Int) + o).toNat = pcT) (hF : pc + 3 = pcF)
    (ht : x < 0 → Wk p l e R s m args below meth c Q FE h locs cells slots (mkF m pcT Ls st)) (hf : ¬ x < 0 → Wk p l e R s m args below meth c Q FE h locs cells slots (mkF m pcF Ls st)) : Wk p l e R s m args below meth c Q FE h locs cells slots (mkF m pc Ls (.int x :: st)) := by
  by_cases q : x < 0
  · have k := (if0 _ _).trans (tlt q).1
    exact Wk.step (fun T t X eT r => XS.ifYes X.here C.1 rfl rfl (hb C.2.1 hd) rfl k ho hT r) (ht q)
  · have k := (if0 _ _).trans (flt q).1
    exact Wk.step (fun T t X eT r => XS.ifNo X.here C.1 rfl (hb C.2.1 hd) rfl k (by subst hF; exact r)) (hf q)
theorem icmp_ge (C : Cx p s m meth c Z code maxL ret own nm R FE k0) {x y : Int32} {o : Int} (pcT pcF : Nat) (hd : decode code pc = .ok (.if_icmp .ge o, 3)) (ho : 0 ≤ (pc : Int) + o) (hT : ((pc : Int) + o).toNat = pcT) (hF : pc + 3 = pcF)
    (ht : ¬ x < y → Wk p l e R s m args below meth c Q FE h locs cells slots (mkF m pcT Ls st)) (hf : x < y → Wk p l e R s m args below meth c Q FE h locs cells slots (mkF m pcF Ls st)) : Wk p l e R s m args below meth c Q FE h locs cells slots (mkF m pc Ls (.int y :: .int x :: st)) := by
  by_cases q : x < y
  · have k := (tlt q).2.1
    exact Wk.step (fun T t X eT r => XS.icmpNo X.here C.1 rfl (hb C.2.1 hd) rfl k (by subst hF; exact r)) (hf q)
  · have k := (flt q).2.1
    exact Wk.step (fun T t X eT r => XS.icmpYes X.here C.1 rfl rfl (hb C.2.1 hd) rfl k ho hT r) (ht q)
theorem if_ge (C : Cx p s m meth c Z code maxL ret own nm R FE k0) {x : Int32} {o : Int} (pcT pcF : Nat) (hd : decode code pc = .ok (.ifCond .ge o, 3)) (ho : 0 ≤ (pc : Int) + o) (hT : ((pc : Int) + o).toNat = pcT) (hF : pc + 3 = pcF)
    (ht : ¬ x < 0 → Wk p l e R s m args below meth c Q FE h locs cells slots (mkF m pcT Ls st)) (hf : x < 0 → Wk p l e R s m args below meth c Q FE h locs cells slots (mkF m pcF Ls st)) : Wk p l e R s m args below meth c Q FE h locs cells slots (mkF m pc Ls (.int x :: st)) := by
  by_cases q : x < 0
  · have k := (if0 _ _).trans (tlt q).2.1
    exact Wk.step (fun T t X eT r => XS.ifNo X.here C.1 rfl (hb C.2.1 hd) rfl k (by subst hF; exact r)) (hf q)
  · have k := (if0 _ _).trans (flt q).2.1
    exact Wk.step (fun T t X eT r => XS.ifYes X.here C.1 rfl rfl (hb C.2.1 hd) rfl k ho hT r) (ht q)
theorem icmp_gt (C : Cx p s m meth c Z code maxL ret own nm R FE k0) {x y : Int32} {o : Int} (pcT pcF : Nat) (hd : decode code pc = .ok (.if_icmp .gt o, 3)) (ho : 0 ≤ (pc : Int) + o) (hT : ((pc : Int) + o).toNat = pcT) (hF : pc + 3 = pcF)
    (ht : y < x → Wk p l e R s m args below meth c Q FE h locs cells slots (mkF m pcT Ls st)) (hf : ¬ y < x → Wk p l e R s m args below meth c Q FE h locs cells slots (mkF m pcF Ls st)) : Wk p l e R s m args below meth c Q FE h locs cells slots (mkF m pc Ls (.int y :: .int x :: st)) := by
  by_cases q : y < x
  · have k := (tlt q).2.2.1
    exact Wk.step (fun T t X eT r => XS.icmpYes X.here C.1 rfl rfl (hb C.2.1 hd) rfl k ho hT r) (ht q)
  · have k := (flt q).2.2.1
    exact Wk.step (fun T t X eT r => XS.icmpNo X.here C.1 rfl (hb C.2.1 hd) rfl k (by subst hF; exact r)) (hf q)
theorem if_gt (C : Cx p s m meth c Z code maxL ret own nm R FE k0) {x : Int32} {o : Int} (pcT pcF : Nat) (hd : decode code pc = .ok (.ifCond .gt o, 3)) (ho : 0 ≤ (pc : Int) + o) (hT : ((pc : Int) + o).toNat = pcT) (hF : pc + 3 = pcF)
    (ht : 0 < x → Wk p l e R s m args below meth c Q FE h locs cells slots (mkF m pcT Ls st)) (hf : ¬ 0 < x → Wk p l e R s m args below meth c Q FE h locs cells slots (mkF m pcF Ls st)) : Wk p l e R s m args below meth c Q FE h locs cells slots (mkF m pc Ls (.int x :: st)) := by
  by_cases q : 0 < x
  · have k := (if0 _ _).trans (tlt q).2.2.1
    exact Wk.step (fun T t X eT r => XS.ifYes X.here C.1 rfl rfl (hb C.2.1 hd) rfl k ho hT r) (ht q)
  · have k := (if0 _ _).trans (flt q).2.2.1
    exact Wk.step (fun T t X eT r => XS.ifNo X.here C.1 rfl (hb C.2.1 hd) rfl k (by subst hF; exact r)) (hf q)
theorem icmp_le (C : Cx p s m meth c Z code maxL ret own nm R FE k0) {x y : Int32} {o : Int} (pcT pcF : Nat) (hd : decode code pc = .ok (.if_icmp .le o, 3)) (ho : 0 ≤ (pc : Int) + o) (hT : ((pc : Int) + o).toNat = pcT) (hF : pc + 3 = pcF)
    (ht : ¬ y < x → Wk p l e R s m args below meth c Q FE h locs cells slots (mkF m pcT Ls st)) (hf : y < x → Wk p l e R s m args below meth c Q FE h locs cells slots (mkF m pcF Ls st)) : Wk p l e R s m args below meth c Q FE h locs cells slots (mkF m pc Ls (.int y :: .int x :: st)) := by
  by_cases q : y < x
  · have k := (tlt q).2.2.2
    exact Wk.step (fun T t X eT r => XS.icmpNo X.here C.1 rfl (hb C.2.1 hd) rfl k (by subst hF; exact r)) (hf q)
  · have k := (flt q).2.2.2
    exact Wk.step (fun T t X eT r => XS.icmpYes X.here C.1 rfl rfl (hb C.2.1 hd) rfl k ho hT r) (ht q)
theorem if_le (C : Cx p s m meth c Z code maxL ret own nm R FE k0) {x : Int32} {o : Int} (pcT pcF : Nat) (hd : decode code pc = .ok (.ifCond .le o, 3)) (ho : 0 ≤ (pc : Int) + o) (hT : ((pc : Int) + o).toNat = pcT) (hF : pc + 3 = pcF)
    (ht : ¬ 0 < x → Wk p l e R s m args below meth c Q FE h locs cells slots (mkF m pcT Ls st)) (hf : 0 < x → Wk p l e R s m args below meth c Q FE h locs cells slots (mkF m pcF Ls st)) : Wk p l e R s m args below meth c Q FE h locs cells slots (mkF m pc Ls (.int x :: st)) := by
  by_cases q : 0 < x
  · have k := (if0 _ _).trans (tlt q).2.2.2
    exact Wk.step (fun T t X eT r => XS.ifNo X.here C.1 rfl (hb C.2.1 hd) rfl k (by subst hF; exact r)) (hf q)
  · have k := (if0 _ _).trans (flt q).2.2.2
    exact Wk.step (fun T t X eT r => XS.ifYes X.here C.1 rfl rfl (hb C.2.1 hd) rfl k ho hT r) (ht q)
theorem acmp_eq (C : Cx p s m meth c Z code maxL ret own nm R FE k0) {a b : Addr} {o : Int} (pcT pcF : Nat) (hd : decode code pc = .ok (.if_acmp .eq o, 3)) (ho : 0 ≤ (pc : Int) + o) (hT : ((pc : Int) + o).toNat = pcT) (hF : pc + 3 = pcF)
    (ht : a = b → Wk p l e R s m args below meth c Q FE h locs cells slots (mkF m pcT Ls st)) (hf : ¬ a = b → Wk p l e R s m args below meth c Q FE h locs cells slots (mkF m pcF Ls st)) : Wk p l e R s m args below meth c Q FE h locs cells slots (mkF m pc Ls (.ref b :: .ref a :: st)) := by
  by_cases q : a = b
  · exact Wk.step (fun T t X eT r => RoadKit.acmp (g := mkF m pc Ls (.ref b :: .ref a :: st)) X C.1 rfl rfl rfl (same := true) rfl (hb C.2.1 hd) rfl (decide_eq_true (congrArg Value.ref q)) ho (by rw [← hT]; rfl) r) (ht q)
  · exact Wk.step (fun T t X eT r => RoadKit.acmp (g := mkF m pc Ls (.ref b :: .ref a :: st)) X C.1 rfl rfl rfl (same := false) rfl (hb C.2.1 hd) rfl (decide_eq_false fun u => q (Value.ref.inj u)) ho (by rw [← hF]; rfl) r) (hf q)
theorem acmp_ne (C : Cx p s m meth c Z code maxL ret own nm R FE k0) {a b : Addr} {o : Int} (pcT pcF : Nat) (hd : decode code pc = .ok (.if_acmp .ne o, 3)) (ho : 0 ≤ (pc : Int) + o) (hT : ((pc : Int) + o).toNat = pcT) (hF : pc + 3 = pcF)
    (ht : ¬ a = b → Wk p l e R s m args below meth c Q FE h locs cells slots (mkF m pcT Ls st)) (hf : a = b → Wk p l e R s m args below meth c Q FE h locs cells slots (mkF m pcF Ls st)) : Wk p l e R s m args below meth c Q FE h locs cells slots (mkF m pc Ls (.ref b :: .ref a :: st)) := by
  by_cases q : a = b
  · exact Wk.step (fun T t X eT r => RoadKit.acmp (g := mkF m pc Ls (.ref b :: .ref a :: st)) X C.1 rfl rfl rfl (same := true) rfl (hb C.2.1 hd) rfl (decide_eq_true (congrArg Value.ref q)) ho (by rw [← hF]; rfl) r) (hf q)
  · exact Wk.step (fun T t X eT r => RoadKit.acmp (g := mkF m pc Ls (.ref b :: .ref a :: st)) X C.1 rfl rfl rfl (same := false) rfl (hb C.2.1 hd) rfl (decide_eq_false fun u => q (Value.ref.inj u)) ho (by rw [← hT]; rfl) r) (ht q)
theorem ifnull_ref (C : Cx p s m meth c Z code maxL ret own nm R FE k0) {b : Addr} {o : Int} (hd : decode code pc = .ok (.ifnull o, 3)) (hp : pc + 3 = pc')
    (hr : Wk p l e R s m args below meth c Q FE h locs cells slots (mkF m pc' Ls st)) : Wk p l e R s m args below meth c Q FE h locs cells slots (mkF m pc Ls (.ref b :: st)) :=
  Wk.step (fun T t X eT q => XS.ifnullNo X.here C.1 rfl (hb C.2.1 hd) rfl (by subst hp; exact q)) hr
theorem ifnull_null (C : Cx p s m meth c Z code maxL ret own nm R FE k0) {o : Int} (hd : decode code pc = .ok (.ifnull o, 3)) (ho : 0 ≤ (pc : Int) + o) (hp : ((pc : Int) + o).toNat = pc')
    (hr : Wk p l e R s m args below meth c Q FE h locs cells slots (mkF m pc' Ls st)) : Wk p l e R s m args below meth c Q FE h locs cells slots (mkF m pc Ls (.null :: st)) :=
  Wk.step (fun T t X eT q => XS.ifnullYes X.here C.1 rfl rfl (hb C.2.1 hd) rfl ho hp q) hr
theorem ifnonnull_ref (C : Cx p s m meth c Z code maxL ret own nm R FE k0) {b : Addr} {o : Int} (hd : decode code pc = .ok (.ifnonnull o, 3)) (ho : 0 ≤ (pc : Int) + o) (hp : ((pc : Int) + o).toNat = pc')
    (hr : Wk p l e R s m args below meth c Q FE h locs cells slots (mkF m pc' Ls st)) : Wk p l e R s m args below meth c Q FE h locs cells slots (mkF m pc Ls (.ref b :: st)) :=
  Wk.step (fun T t X eT q => XS.ifnonnullYes X.here C.1 rfl rfl (hb C.2.1 hd) rfl ho hp q) hr
theorem ifnonnull_null (C : Cx p s m meth c Z code maxL ret own nm R FE k0) {o : Int} (hd : decode code pc = .ok (.ifnonnull o, 3)) (hp : pc + 3 = pc')
    (hr : Wk p l e R s m args below meth c Q FE h locs cells slots (mkF m pc' Ls st)) : Wk p l e R s m args below meth c Q FE h locs cells slots (mkF m pc Ls (.null :: st)) :=
  Wk.step (fun T t X eT q => XS.ifnonnullNo X.here C.1 rfl (hb C.2.1 hd) rfl (by subst hp; exact q)) hr
theorem tswIn (C : Cx p s m meth c Z code maxL ret own nm R FE k0) {i : Int32} {dflt low high o : Int} {offs : Array Int} {len : Nat} (hd : decode code pc = .ok (.tableswitch dflt low high offs, len)) (hin : ¬ (i.toInt < low ∨ i.toInt > high)) (hoff : offs[(i.toInt - low).toNat]? = some o) (ho : 0 ≤ (pc : Int) + o) (hp : ((pc : Int) + o).toNat = pc')
    (hr : Wk p l e R s m args below meth c Q FE h locs cells slots (mkF m pc' Ls st)) : Wk p l e R s m args below meth c Q FE h locs cells slots (mkF m pc Ls (.int i :: st)) :=
  Wk.step (fun T t X eT q => XS.tswIn X.here C.1 rfl rfl (hb C.2.1 hd) rfl hin hoff ho hp q) hr
theorem tswOut (C : Cx p s m meth c Z code maxL ret own nm R FE k0) {i : Int32} {dflt low high : Int} {offs : Array Int} {len : Nat} (hd : decode code pc = .ok (.tableswitch dflt low high offs, len)) (hout : i.toInt < low ∨ i.toInt > high) (ho : 0 ≤ (pc : Int) + dflt) (hp : ((pc : Int) + dflt).toNat = pc')
    (hr : Wk p l e R s m args below meth c Q FE h locs cells slots (mkF m pc' Ls st)) : Wk p l e R s m args below meth c Q FE h locs cells slots (mkF m pc Ls (.int i :: st)) :=
  Wk.step (fun T t X eT q => XS.tswOut X.here C.1 rfl rfl (hb C.2.1 hd) rfl hout ho hp q) hr
theorem ldcInt (C : Cx p s m meth c Z code maxL ret own nm R FE k0) {index : Nat} {v : Int32} (w : (Cond.constant own index v).before a0 Z = true) (hd : decode code pc = .ok (.ldc index, 2)) (hp : pc + 2 = pc')
    (hr : Wk p l e R s m args below meth c Q FE h locs cells slots (mkF m pc' Ls (.int v :: st))) : Wk p l e R s m args below meth c Q FE h locs cells slots (mkF m pc Ls st) := by
  subst hp
  exact Wk.step (fun T t X eT q => X.ldcInt C.1 C.2.2.2.2.1 (mvT C.2.2.2.2.2.1 w) (g := mkF m pc Ls st) rfl (hb C.2.1 hd) t q) hr
theorem ldc2Long (C : Cx p s m meth c Z code maxL ret own nm R FE k0) {index : Nat} {v : Int64} (w : (Cond.constantLong own index v).before a0 Z = true) (hd : decode code pc = .ok (.ldc2_w index, 3)) (hp : pc + 3 = pc')
    (hr : Wk p l e R s m args below meth c Q FE h locs cells slots (mkF m pc' Ls (.long v :: st))) : Wk p l e R s m args below meth c Q FE h locs cells slots (mkF m pc Ls st) := by
  subst hp
  exact Wk.step (fun T t X eT q => X.ldc2Long C.1 C.2.2.2.2.1 (mvT C.2.2.2.2.2.1 w) (g := mkF m pc Ls st) rfl (hb C.2.1 hd) t q) hr
theorem getS_ (C : Cx p s m meth c Z code maxL ret own nm R FE k0) {O n d : String} {index : Nat} {v : Value} (w : (Cond.fieldLink own index O n d).before a0 Z = true) (F : Sta Z h O n d v) (hd : decode code pc = .ok (.getstatic index, 3)) (hp : pc + 3 = pc')
    (hr : Wk p l e R s m args below meth c Q FE h locs cells slots (mkF m pc' Ls (v :: st))) : Wk p l e R s m args below meth c Q FE h locs cells slots (mkF m pc Ls st) := by
  subst hp
  exact Wk.law (fun T X eT => RoadKit.getS (host := "") X C.1 C.2.2.2.2.2.1 C.2.2.2.2.1 w Via.refl eT F (g := mkF m pc Ls st) rfl (hb C.2.1 hd)) hr
theorem getF_ (C : Cx p s m meth c Z code maxL ret own nm R FE k0) {R0 O n d : String} {index : Nat} {a : Addr} {v : Value} (w : (Cond.fieldLink own index R0 n d).before a0 Z = true) (via : Via Z R0 O n d) (F : Fld Z h a O n d v) (hd : decode code pc = .ok (.getfield index, 3)) (hp : pc + 3 = pc')
    (hr : Wk p l e R s m args below meth c Q FE h locs cells slots (mkF m pc' Ls (v :: st))) : Wk p l e R s m args below meth c Q FE h locs cells slots (mkF m pc Ls (.ref a :: st)) := by
  subst hp
  exact Wk.law (fun T X eT => RoadKit.getF (host := "") X C.1 C.2.2.2.2.2.1 C.2.2.2.2.1 (Or.inl w) via eT F (g := mkF m pc Ls (.ref a :: st)) rfl rfl (hb C.2.1 hd)) hr
theorem ret_Z (C : Cx p s m meth c Z code maxL ret own nm R FE k0) {z : Int32} (hd : decode code pc = .ok (.ireturn, 1)) (hret : ret = some .boolean) (hz : nar .boolean z = z) (hc : cells ≤ R.cells) (hs : slots ≤ R.slots) (hQ : Q (some (.int z)) h locs) (hk : k0 ≤ h.size := by exact Nat.zero_le _) : Wk p l e R s m args below meth c Q FE h locs cells slots (mkF m pc Ls (.int z :: st)) := fun T X eT => by
  obtain ⟨fs, hr, hrun, hended, hW, hsame⟩ := X.leave (v := some (.int (nar .boolean z))) (fun q => by rw [C.2.2.2.1.trans hret] at q; cases q) C.2.2.2.2.2.2.2.1
  refine ⟨_, _, RoadKit.retN X C.1 (t := .boolean) (C.2.2.2.1.trans hret) (Or.inl rfl) (hb C.2.1 hd) hr, hrun, hended, _, _, rfl, ?_, C.2.2.2.2.2.2.2.2 _ _ _ (by show k0 ≤ T.heap.size; rw [eT]; exact hk) ⟨⟨_, rfl⟩, hW, hsame.mono hc hs⟩⟩
  show Q _ T.heap _
  rw [eT, hz]; exact hQ
theorem ret_I (C : Cx p s m meth c Z code maxL ret own nm R FE k0) {z : Int32} (hd : decode code pc = .ok (.ireturn, 1)) (hret : ret = some .int) (hc : cells ≤ R.cells) (hs : slots ≤ R.slots) (hQ : Q (some (.int z)) h locs) (hk : k0 ≤ h.size := by exact Nat.zero_le _) : Wk p l e R s m args below meth c Q FE h locs cells slots (mkF m pc Ls (.int z :: st)) := fun T X eT => by
  obtain ⟨fs, hr, hrun, hended, hW, hsame⟩ := X.leave (v := some (.int z)) (fun q => by rw [C.2.2.2.1.trans hret] at q; cases q) C.2.2.2.2.2.2.2.1
  refine ⟨_, _, RoadKit.retOut X C.1 (t := .int) (i := .ireturn) (C.2.2.2.1.trans hret) rfl (Or.inl ⟨rfl, Or.inl rfl, z, rfl⟩) (hb C.2.1 hd) hr, hrun, hended, _, _, rfl, ?_, C.2.2.2.2.2.2.2.2 _ _ _ (by show k0 ≤ T.heap.size; rw [eT]; exact hk) ⟨⟨_, rfl⟩, hW, hsame.mono hc hs⟩⟩
  show Q _ T.heap _
  rw [eT]; exact hQ
theorem ret_J (C : Cx p s m meth c Z code maxL ret own nm R FE k0) {z : Int64} (hd : decode code pc = .ok (.lreturn, 1)) (hret : ret = some .long) (hc : cells ≤ R.cells) (hs : slots ≤ R.slots) (hQ : Q (some (.long z)) h locs) (hk : k0 ≤ h.size := by exact Nat.zero_le _) : Wk p l e R s m args below meth c Q FE h locs cells slots (mkF m pc Ls (.long z :: st)) := fun T X eT => by
  obtain ⟨fs, hr, hrun, hended, hW, hsame⟩ := X.leave (v := some (.long z)) (fun q => by rw [C.2.2.2.1.trans hret] at q; cases q) C.2.2.2.2.2.2.2.1
  refine ⟨_, _, RoadKit.retOut X C.1 (t := .long) (i := .lreturn) (C.2.2.2.1.trans hret) rfl (Or.inr (Or.inl ⟨rfl, rfl, z, rfl⟩)) (hb C.2.1 hd) hr, hrun, hended, _, _, rfl, ?_, C.2.2.2.2.2.2.2.2 _ _ _ (by show k0 ≤ T.heap.size; rw [eT]; exact hk) ⟨⟨_, rfl⟩, hW, hsame.mono hc hs⟩⟩
  show Q _ T.heap _
  rw [eT]; exact hQ
theorem ret_A (C : Cx p s m meth c Z code maxL ret own nm R FE k0) {w : Value} {t : FieldType} (hd : decode code pc = .ok (.areturn, 1)) (hret : ret = some t) (ht : t.isReference = true) (hw : w.isRef = true) (hn : narrow t w = w) (hc : cells ≤ R.cells) (hs : slots ≤ R.slots) (hQ : Q (some w) h locs) (hk : k0 ≤ h.size := by exact Nat.zero_le _) : Wk p l e R s m args below meth c Q FE h locs cells slots (mkF m pc Ls (w :: st)) := fun T X eT => by
  obtain ⟨fs, hr, hrun, hended, hW, hsame⟩ := X.leave (v := some w) (fun q => by rw [C.2.2.2.1.trans hret] at q; cases q) C.2.2.2.2.2.2.2.1
  refine ⟨_, _, RoadKit.retOut X C.1 (t := t) (i := .areturn) (C.2.2.2.1.trans hret) hn (Or.inr (Or.inr (Or.inr (Or.inr ⟨rfl, ht, hw⟩)))) (hb C.2.1 hd) hr, hrun, hended, _, _, rfl, ?_, C.2.2.2.2.2.2.2.2 _ _ _ (by show k0 ≤ T.heap.size; rw [eT]; exact hk) ⟨⟨_, rfl⟩, hW, hsame.mono hc hs⟩⟩
  show Q _ T.heap _
  rw [eT]; exact hQ
theorem ret_V (C : Cx p s m meth c Z code maxL ret own nm R FE k0)  (hd : decode code pc = .ok (.return_, 1)) (hret : ret = none) (hc : cells ≤ R.cells) (hs : slots ≤ R.slots) (hQ : Q none h locs) (hk : k0 ≤ h.size := by exact Nat.zero_le _) : Wk p l e R s m args below meth c Q FE h locs cells slots (mkF m pc Ls []) := fun T X eT => by
  obtain ⟨fs, hr, hrun, hended, hW, hsame⟩ := X.leave (v := none) (fun _ => rfl) C.2.2.2.2.2.2.2.1
  refine ⟨_, _, X.returnOut C.1 (C.2.2.2.1.trans hret) (hb C.2.1 hd) hr, hrun, hended, _, _, rfl, ?_, C.2.2.2.2.2.2.2.2 _ _ _ (by show k0 ≤ T.heap.size; rw [eT]; exact hk) ⟨⟨_, rfl⟩, hW, hsame.mono hc hs⟩⟩
  show Q _ T.heap _
  rw [eT]; exact hQ
theorem callS_ (C : Cx p s m meth c Z code maxL ret own nm R FE k0) {y : MethodName} {bytes : ByteArray} {maxL' index : Nat} {ret' : Option FieldType} {rm : Room} {Qc : Option Value → Heap → List Loc → Prop} {ps : List FieldType} {rt : Option FieldType} {W : Nat} (wl : (Cond.methodLink own index y).before a0 Z = true) (ws : (Cond.static y).before a0 Z = true) (wi : (Cond.initialized y.cls).before a0 Z = true) (wc : (Cond.code y bytes maxL' ret').before a0 Z = true) (hy : y.cls ≠ "java/lang/invoke/MethodHandle" ∧ y.cls ≠ "java/lang/invoke/VarHandle")
    (hpd : parseMethodDescriptor y.desc = some ⟨ps, rt⟩) (argsL rest : List Value) (hlen : argsL.length = ps.length) (hsz : Ls.size = maxL) (hW : (rest.map fun v => v.category).sum = W) (hfr : rm.frames + 1 ≤ R.frames) (hlo : W + (maxL' + 11) + rm.locals ≤ R.locals) (hce : cells + rm.cells ≤ R.cells) (hsl : slots + rm.slots ≤ R.slots) (hM : Met0 l Z y [] bytes maxL' ret' rm argsL.toArray h Qc) (hst : st = argsL.reverse ++ rest) (hd : decode code pc = .ok (.invokestatic index, 3)) (hp : pc + 3 = pc')
    (hr : ∀ v h' L, Qc v h' L → Wk p l e R s m args below meth c Q FE h' (locs ++ L) (cells + rm.cells) (slots + rm.slots) (mkF m pc' Ls (v.toList ++ rest))) : Wk p l e R s m args below meth c Q FE h locs cells slots (mkF m pc Ls st) := fun T X eT => by
  subst hp hW hst
  have hZ := C.2.2.2.2.2.1
  obtain ⟨v, vm₁, ⟨T', L', k', n'⟩, -, X', ⟨L, hq, q1, q2, q3⟩, st'⟩ := Jvm.LawKit.callS X C.1 (y := y) C.2.2.2.2.1 (mvT hZ wl) (mvT hZ ws) (mvT hZ wi) (mvT hZ wc) hy (backOf hM hZ wc wi hfr hlo) (g := mkF m pc Ls (argsL.reverse ++ rest)) rfl (by show Ls.size = _; rw [hsz, C.2.2.1]) (argsL := argsL) (rest := rest) (lenOf hpd hlen) rfl (by show 2 * 0 + _ ≤ _; omega) (hb C.2.1 hd) (fun _ _ => ⟨rfl, eT, hce, hsl⟩)
  dsimp only [Pt.U, Pt.locs, Pt.cells, Pt.slots] at X' q1 q2 q3 hq st'
  subst q1 q2 q3
  obtain ⟨s₂, o, st₂, r⟩ := hr v _ L hq T' X' rfl
  exact ⟨s₂, o, st' _ st₂, r⟩
theorem callV_ (C : Cx p s m meth c Z code maxL ret own nm R FE k0) {y : MethodName} {bytes : ByteArray} {maxL' index : Nat} {ret' : Option FieldType} {rm : Room} {Qc : Option Value → Heap → List Loc → Prop} {ps : List FieldType} {rt : Option FieldType} {W : Nat} {z : MethodName} {K : String} {b : Addr} (wl : (Cond.methodLink own index y).before a0 Z = true) (wd : (Cond.declares y).before a0 Z = true) (hnf : ∀ U : State, Z.Warmed39 U.vm → NotFace U y) (wse : (Cond.selects K y z).before a0 Z = true) (win : (Cond.instanceMethod z).before a0 Z = true) (wi : (Cond.initialized z.cls).before a0 Z = true) (wc : (Cond.code z bytes maxL' ret').before a0 Z = true) (hy : y.cls ≠ "java/lang/invoke/MethodHandle" ∧ y.cls ≠ "java/lang/invoke/VarHandle") (E : Exa Z h b K)
    (hpd : parseMethodDescriptor y.desc = some ⟨ps, rt⟩) (argsL rest : List Value) (hlen : argsL.length = ps.length) (hsz : Ls.size = maxL) (hW : (rest.map fun v => v.category).sum = W) (hfr : rm.frames + 1 ≤ R.frames) (hlo : W + (maxL' + 11) + rm.locals ≤ R.locals) (hce : cells + rm.cells ≤ R.cells) (hsl : slots + rm.slots ≤ R.slots) (hM : Met0 l Z z [] bytes maxL' ret' rm (.ref b :: argsL).toArray h Qc) (hst : st = argsL.reverse ++ .ref b :: rest) (hd : decode code pc = .ok (.invokevirtual index, 3)) (hp : pc + 3 = pc')
    (hr : ∀ v h' L, Qc v h' L → Wk p l e R s m args below meth c Q FE h' (locs ++ L) (cells + rm.cells) (slots + rm.slots) (mkF m pc' Ls (v.toList ++ rest))) : Wk p l e R s m args below meth c Q FE h locs cells slots (mkF m pc Ls st) := fun T X eT => by
  subst hp hW hst
  have hZ := C.2.2.2.2.2.1
  obtain ⟨cq, kq, qa, qb, qc⟩ := isOf hZ eT E
  obtain ⟨v, vm₁, ⟨T', L', k', n'⟩, -, X', ⟨L, hq, q1, q2, q3⟩, st'⟩ := X.virtualBack C.1 (y := y) (z := z) C.2.2.2.2.1 (mvT hZ wl) (mvT hZ wd) (hnf s hZ) (mvT hZ wse) (mvT hZ win) hy (backOf hM hZ wc wi hfr hlo) qa qc (g := mkF m pc Ls (argsL.reverse ++ .ref b :: rest)) rfl (by show Ls.size = _; rw [hsz, C.2.2.1]) (Steps.refl _) (argsL := argsL) (rest := rest) (lenOf hpd hlen) rfl (by show 2 * 0 + _ ≤ _; omega) (hb C.2.1 hd) (fun _ _ => ⟨rfl, eT, hce, hsl⟩)
  dsimp only [Pt.U, Pt.locs, Pt.cells, Pt.slots] at X' q1 q2 q3 hq st'
  subst q1 q2 q3
  obtain ⟨s₂, o, st₂, r⟩ := hr v _ L hq T' X' rfl
  exact ⟨s₂, o, st'.trans st₂, r⟩
theorem nf_sel {Z : State} {a0 : Array Value} {y : MethodName} {K : String} (w : (Cond.selects K y y).before a0 Z = true) : ∀ U : State, Z.Warmed39 U.vm → NotFace U y := fun U hZ => notFace_of_selects (args := #[]) (mvT hZ w)
theorem callUp_ (C : Cx p s m meth c Z code maxL ret own nm R FE k0) {y : MethodName} {bytes : ByteArray} {maxL' index : Nat} {ret' : Option FieldType} {rm : Room} {Qc : Option Value → Heap → List Loc → Prop} {ps : List FieldType} {rt : Option FieldType} {W : Nat} {z : MethodName} {K owner : String} {b : Addr} (wl : (Cond.methodLink own index y).before a0 Z = true) (wsm : (Cond.sameMethod y.cls owner y.name y.desc).before a0 Z = true) (wd : (Cond.declares ⟨owner, y.name, y.desc⟩).before a0 Z = true) (wse : (Cond.selects K y z).before a0 Z = true) (win : (Cond.instanceMethod z).before a0 Z = true) (wi : (Cond.initialized z.cls).before a0 Z = true) (wc : (Cond.code z bytes maxL' ret').before a0 Z = true) (hy : owner ≠ "java/lang/invoke/MethodHandle" ∧ owner ≠ "java/lang/invoke/VarHandle") (E : Exa Z h b K)
    (hpd : parseMethodDescriptor y.desc = some ⟨ps, rt⟩) (argsL rest : List Value) (hlen : argsL.length = ps.length) (hsz : Ls.size = maxL) (hW : (rest.map fun v => v.category).sum = W) (hfr : rm.frames + 1 ≤ R.frames) (hlo : W + (maxL' + 11) + rm.locals ≤ R.locals) (hce : cells + rm.cells ≤ R.cells) (hsl : slots + rm.slots ≤ R.slots) (hM : Met0 l Z z [] bytes maxL' ret' rm (.ref b :: argsL).toArray h Qc) (hst : st = argsL.reverse ++ .ref b :: rest) (hd : decode code pc = .ok (.invokevirtual index, 3)) (hp : pc + 3 = pc')
    (hr : ∀ v h' L, Qc v h' L → Wk p l e R s m args below meth c Q FE h' (locs ++ L) (cells + rm.cells) (slots + rm.slots) (mkF m pc' Ls (v.toList ++ rest))) : Wk p l e R s m args below meth c Q FE h locs cells slots (mkF m pc Ls st) := fun T X eT => by
  subst hp hW hst
  have hZ := C.2.2.2.2.2.1
  obtain ⟨cq, kq, qa, qb, qc⟩ := isOf hZ eT E
  obtain ⟨v, vm₁, ⟨T', L', k', n'⟩, -, X', ⟨L, hq, q1, q2, q3⟩, st'⟩ := X.virtualBackUp C.1 (x := y) (y := z) C.2.2.2.2.1 (mvT hZ wl) (mvT hZ wsm) (mvT hZ wd) hy (mvT hZ wse) (mvT hZ win) (backOf hM hZ wc wi hfr hlo) qa qc (g := mkF m pc Ls (argsL.reverse ++ .ref b :: rest)) rfl (by show Ls.size = _; rw [hsz, C.2.2.1]) (Steps.refl _) (argsL := argsL) (rest := rest) (lenOf hpd hlen) rfl (by show 2 * 0 + _ ≤ _; omega) (hb C.2.1 hd) (fun _ _ => ⟨rfl, eT, hce, hsl⟩)
  dsimp only [Pt.U, Pt.locs, Pt.cells, Pt.slots] at X' q1 q2 q3 hq st'
  subst q1 q2 q3
  obtain ⟨s₂, o, st₂, r⟩ := hr v _ L hq T' X' rfl
  exact ⟨s₂, o, st'.trans st₂, r⟩
theorem instY_ (C : Cx p s m meth c Z code maxL ret own nm R FE k0) {K : String} {index : Nat} {a : Addr} (w : (Cond.classLink own index K).before a0 Z = true) (F : Ins Z h a K true) (hd : decode code pc = .ok (.instanceof index, 3)) (hp : pc + 3 = pc')
    (hr : Wk p l e R s m args below meth c Q FE h locs cells slots (mkF m pc' Ls (.int 1 :: st))) : Wk p l e R s m args below meth c Q FE h locs cells slots (mkF m pc Ls (.ref a :: st)) := by
  subst hp
  exact Wk.law (fun T X eT => RoadKit.instY X C.1 C.2.2.2.2.2.1 C.2.2.2.2.1 w eT F (g := mkF m pc Ls (.ref a :: st)) rfl rfl (hb C.2.1 hd)) hr
theorem newO_ (C : Cx p s m meth c Z code maxL ret own nm R FE k0) {K : String} {index n : Nat} (w : (Cond.classLink own index K).before a0 Z = true) (wi : (Cond.instantiable K n).before a0 Z = true) (wz : (Cond.initialized K).before a0 Z = true) (hd : decode code pc = .ok (.new index, 3)) (hp : pc + 3 = pc') (hc : cells + 1 ≤ R.cells) (hl : slots + n ≤ R.slots)
    (hr : ∀ h' a, a = h.size → Ext h h' → Exa Z h' a K → (∀ {O nm d : String} {ty : FieldType}, Laid Z a0 K O nm d → parseFieldDescriptor d = some ty → Fld Z h' a O nm d (defaultValue ty)) → Wk p l e R s m args below meth c Q FE h' locs (cells + 1) (slots + n) (mkF m pc' Ls (.ref a :: st))) : Wk p l e R s m args below meth c Q FE h locs cells slots (mkF m pc Ls st) := fun T X eT => by
  subst hp
  obtain ⟨T', h', X', e', E', A', D', -, q⟩ := RoadKit.newO X C.1 C.2.2.2.2.2.1 C.2.2.2.2.1 w wi wz eT (g := mkF m pc Ls st) rfl (hb C.2.1 hd) hc hl
  obtain ⟨s₂, o, st₂, r⟩ := hr h' _ rfl E' A' D' T' X' e'
  exact ⟨s₂, o, q s₂ st₂, r⟩
theorem putF_ (C : Cx p s m meth c Z code maxL ret own nm R FE k0) {R0 O n d K : String} {index kk : Nat} {ty : FieldType} {a : Addr} {v old : Value} (w : (Cond.fieldLink own index R0 n d).before a0 Z = true) (via : Via Z R0 O n d) (F : Fld Z h a O n d old) (E : Exa Z h a K) (Lw : (Cond.lays K O n d).before a0 Z = true ∨ ((Cond.laysFinal K O n d).before a0 Z = true ∧ own = O ∧ nm = "<init>")) (wi : (Cond.instantiable K kk).before a0 Z = true)
    (hty : parseFieldDescriptor d = some ty) (hn : narrow ty v = v) (hf : fits ty v = true) (hd : decode code pc = .ok (.putfield index, 3)) (hp : pc + 3 = pc')
    (hr : ∀ h', Wr h h' a (Jvm.RoadKit.slotOf Z O n d) v → Wk p l e R s m args below meth c Q FE h' (locs ++ [⟨a, Jvm.RoadKit.slotOf Z O n d⟩]) cells slots (mkF m pc' Ls st)) : Wk p l e R s m args below meth c Q FE h locs cells slots (mkF m pc Ls (v :: .ref a :: st)) := fun T X eT => by
  subst hp
  obtain ⟨T', h', X', e', W', q⟩ := RoadKit.putF (host := "") X C.1 C.2.2.2.2.2.1 C.2.2.2.2.1 (Or.inl w) via eT F E (Lw.imp id fun z => ⟨z.1, z.2.1, C.2.2.2.2.2.2.1.trans z.2.2⟩) wi hty hn hf (g := mkF m pc Ls (v :: .ref a :: st)) rfl rfl (hb C.2.1 hd)
  obtain ⟨s₂, o, st₂, r⟩ := hr h' W' T' X' e'
  exact ⟨s₂, o, q s₂ st₂, r⟩
theorem initO_ (C : Cx p s m meth c Z code maxL ret own nm R FE k0) {index : Nat} {a : Addr} {W : Nat} (w1 : (Cond.methodLink own index Lib.objectInit).before a0 Z = true) (w2 : (Cond.instanceMethod Lib.objectInit).before a0 Z = true) (w3 : (Cond.code Lib.objectInit ⟨#[0xb1]⟩ 1 none).before a0 Z = true) (hsz : Ls.size = maxL) (hd : decode code pc = .ok (.invokespecial index, 3)) (hf : 1 ≤ R.frames) (hW : (st.map fun v => v.category).sum = W) (hl : W + 12 ≤ R.locals) (hp : pc + 3 = pc')
    (hr : Wk p l e R s m args below meth c Q FE h locs cells slots (mkF m pc' Ls st)) : Wk p l e R s m args below meth c Q FE h locs cells slots (mkF m pc Ls (.ref a :: st)) := by
  subst hp hW
  exact Wk.law (fun T X eT => RoadKit.initO X C.1 C.2.2.2.2.2.1 C.2.2.2.2.1 w1 w2 w3 eT (g := mkF m pc Ls (.ref a :: st)) rfl (by show Ls.size = _; rw [hsz, C.2.2.1]) rfl (hb C.2.1 hd) hf (by show 2 * 0 + _ ≤ _; omega) hl) hr
theorem callC_ (C : Cx p s m meth c Z code maxL ret own nm R FE k0) {y : MethodName} {bytes : ByteArray} {maxL' index : Nat} {rm : Room} {Qc : Option Value → Heap → List Loc → Prop} {ps : List FieldType} {rt : Option FieldType} {W : Nat} {a : Addr} (hy1 : y.name = "<init>") (wl : (Cond.methodLink own index y).before a0 Z = true) (win : (Cond.instanceMethod y).before a0 Z = true) (wi : (Cond.initialized y.cls).before a0 Z = true) (wc : (Cond.code y bytes maxL' none).before a0 Z = true) (hy : y.cls ≠ "java/lang/invoke/MethodHandle" ∧ y.cls ≠ "java/lang/invoke/VarHandle")
    (hpd : parseMethodDescriptor y.desc = some ⟨ps, rt⟩) (argsL rest : List Value) (hlen : argsL.length = ps.length) (hsz : Ls.size = maxL) (hW : (rest.map fun v => v.category).sum = W) (hfr : rm.frames + 1 ≤ R.frames) (hlo : W + (maxL' + 11) + rm.locals ≤ R.locals) (hce : cells + rm.cells ≤ R.cells) (hsl : slots + rm.slots ≤ R.slots) (hM : Met0 l Z y [] bytes maxL' none rm (.ref a :: argsL).toArray h Qc) (hst : st = argsL.reverse ++ .ref a :: rest) (hd : decode code pc = .ok (.invokespecial index, 3)) (hp : pc + 3 = pc')
    (hr : ∀ v h' L, Qc v h' L → Wk p l e R s m args below meth c Q FE h' (locs ++ L) (cells + rm.cells) (slots + rm.slots) (mkF m pc' Ls (v.toList ++ rest))) : Wk p l e R s m args below meth c Q FE h locs cells slots (mkF m pc Ls st) := fun T X eT => by
  subst hp hW hst
  have hZ := C.2.2.2.2.2.1
  obtain ⟨v, vm₁, ⟨T', L', k', n'⟩, -, X', ⟨L, hq, q1, q2, q3⟩, st'⟩ := X.specialBack C.1 (y := y) hy1 C.2.2.2.2.1 (mvT hZ wl) (mvT hZ win) (mvT hZ wc) hy (backOf hM hZ wc wi hfr hlo) (g := mkF m pc Ls (argsL.reverse ++ .ref a :: rest)) rfl (by show Ls.size = _; rw [hsz, C.2.2.1]) (Steps.refl _) (a := a) (argsL := argsL) (rest := rest) (lenOf hpd hlen) rfl (by show 2 * 0 + _ ≤ _; omega) (hb C.2.1 hd) (fun _ _ => ⟨rfl, eT, hce, hsl⟩)
  dsimp only [Pt.U, Pt.locs, Pt.cells, Pt.slots] at X' q1 q2 q3 hq st'
  subst q1 q2 q3
  obtain ⟨s₂, o, st₂, r⟩ := hr v _ L hq T' X' rfl
  exact ⟨s₂, o, st'.trans st₂, r⟩
theorem callF_ (C : Cx p s m meth c Z code maxL ret own nm R FE k0) {y : MethodName} {bytes : ByteArray} {maxL' index : Nat} {ret' : Option FieldType} {rm : Room} {Qc : Option Value → Heap → List Loc → Prop} {ps : List FieldType} {rt : Option FieldType} {W : Nat} {z : MethodName} {K : String} {b : Addr} {count : Nat} (wl : (Cond.methodLink own index y).before a0 Z = true) (wd : (Cond.declares y).before a0 Z = true) (wim : (Cond.interfaceMethod y.cls y.cls y.name y.desc).before a0 Z = true) (hfa : ((Cond.interfaceMethod y.cls y.cls y.name y.desc).onTables && (Cond.interfaceMethod y.cls y.cls y.name y.desc).keepsFace) = true) (wse : (Cond.selects K y z).before a0 Z = true) (win : (Cond.instanceMethod z).before a0 Z = true) (wpu : (Cond.publicMethod z).before a0 Z = true) (wun : (Cond.unhidden K y.name y.desc).before a0 Z = true) (wca : (Cond.castable K y.cls).before a0 Z = true) (wi : (Cond.initialized z.cls).before a0 Z = true) (wc : (Cond.code z bytes maxL' ret').before a0 Z = true) (hy : y.cls ≠ "java/lang/invoke/MethodHandle" ∧ y.cls ≠ "java/lang/invoke/VarHandle") (E : Exa Z h b K)
    (hpd : parseMethodDescriptor y.desc = some ⟨ps, rt⟩) (argsL rest : List Value) (hlen : argsL.length = ps.length) (hsz : Ls.size = maxL) (hW : (rest.map fun v => v.category).sum = W) (hfr : rm.frames + 1 ≤ R.frames) (hlo : W + (maxL' + 11) + rm.locals ≤ R.locals) (hce : cells + rm.cells ≤ R.cells) (hsl : slots + rm.slots ≤ R.slots) (hM : Met0 l Z z [] bytes maxL' ret' rm (.ref b :: argsL).toArray h Qc) (hst : st = argsL.reverse ++ .ref b :: rest) (hd : decode code pc = .ok (.invokeinterface index count, 5)) (hp : pc + 5 = pc')
    (hr : ∀ v h' L, Qc v h' L → Wk p l e R s m args below meth c Q FE h' (locs ++ L) (cells + rm.cells) (slots + rm.slots) (mkF m pc' Ls (v.toList ++ rest))) : Wk p l e R s m args below meth c Q FE h locs cells slots (mkF m pc Ls st) := fun T X eT => by
  subst hp hW hst
  have hZ := C.2.2.2.2.2.1
  obtain ⟨cq, kq, qa, qb, qc⟩ := isOf hZ eT E
  obtain ⟨v, vm₁, ⟨T', L', k', n'⟩, -, X', ⟨L, hq, q1, q2, q3⟩, st'⟩ := X.interfaceBack C.1 (xi := y) (y := z) C.2.2.2.2.1 (mvT hZ wl) (mvT hZ wd) (mvT hZ wim hfa) (mvT hZ wse) (mvT hZ win) (mvT hZ wpu) (mvT hZ wun) (mvT hZ wca) hy (backOf hM hZ wc wi hfr hlo) qa qb qc (g := mkF m pc Ls (argsL.reverse ++ .ref b :: rest)) rfl (by show Ls.size = _; rw [hsz, C.2.2.1]) (Steps.refl _) (argsL := argsL) (rest := rest) (lenOf hpd hlen) rfl (by show 2 * 0 + _ ≤ _; omega) (hb C.2.1 hd) (fun _ _ => ⟨rfl, eT, hce, hsl⟩)
  dsimp only [Pt.U, Pt.locs, Pt.cells, Pt.slots] at X' q1 q2 q3 hq st'
  subst q1 q2 q3
  obtain ⟨s₂, o, st₂, r⟩ := hr v _ L hq T' X' rfl
  exact ⟨s₂, o, st'.trans st₂, r⟩
theorem newP_ (C : Cx p s m meth c Z code maxL ret own nm R FE k0) {aty : ArrayType} {ty : FieldType} {n : Int32} {cap : Nat} (hty : newarray.typeOf aty = ty) (w : (Cond.arrayClass ty).before a0 Z = true) (hd : decode code pc = .ok (.newarray aty, 2)) (hp : pc + 2 = pc') (hn : ¬ n < 0) (hcap : n.toNatClampNeg ≤ cap) (hb8 : cap * 8 ≤ 536870912) (hc : cells + 1 ≤ R.cells) (hl : slots + cap ≤ R.slots)
    (hr : ∀ h' cA a, a = h.size → Ext h h' → Arv Z h' a cA ty n [] (defaultValue ty) → Wk p l e R s m args below meth c Q FE h' locs (cells + 1) (slots + cap) (mkF m pc' Ls (.ref a :: st))) : Wk p l e R s m args below meth c Q FE h locs cells slots (mkF m pc Ls (.int n :: st)) := fun T X eT => by
  subst hp hty
  obtain ⟨T', h', cA, X', e', E', A', q⟩ := RoadKit.newP X C.1 C.2.2.2.2.2.1 w eT (g := mkF m pc Ls (.int n :: st)) rfl (hb C.2.1 hd) rfl hn hcap hb8 hc hl
  obtain ⟨s₂, o, st₂, r⟩ := hr h' cA _ rfl E' (Arv.new A' hn) T' X' e'
  exact ⟨s₂, o, q s₂ st₂, r⟩
theorem newR_ (C : Cx p s m meth c Z code maxL ret own nm R FE k0) {K : String} {index : Nat} {n : Int32} {cap : Nat} (w1 : (Cond.classLink own index K).before a0 Z = true) (w2 : (Cond.arrayOver (.object K)).before a0 Z = true) (hd : decode code pc = .ok (.anewarray index, 3)) (hp : pc + 3 = pc') (hn : ¬ n < 0) (hcap : n.toNatClampNeg ≤ cap) (hb8 : cap * 8 ≤ 536870912) (hc : cells + 1 ≤ R.cells) (hl : slots + cap ≤ R.slots)
    (hr : ∀ h' cA a, a = h.size → Ext h h' → Arv Z h' a cA (.object K) n [] (defaultValue (.object K)) → Ovr Z cA K → Wk p l e R s m args below meth c Q FE h' locs (cells + 1) (slots + cap) (mkF m pc' Ls (.ref a :: st))) : Wk p l e R s m args below meth c Q FE h locs cells slots (mkF m pc Ls (.int n :: st)) := fun T X eT => by
  subst hp
  obtain ⟨T', h', cA, X', e', E', A', O', q⟩ := RoadKit.newR X C.1 C.2.2.2.2.2.1 C.2.2.2.2.1 w1 w2 eT (g := mkF m pc Ls (.int n :: st)) rfl (hb C.2.1 hd) rfl hn hcap hb8 hc hl
  obtain ⟨s₂, o, st₂, r⟩ := hr h' cA _ rfl E' (Arv.new A' hn) O' T' X' e'
  exact ⟨s₂, o, q s₂ st₂, r⟩
theorem stI_ (C : Cx p s m meth c Z code maxL ret own nm R FE k0) {a : Addr} {k : ClassId} {n j x : Int32} {vs : List Value} {dv : Value} (A : Arv Z h a k .int n vs dv) (hj : ¬ j < 0 ∧ j < n) (i : Nat) (hi : j.toNatClampNeg = i) (hlen : i < vs.length) (hd : decode code pc = .ok (.iastore, 1)) (hp : pc + 1 = pc')
    (hr : ∀ h', Wr h h' a j.toNatClampNeg (.int x) → Arv Z h' a k .int n (vs.set i (.int x)) dv → Wk p l e R s m args below meth c Q FE h' (locs ++ [⟨a, j.toNatClampNeg⟩]) cells slots (mkF m pc' Ls st)) : Wk p l e R s m args below meth c Q FE h locs cells slots (mkF m pc Ls (.int x :: .int j :: .ref a :: st)) := fun T X eT => by
  subst hp
  obtain ⟨cl, A1, q1, S1, N1, H1, G1⟩ := A
  obtain ⟨T', h', X', e', W', q⟩ := RoadKit.stI X C.1 C.2.2.2.2.2.1 eT A1 (inb_of S1 hj) (g := mkF m pc Ls (.int x :: .int j :: .ref a :: st)) rfl rfl (hb C.2.1 hd)
  obtain ⟨s₂, o, st₂, r⟩ := hr h' W' (Arv.set A1 q1 S1 N1 H1 G1 rfl W' i hi hlen) T' X' e'
  exact ⟨s₂, o, q s₂ st₂, r⟩
theorem stR_ (C : Cx p s m meth c Z code maxL ret own nm R FE k0) {a b : Addr} {k : ClassId} {K : String} {n j : Int32} {vs : List Value} {dv : Value} (A : Arv Z h a k (.object K) n vs dv) (O : Ovr Z k K) (I : Ins Z h b K true) (hj : ¬ j < 0 ∧ j < n) (i : Nat) (hi : j.toNatClampNeg = i) (hlen : i < vs.length) (hd : decode code pc = .ok (.aastore, 1)) (hp : pc + 1 = pc')
    (hr : ∀ h', Wr h h' a j.toNatClampNeg (.ref b) → Arv Z h' a k (.object K) n (vs.set i (.ref b)) dv → Wk p l e R s m args below meth c Q FE h' (locs ++ [⟨a, j.toNatClampNeg⟩]) cells slots (mkF m pc' Ls st)) : Wk p l e R s m args below meth c Q FE h locs cells slots (mkF m pc Ls (.ref b :: .int j :: .ref a :: st)) := fun T X eT => by
  subst hp
  obtain ⟨cl, A1, q1, S1, N1, H1, G1⟩ := A
  obtain ⟨T', h', X', e', W', q⟩ := RoadKit.stR X C.1 C.2.2.2.2.2.1 eT A1 (inb_of S1 hj) rfl (Sto.ofV A1 q1 O I) (g := mkF m pc Ls (.ref b :: .int j :: .ref a :: st)) rfl rfl (hb C.2.1 hd)
  obtain ⟨s₂, o, st₂, r⟩ := hr h' W' (Arv.set A1 q1 S1 N1 H1 G1 rfl W' i hi hlen) T' X' e'
  exact ⟨s₂, o, q s₂ st₂, r⟩
theorem ldI_ (C : Cx p s m meth c Z code maxL ret own nm R FE k0) {a : Addr} {cl : Cell} {j : Int32} {v : Value} (A : Arr Z h a cl .int) (hin : ¬ (j < 0 ∨ cl.slots.size ≤ j.toNatClampNeg)) (hv : cl.slots[j.toNatClampNeg]? = some v) (hd : decode code pc = .ok (.iaload, 1)) (hp : pc + 1 = pc')
    (hr : Wk p l e R s m args below meth c Q FE h locs cells slots (mkF m pc' Ls (v :: st))) : Wk p l e R s m args below meth c Q FE h locs cells slots (mkF m pc Ls (.int j :: .ref a :: st)) := by
  subst hp
  exact Wk.step (fun T t X eT q => X.iaload C.1 (j := j) (v := v) (by rw [eT]; exact A.1) (State.isArrayOf_alike C.2.2.2.2.2.1.alike A.2.1) A.2.2 hin hv (g := mkF m pc Ls (.int j :: .ref a :: st)) rfl rfl (hb C.2.1 hd) t q) hr
theorem ldA_ (C : Cx p s m meth c Z code maxL ret own nm R FE k0) {a : Addr} {cl : Cell} {ty : FieldType} {j : Int32} {v : Value} (A : Arr Z h a cl ty) (hty : ty.isReference = true) (hin : ¬ (j < 0 ∨ cl.slots.size ≤ j.toNatClampNeg)) (hv : cl.slots[j.toNatClampNeg]? = some v) (hd : decode code pc = .ok (.aaload, 1)) (hp : pc + 1 = pc')
    (hr : Wk p l e R s m args below meth c Q FE h locs cells slots (mkF m pc' Ls (v :: st))) : Wk p l e R s m args below meth c Q FE h locs cells slots (mkF m pc Ls (.int j :: .ref a :: st)) := by
  subst hp
  exact Wk.step (fun T t X eT q => X.aaload C.1 (j := j) (v := v) (by rw [eT]; exact A.1) (State.isArrayOf_alike C.2.2.2.2.2.1.alike A.2.1) hty A.2.2 hin hv (g := mkF m pc Ls (.int j :: .ref a :: st)) rfl rfl (hb C.2.1 hd) t q) hr
theorem Fr.put {k : Nat} {L : List Loc} {a : Addr} {i : Nat} (N : Fr k L) (q : k ≤ a) : Fr k (L ++ [⟨a, i⟩]) := N.app fun y hy => by cases List.mem_singleton.mp hy; exact q
theorem ldcS_ {vm0 : Vm} (C : Cx p (s.setVm vm0) m meth c Z code maxL ret own nm R (FEw s R) k0) (hS : s.Since vm0 k0) (hk : k0 ≤ h.size) {text : String} {index n : Nat} (w : (Cond.stringLink own index text).before a0 Z = true) (wS : ∀ a ∈ Bundle.stringAtoms, a.before a0 Z = true) (hd : decode code pc = .ok (.ldc index, 2)) (hp : pc + 2 = pc') (hn : 4 * text.toList.length ≤ n) (hbig : n ≤ 536870912) (hc : cells + 2 ≤ R.cells) (hl : slots + (n + 4) ≤ R.slots)
    (hr : ∀ vm1 k1 a h', Cx p (s.setVm vm1) m meth c Z code maxL ret own nm R (FEw s R) k1 → s.Since vm1 k1 → k1 ≤ h'.size → Ext h h' → Wk p l e R (s.setVm vm1) m args below meth c Q (FEw s R) h' locs (cells + 2) (slots + (n + 4)) (mkF m pc' Ls (.ref a :: st))) : Wk p l e R (s.setVm vm0) m args below meth c Q (FEw s R) h locs cells slots (mkF m pc Ls st) := fun T X eT => by
  subst hp
  obtain ⟨a, T', h', k1, X', e', E', hS', hk', hZ', ho', q⟩ := RoadKit.ldcS X C.1 C.2.2.2.2.2.1 C.2.2.2.2.1 w wS eT hS hk (g := mkF m pc Ls st) rfl (hb C.2.1 hd) hn hbig hc hl
  obtain ⟨s₂, o, st₂, r⟩ := hr T'.vm k1 a h' ⟨C.1, C.2.1, C.2.2.1, C.2.2.2.1, ho', hZ', C.2.2.2.2.2.2.1, C.2.2.2.2.2.2.2.1, fe_since hS'⟩ hS' hk' E' T' X' e'
  exact ⟨s₂, o, q s₂ st₂, r⟩
theorem callCS_ {vm0 : Vm} (C : Cx p (s.setVm vm0) m meth c Z code maxL ret own nm R (FEw s R) k0) (hS : s.Since vm0 k0) (hk : k0 ≤ h.size) {y : MethodName} {bytes : ByteArray} {maxL' index : Nat} {rm : Room} {Qc : Option Value → Heap → List Loc → Prop} {ps : List FieldType} {rt : Option FieldType} {W : Nat} {a : Addr} (hy1 : y.name = "<init>") (wl : (Cond.methodLink own index y).before a0 Z = true) (win : (Cond.instanceMethod y).before a0 Z = true) (wi : (Cond.initialized y.cls).before a0 Z = true) (wc : (Cond.code y bytes maxL' none).before a0 Z = true) (hy : y.cls ≠ "java/lang/invoke/MethodHandle" ∧ y.cls ≠ "java/lang/invoke/VarHandle")
    (hpd : parseMethodDescriptor y.desc = some ⟨ps, rt⟩) (argsL rest : List Value) (hlen : argsL.length = ps.length) (hsz : Ls.size = maxL) (hW : (rest.map fun v => v.category).sum = W) (hfr : rm.frames + 1 ≤ R.frames) (hlo : W + (maxL' + 11) + rm.locals ≤ R.locals) (hce : cells + rm.cells ≤ R.cells) (hsl : slots + rm.slots ≤ R.slots) (hM : MetS l Z y [] bytes maxL' none rm (.ref a :: argsL).toArray h Qc) (hst : st = argsL.reverse ++ .ref a :: rest) (hd : decode code pc = .ok (.invokespecial index, 3)) (hp : pc + 3 = pc')
    (hr : ∀ vm1 k1 v h' L, Qc v h' L → Cx p (s.setVm vm1) m meth c Z code maxL ret own nm R (FEw s R) k1 → s.Since vm1 k1 → k1 ≤ h'.size → h.size ≤ h'.size → Wk p l e R (s.setVm vm1) m args below meth c Q (FEw s R) h' (locs ++ L) (cells + rm.cells) (slots + rm.slots) (mkF m pc' Ls (v.toList ++ rest))) : Wk p l e R (s.setVm vm0) m args below meth c Q (FEw s R) h locs cells slots (mkF m pc Ls st) := fun T X eT => by
  subst hp hW hst
  have hZ : Z.Warmed39 (s.setVm vm0).vm := C.2.2.2.2.2.1
  obtain ⟨v, vm₁, ⟨T', L', k', n'⟩, -, X', hS', hgr, ⟨L, hq, q1, q2, q3⟩, st'⟩ := X.specialBackS C.1 (y := y) hy1 C.2.2.2.2.1 (mvT hZ wl) (mvT hZ win) (mvT hZ wc) hy (backOfS hM hZ wc wi hfr hlo) (g := mkF m pc Ls (argsL.reverse ++ .ref a :: rest)) rfl (by show Ls.size = _; rw [hsz, C.2.2.1]) (Steps.refl _) (a := a) (argsL := argsL) (rest := rest) (lenOf hpd hlen) rfl (by show 2 * 0 + _ ≤ _; omega) (hb C.2.1 hd) (fun _ _ => ⟨rfl, eT, hce, hsl⟩)
  dsimp only [Pt.U, Pt.locs, Pt.cells, Pt.slots] at X' q1 q2 q3 hq hgr hS' st'
  subst q1 q2 q3
  have hS1 : s.Since T'.vm T'.heap.size := foldS hS (by rw [eT]; exact hk) hS' hgr
  obtain ⟨s₂, o, st₂, r⟩ := hr T'.vm T'.heap.size v _ L hq ⟨C.1, C.2.1, C.2.2.1, C.2.2.2.1, by rw [show (s.setVm T'.vm).vm = T'.vm from rfl, hS'.1.alike.findClass]; exact C.2.2.2.2.1, State.Warmed39.trans (t := s.setVm vm0) C.2.2.2.2.2.1 hS'.1, C.2.2.2.2.2.2.1, C.2.2.2.2.2.2.2.1, fe_since hS1⟩ hS1 (Nat.le_refl _) (by rw [← eT]; exact hgr) T' X' rfl
  exact ⟨s₂, o, st'.trans st₂, r⟩
theorem callVS_ {vm0 : Vm} (C : Cx p (s.setVm vm0) m meth c Z code maxL ret own nm R (FEw s R) k0) (hS : s.Since vm0 k0) (hk : k0 ≤ h.size) {y : MethodName} {bytes : ByteArray} {maxL' index : Nat} {ret' : Option FieldType} {rm : Room} {Qc : Option Value → Heap → List Loc → Prop} {ps : List FieldType} {rt : Option FieldType} {W : Nat} {z : MethodName} {K : String} {b : Addr} (wl : (Cond.methodLink own index y).before a0 Z = true) (wd : (Cond.declares y).before a0 Z = true) (hnf : ∀ U : State, Z.Warmed39 U.vm → NotFace U y) (wse : (Cond.selects K y z).before a0 Z = true) (win : (Cond.instanceMethod z).before a0 Z = true) (wi : (Cond.initialized z.cls).before a0 Z = true) (wc : (Cond.code z bytes maxL' ret').before a0 Z = true) (hy : y.cls ≠ "java/lang/invoke/MethodHandle" ∧ y.cls ≠ "java/lang/invoke/VarHandle") (E : Exa Z h b K)
    (hpd : parseMethodDescriptor y.desc = some ⟨ps, rt⟩) (argsL rest : List Value) (hlen : argsL.length = ps.length) (hsz : Ls.size = maxL) (hW : (rest.map fun v => v.category).sum = W) (hfr : rm.frames + 1 ≤ R.frames) (hlo : W + (maxL' + 11) + rm.locals ≤ R.locals) (hce : cells + rm.cells ≤ R.cells) (hsl : slots + rm.slots ≤ R.slots) (hM : MetS l Z z [] bytes maxL' ret' rm (.ref b :: argsL).toArray h Qc) (hst : st = argsL.reverse ++ .ref b :: rest) (hd : decode code pc = .ok (.invokevirtual index, 3)) (hp : pc + 3 = pc')
    (hr : ∀ vm1 k1 v h' L, Qc v h' L → Cx p (s.setVm vm1) m meth c Z code maxL ret own nm R (FEw s R) k1 → s.Since vm1 k1 → k1 ≤ h'.size → h.size ≤ h'.size → Wk p l e R (s.setVm vm1) m args below meth c Q (FEw s R) h' (locs ++ L) (cells + rm.cells) (slots + rm.slots) (mkF m pc' Ls (v.toList ++ rest))) : Wk p l e R (s.setVm vm0) m args below meth c Q (FEw s R) h locs cells slots (mkF m pc Ls st) := fun T X eT => by
  subst hp hW hst
  have hZ : Z.Warmed39 (s.setVm vm0).vm := C.2.2.2.2.2.1
  obtain ⟨cq, kq, qa, qb, qc⟩ := isOf (s := s.setVm vm0) hZ eT E
  obtain ⟨v, vm₁, ⟨T', L', k', n'⟩, -, X', hS', hgr, ⟨L, hq, q1, q2, q3⟩, st'⟩ := X.virtualBackS C.1 (y := y) (z := z) C.2.2.2.2.1 (mvT hZ wl) (mvT hZ wd) (hnf _ hZ) (mvT hZ wse) (mvT hZ win) hy (backOfS hM hZ wc wi hfr hlo) qa qc (g := mkF m pc Ls (argsL.reverse ++ .ref b :: rest)) rfl (by show Ls.size = _; rw [hsz, C.2.2.1]) (Steps.refl _) (argsL := argsL) (rest := rest) (lenOf hpd hlen) rfl (by show 2 * 0 + _ ≤ _; omega) (hb C.2.1 hd) (fun _ _ => ⟨rfl, eT, hce, hsl⟩)
  dsimp only [Pt.U, Pt.locs, Pt.cells, Pt.slots] at X' q1 q2 q3 hq hgr hS' st'
  subst q1 q2 q3
  have hS1 : s.Since T'.vm T'.heap.size := foldS hS (by rw [eT]; exact hk) hS' hgr
  obtain ⟨s₂, o, st₂, r⟩ := hr T'.vm T'.heap.size v _ L hq ⟨C.1, C.2.1, C.2.2.1, C.2.2.2.1, by rw [show (s.setVm T'.vm).vm = T'.vm from rfl, hS'.1.alike.findClass]; exact C.2.2.2.2.1, State.Warmed39.trans (t := s.setVm vm0) C.2.2.2.2.2.1 hS'.1, C.2.2.2.2.2.2.1, C.2.2.2.2.2.2.2.1, fe_since hS1⟩ hS1 (Nat.le_refl _) (by rw [← eT]; exact hgr) T' X' rfl
  exact ⟨s₂, o, st'.trans st₂, r⟩
end Steps
/-! ## what the case says of a constant -/
theorem Ext.refl (h : Heap) : Ext h h := ⟨Nat.le_refl _, fun _ _ q => q⟩
theorem sta_of {s : State} {args : Array Value} {C n d K : String} (hx : (Cond.exactly (.static C n d) K).value args s none s [] = some true) (wi : (Cond.initialized C).before args s = true) (wl : (Cond.laysStatic C n d).before args s = true) : ∃ a, (Term.static C n d).eval args s none [] s = some (.ref a) ∧ Sta s s.heap C n d (.ref a) ∧ Exa s s.heap a K := by
  obtain ⟨a, ev⟩ := exa_v hx
  exact ⟨a, ev, Sta.start ev (Or.inr ⟨wi, wl⟩), Exa.start ev hx⟩
theorem fld_of {s : State} {args : Array Value} {t : Term} {a : Addr} {C n d : String} {k : Int32} (ev : t.eval args s none [] s = some (.ref a)) (hx : (Cond.eq (.field t C n d) (.int k)).value args s none s [] = some true) : Fld s s.heap a C n d (.int k) := by
  obtain ⟨x, y, h1, h2, -, -⟩ := cmp_v (Or.inl hx)
  have h2' : y = .int k := (Option.some.inj h2).symm
  subst h2'
  have h3 : x = .int k := by
    cases x <;> simp [Cond.value, h1, h2] at hx
    · rw [hx]
  subst h3
  rw [fld_at ev] at h1
  exact Fld.start h1
theorem eq_int {s : State} {args : Array Value} {t : Term} {k : Int32} (hx : (Cond.eq t (.int k)).value args s none s [] = some true) : t.eval args s none [] s = some (.int k) := by
  obtain ⟨x, y, h1, h2, -, -⟩ := cmp_v (Or.inl hx)
  have h2' : y = .int k := (Option.some.inj h2).symm
  subst h2'
  have h3 : x = .int k := by
    cases x <;> simp [Cond.value, h1, h2] at hx
    · rw [hx]
  rw [h1, h3]
theorem sta_arr {s : State} {args : Array Value} {C n d : String} {ty : FieldType} (hx : (Cond.arrayOf (.static C n d) ty).value args s none s [] = some true) (wi : (Cond.initialized C).before args s = true) (wl : (Cond.laysStatic C n d).before args s = true) : ∃ a cl, (Term.static C n d).eval args s none [] s = some (.ref a) ∧ Sta s s.heap C n d (.ref a) ∧ Arr s s.heap a cl ty := by
  obtain ⟨a, ev⟩ := arr_v hx
  obtain ⟨cl, A⟩ := Arr.start ev hx
  exact ⟨a, cl, ev, Sta.start ev (Or.inr ⟨wi, wl⟩), A⟩
theorem arr_len {s : State} {args : Array Value} {t : Term} {a : Addr} {cl : Cell} {ty : FieldType} {n : Nat} (hn : n < 2 ^ 31) (ev : t.eval args s none [] s = some (.ref a)) (A : Arr s s.heap a cl ty) (hx : (Cond.eq (.length t) (.int (Int32.ofNat n))).value args s none s [] = some true) : cl.slots.size = n := by
  have h5 := A.fin (Vm.Alike.refl _)
  have h7 := eq_int hx
  have h3 : cl.slots.size < 2 ^ 31 := by
    by_cases q : cl.slots.size < 2 ^ 31
    · exact q
    · simp [Term.eval, ev, h5, q] at h7
  rw [len_f ev h5 h3] at h7
  have h6 := congrArg Int32.toInt (Value.int.inj (Option.some.inj h7))
  rw [show (Int32.ofNat n).toInt = n from len_toInt hn, len_toInt h3] at h6
  omega
theorem arr_at {s : State} {args : Array Value} {t : Term} {a : Addr} {cl : Cell} {ty : FieldType} {j v : Int32} (ev : t.eval args s none [] s = some (.ref a)) (A : Arr s s.heap a cl ty) (hx : (Cond.eq (.elem t (.int j)) (.int v)).value args s none s [] = some true) : cl.slots[j.toNatClampNeg]? = some (.int v) :=
  (elem_in (eq_int hx) ev rfl A.1).2
theorem lc_self (x : Int64) : (if x < x then 1 else if x = x then 0 else -1 : Int32) = 0 := by simp
theorem lc_ge0 {x : Int64} (h : 0 ≤ x) : ¬ (if 0 < x then 1 else if x = 0 then 0 else -1 : Int32) < 0 := by
  by_cases a : 0 < x
  · rw [if_pos a]; decide
  · rw [if_neg a]
    have e : x = 0 := by
      rw [Int64.lt_iff_toInt_lt] at a; rw [Int64.le_iff_toInt_le] at h
      apply Int64.toInt_inj.mp; omega
    rw [if_pos e]; decide
end Jvm.Own
namespace Jvm.Own
open Jvm.RoadKit
theorem ofNat_inj {i j : Nat} (hi : i < 2 ^ 31) (hj : j < 2 ^ 31) (h : Int32.ofNat i = Int32.ofNat j) : i = j := by
  have q := congrArg Int32.toInt h
  rw [show (Int32.ofNat i).toInt = i from len_toInt hi, show (Int32.ofNat j).toInt = j from len_toInt hj] at q
  exact Int.ofNat.inj q
theorem rem_nat (x : Int32) (n : Nat) (h0 : 0 < n) (h1 : n < 2 ^ 31) : ∃ k : Nat, k < n ∧ (x &&& 2147483647) % (Int32.ofNat n) = Int32.ofNat k := by
  have e1 : (x &&& 2147483647).toInt = x.toInt % 2 ^ 31 := Jvm.Kit.i32_mask x 2147483647 (k := 31) (by decide) (by decide)
  have e2 : (Int32.ofNat n).toInt = n := len_toInt h1
  have e3 : ((x &&& 2147483647) % Int32.ofNat n).toInt = (x.toInt % 2 ^ 31) % n := by rw [Jvm.Kit.i32_rem_nonneg (by rw [e1]; omega), e1, e2]
  have p0 : 0 ≤ (x.toInt % 2 ^ 31) % (n : Int) := Int.emod_nonneg _ (by omega)
  have p1 : (x.toInt % 2 ^ 31) % (n : Int) < n := Int.emod_lt_of_pos _ (by omega)
  generalize (x.toInt % 2 ^ 31) % (n : Int) = z at *
  refine ⟨z.toNat, by omega, ?_⟩
  apply Int32.toInt_inj.mp
  rw [e3, show (Int32.ofNat z.toNat).toInt = (z.toNat : Int) from len_toInt (by omega)]
  omega
end Jvm.Own
namespace Jvm.Pilot.@@N@@
open Jvm Jvm.ClassFile Sem Op Lib Jvm.Free Jvm.Stand Jvm.LawKit Jvm.RoadKit Bundle Jvm.Own Jvm.Pilot.@@N@@.Jvm.D
theorem rem_cases7 (x : Int32) : (x &&& 2147483647) % 7 = 0 ∨ (x &&& 2147483647) % 7 = 1 ∨ (x &&& 2147483647) % 7 = 2 ∨ (x &&& 2147483647) % 7 = 3 ∨ (x &&& 2147483647) % 7 = 4 ∨ (x &&& 2147483647) % 7 = 5 ∨ (x &&& 2147483647) % 7 = 6 := by
  obtain ⟨k, hk, e⟩ := rem_nat x 7 (by decide) (by decide)
  match k, hk, e with
  | 0, _, e => exact Or.inl e
  | 1, _, e => exact Or.inr (Or.inl e)
  | 2, _, e => exact Or.inr (Or.inr (Or.inl e))
  | 3, _, e => exact Or.inr (Or.inr (Or.inr (Or.inl e)))
  | 4, _, e => exact Or.inr (Or.inr (Or.inr (Or.inr (Or.inl e))))
  | 5, _, e => exact Or.inr (Or.inr (Or.inr (Or.inr (Or.inr (Or.inl e)))))
  | 6, _, e => exact Or.inr (Or.inr (Or.inr (Or.inr (Or.inr (Or.inr (e))))))
  | k + 7, hk, _ => exact absurd hk (by omega)
def kidx (i : Int32) : Nat := if i = 0 then 0 else if i = 1 then 1 else if i = 2 then 2 else if i = 3 then 3 else if i = 4 then 4 else if i = 5 then 5 else 6
theorem kidx_lt (i : Int32) : kidx i < 7 := by unfold kidx; (repeat' split) <;> decide
def nmsK (k : Nat) : String := ["NOMOD", "CORE", "SYSTEM", "USER", "TMP", "LOW", "UNDEF"].getD k ""
def KsK (Z : State) (ad : Nat → Addr) : Prop := ∀ k, k < 7 → Sta Z Z.heap "com/example/riegel/riegel/label/FicLabel$Level" (nmsK k) "Lcom/example/riegel/riegel/label/FicLabel$Level;" (.ref (ad k)) ∧ Exa Z Z.heap (ad k) "com/example/riegel/riegel/label/FicLabel$Level" ∧ Fld Z Z.heap (ad k) "java/lang/Enum" "ordinal" "I" (.int (Int32.ofNat k))
theorem KsK.inj {Z : State} {ad : Nat → Addr} (K : KsK Z ad) (i j : Nat) (hi : i < 7) (hj : j < 7) : ad i = ad j ↔ i = j := by
  refine ⟨fun q => ?_, fun q => by rw [q]⟩
  by_cases u : i = j
  · exact u
  · exact absurd q (Fld.ne (K i hi).2.2 (K j hj).2.2 fun w => u (ofNat_inj (by omega) (by omega) (Value.int.inj w)))
theorem rm_ordinal_d0 : decode jdk_37_method_2_code 0 = .ok (.aload_n 0, 1) := by decide +kernel
theorem rm_ordinal_d1 : decode jdk_37_method_2_code 1 = .ok (.getfield 7, 3) := by decide +kernel
theorem rm_ordinal_d4 : decode jdk_37_method_2_code 4 = .ok (.ireturn, 1) := by decide +kernel
theorem pn_java_lang_Enum : plainName "java/lang/Enum" = true := by first | (simp [plainName, overriddenIn]; done) | decide +kernel
set_option maxRecDepth 65536 in
set_option maxHeartbeats 40000000 in
theorem rm_ordinal (l : Launch) (Z : State) (a0 : Array Value) (hw : ∀ d ∈ tables_1, d.before a0 Z = true) (ad : Nat → Addr) (K : KsK Z ad) (j : Nat) (hj : j < 7) (h0 : Heap) (E : Ext Z.heap h0) :
    Met0 l Z (⟨"java/lang/Enum", "ordinal", "()I"⟩ : MethodName) [] jdk_37_method_2_code 1 (some .int) ({ frames := 0, cells := 0, slots := 0, locals := 0 } : Room) #[(.ref (ad j))] h0 (fun v h L => v = some (.int (Int32.ofNat j)) ∧ h0 = h ∧ L = []) := by
  refine Met0.of_walk (plainFor_of_name pn_java_lang_Enum) (Ls := #[.val (.ref (ad j))]) (fun m => by first | rfl | (simp [entryFrame, mkF, argsToLocals, Value.category]; done)) ?_
  intro p e s m below meth c C
  refine aloadN C rm_ordinal_d0 (pc' := 1) rfl rfl rfl ?_
  refine getF_ C (hw _ (List.mem_of_getElem? (i := 31) rfl)) Via.refl ((K j hj).2.2.ext E) rm_ordinal_d1 (pc' := 4) rfl ?_
  exact ret_I C rm_ordinal_d4 rfl (by decide) (by decide) ⟨rfl, rfl, rfl⟩
theorem pd_0 : parseMethodDescriptor "()I" = some ⟨[], some .int⟩ := by decide +kernel
theorem rm_isHigherThan_d0 : decode prog_13_method_4_code 0 = .ok (.aload_n 0, 1) := by decide +kernel
theorem rm_isHigherThan_d1 : decode prog_13_method_4_code 1 = .ok (.invokevirtual 44, 3) := by decide +kernel
theorem rm_isHigherThan_d4 : decode prog_13_method_4_code 4 = .ok (.aload_n 1, 1) := by decide +kernel
theorem rm_isHigherThan_d5 : decode prog_13_method_4_code 5 = .ok (.invokevirtual 44, 3) := by decide +kernel
theorem rm_isHigherThan_d8 : decode prog_13_method_4_code 8 = .ok (.if_icmp .ge 7, 3) := by decide +kernel
theorem rm_isHigherThan_d11 : decode prog_13_method_4_code 11 = .ok (.iconst 1, 1) := by decide +kernel
theorem rm_isHigherThan_d12 : decode prog_13_method_4_code 12 = .ok (.goto 4, 3) := by decide +kernel
theorem rm_isHigherThan_d15 : decode prog_13_method_4_code 15 = .ok (.iconst 0, 1) := by decide +kernel
theorem rm_isHigherThan_d16 : decode prog_13_method_4_code 16 = .ok (.ireturn, 1) := by decide +kernel
theorem pn_com_example_riegel_riegel_label_FicLabel_Level : plainName "com/example/riegel/riegel/label/FicLabel$Level" = true := by first | (simp [plainName, overriddenIn]; done) | decide +kernel
set_option maxRecDepth 65536 in
set_option maxHeartbeats 40000000 in
theorem rm_isHigherThan (l : Launch) (Z : State) (a0 : Array Value) (hw : ∀ d ∈ tables_1, d.before a0 Z = true) (ad : Nat → Addr) (K : KsK Z ad) (i j : Nat) (hi : i < 7) (hj : j < 7) (h0 : Heap) (E : Ext Z.heap h0) :
    Met0 l Z (⟨"com/example/riegel/riegel/label/FicLabel$Level", "isHigherThan", "(Lcom/example/riegel/riegel/label/FicLabel$Level;)Z"⟩ : MethodName) [] prog_13_method_4_code 2 (some .boolean) ({ frames := 1, cells := 0, slots := 0, locals := 13 } : Room) #[(.ref (ad i)), (.ref (ad j))] h0 (fun v h L => v = some (.int (if Int32.ofNat i < Int32.ofNat j then 1 else 0)) ∧ h0 = h ∧ L = []) := by
  refine Met0.of_walk (plainFor_of_name pn_com_example_riegel_riegel_label_FicLabel_Level) (Ls := #[.val (.ref (ad i)), .val (.ref (ad j))]) (fun m => by first | rfl | (simp [entryFrame, mkF, argsToLocals, Value.category]; done)) ?_
  intro p e s m below meth c C
  refine aloadN C rm_isHigherThan_d0 (pc' := 1) rfl rfl rfl ?_
  refine callUp_ C (y := (⟨"com/example/riegel/riegel/label/FicLabel$Level", "ordinal", "()I"⟩ : MethodName)) (z := (⟨"java/lang/Enum", "ordinal", "()I"⟩ : MethodName)) (owner := "java/lang/Enum") (hw _ (List.mem_of_getElem? (i := 24) rfl)) (hw _ (List.mem_of_getElem? (i := 25) rfl)) (hw _ (List.mem_of_getElem? (i := 26) rfl)) (hw _ (List.mem_of_getElem? (i := 28) rfl)) (hw _ (List.mem_of_getElem? (i := 27) rfl)) (hw _ (List.mem_of_getElem? (i := 29) rfl)) (hw _ (List.mem_of_getElem? (i := 30) rfl)) (by decide) ((K i hi).2.1.ext E) pd_0 [] [] rfl rfl (W := 0) rfl (by decide) (by decide) (by decide) (by decide) (rm_ordinal l Z a0 hw ad K i hi h0 E) rfl rm_isHigherThan_d1 (pc' := 4) rfl ?_
  rintro _ _ _ ⟨rfl, rfl, rfl⟩
  show Wk p l e _ _ m _ below meth c _ _ _ _ _ _ (mkF m 4 #[.val (.ref (ad i)), .val (.ref (ad j))] [(.int (Int32.ofNat i))])
  refine aloadN C rm_isHigherThan_d4 (pc' := 5) rfl rfl rfl ?_
  refine callUp_ C (y := (⟨"com/example/riegel/riegel/label/FicLabel$Level", "ordinal", "()I"⟩ : MethodName)) (z := (⟨"java/lang/Enum", "ordinal", "()I"⟩ : MethodName)) (owner := "java/lang/Enum") (hw _ (List.mem_of_getElem? (i := 24) rfl)) (hw _ (List.mem_of_getElem? (i := 25) rfl)) (hw _ (List.mem_of_getElem? (i := 26) rfl)) (hw _ (List.mem_of_getElem? (i := 28) rfl)) (hw _ (List.mem_of_getElem? (i := 27) rfl)) (hw _ (List.mem_of_getElem? (i := 29) rfl)) (hw _ (List.mem_of_getElem? (i := 30) rfl)) (by decide) ((K j hj).2.1.ext E) pd_0 [] [(.int (Int32.ofNat i))] rfl rfl (W := 1) rfl (by decide) (by decide) (by decide) (by decide) (rm_ordinal l Z a0 hw ad K j hj h0 E) rfl rm_isHigherThan_d5 (pc' := 8) rfl ?_
  rintro _ _ _ ⟨rfl, rfl, rfl⟩
  show Wk p l e _ _ m _ below meth c _ _ _ _ _ _ (mkF m 8 #[.val (.ref (ad i)), .val (.ref (ad j))] [(.int (Int32.ofNat j)), (.int (Int32.ofNat i))])
  refine icmp_ge C 15 11 rm_isHigherThan_d8 (by decide) rfl rfl (fun q8 => ?_) (fun q8 => ?_)
  · skip
    refine iconst C rm_isHigherThan_d15 (pc' := 16) rfl (v := 0) rfl ?_
    exact ret_Z C rm_isHigherThan_d16 rfl (by decide) (by decide) (by decide) ⟨by simp [q8], rfl, rfl⟩
  · skip
    refine iconst C rm_isHigherThan_d11 (pc' := 12) rfl (v := 1) rfl ?_
    refine goto_ C rm_isHigherThan_d12 (by decide) (pc' := 16) rfl ?_
    exact ret_Z C rm_isHigherThan_d16 rfl (by decide) (by decide) (by decide) ⟨by simp [q8], rfl, rfl⟩
theorem pd_1 : parseMethodDescriptor "(Lcom/example/riegel/riegel/label/FicLabel$Level;)Z" = some ⟨[(.object "com/example/riegel/riegel/label/FicLabel$Level")], some .boolean⟩ := by decide +kernel
theorem pn_com_example_riegel_riegel_label_LevelIsHigherThanPinLaw : plainName "com/example/riegel/riegel/label/LevelIsHigherThanPinLaw" = true := by first | (simp [plainName, overriddenIn]; done) | decide +kernel
set_option maxRecDepth 65536 in
set_option maxHeartbeats 40000000 in
theorem rm0 (l : Launch) (Z : State) (a0 : Array Value) (hw : ∀ d ∈ tables_1, d.before a0 Z = true) (ad : Nat → Addr) (K : KsK Z ad) (xa xb i j : Int32) (hi : (xa &&& 2147483647) % 7 = i) (hj : (xb &&& 2147483647) % 7 = j) (hc : i = 0 ∨ i = 1 ∨ i = 2 ∨ i = 3 ∨ i = 4 ∨ i = 5 ∨ i = 6) (hc2 : j = 0 ∨ j = 1 ∨ j = 2 ∨ j = 3 ∨ j = 4 ∨ j = 5 ∨ j = 6) (h0 : Heap) (eh : h0 = Z.heap) :
    Met0 l Z x tables_1 code maxLocals ret room_1 #[(.int xa), (.int xb)] h0 (fun v _ L => v = some (.int 1) ∧ Fr Z.heap.size L) := by
  subst eh
  have O := Old.start Z
  have N := Fr.nil Z.heap.size
  refine Met0.of_walk (plainFor_of_name pn_com_example_riegel_riegel_label_LevelIsHigherThanPinLaw) (Ls := #[.val (.int xa), .val (.int xb), .unset, .unset, .unset, .unset]) (fun m => by first | rfl | (simp [entryFrame, mkF, argsToLocals, Value.category, maxLocals]; done)) ?_
  intro p e s m below meth c C
  refine bipush C at_0 (pc' := 2) rfl (v := 7) rfl ?_
  refine newR_ C (hw _ (List.mem_of_getElem? (i := 0) rfl)) (hw _ (List.mem_of_getElem? (i := 1) rfl)) at_2 (pc' := 5) rfl (by decide) (cap := 7) (by decide) (by decide) (by decide) (by decide) ?_
  intro h1 cA1 b1 g1 E1 A1 V1
  have O1 := O.ext E1
  have ge1 : Z.heap.size ≤ b1 := by rw [g1]; exact O.2.1
  replace A1 : Arv Z h1 b1 cA1 (.object "com/example/riegel/riegel/label/FicLabel$Level") 7 [.null, .null, .null, .null, .null, .null, .null] (defaultValue (.object "com/example/riegel/riegel/label/FicLabel$Level")) := A1.pad (pad_rep [] _ 7)
  refine dup C at_5 (pc' := 6) rfl rfl ?_
  refine iconst C at_6 (pc' := 7) rfl (v := 0) rfl ?_
  refine getS_ C (hw _ (List.mem_of_getElem? (i := 2) rfl)) ((K 0 (by decide)).1.ext O1.2) at_7 (pc' := 10) rfl ?_
  refine stR_ C A1 V1 (Ins.self ((K 0 (by decide)).2.1.ext O1.2)) (by decide) 0 rfl (Nat.le_of_ble_eq_true rfl) at_10 (pc' := 11) rfl ?_
  intro h2 W2 A2'
  have A2 : Arv Z h2 b1 cA1 (.object "com/example/riegel/riegel/label/FicLabel$Level") 7 [.ref (ad 0), .null, .null, .null, .null, .null, .null] (defaultValue (.object "com/example/riegel/riegel/label/FicLabel$Level")) := A2'
  have O2 := O1.wr W2 ge1
  have N2 := Fr.put (i := (0 : Int32).toNatClampNeg) N ge1
  refine dup C at_11 (pc' := 12) rfl rfl ?_
  refine iconst C at_12 (pc' := 13) rfl (v := 1) rfl ?_
  refine getS_ C (hw _ (List.mem_of_getElem? (i := 6) rfl)) ((K 1 (by decide)).1.ext O2.2) at_13 (pc' := 16) rfl ?_
  refine stR_ C A2 V1 (Ins.self ((K 1 (by decide)).2.1.ext O2.2)) (by decide) 1 rfl (Nat.le_of_ble_eq_true rfl) at_16 (pc' := 17) rfl ?_
  intro h3 W3 A3'
  have A3 : Arv Z h3 b1 cA1 (.object "com/example/riegel/riegel/label/FicLabel$Level") 7 [.ref (ad 0), .ref (ad 1), .null, .null, .null, .null, .null] (defaultValue (.object "com/example/riegel/riegel/label/FicLabel$Level")) := A3'
  have O3 := O2.wr W3 ge1
  have N3 := Fr.put (i := (1 : Int32).toNatClampNeg) N2 ge1
  refine dup C at_17 (pc' := 18) rfl rfl ?_
  refine iconst C at_18 (pc' := 19) rfl (v := 2) rfl ?_
  refine getS_ C (hw _ (List.mem_of_getElem? (i := 8) rfl)) ((K 2 (by decide)).1.ext O3.2) at_19 (pc' := 22) rfl ?_
  refine stR_ C A3 V1 (Ins.self ((K 2 (by decide)).2.1.ext O3.2)) (by decide) 2 rfl (Nat.le_of_ble_eq_true rfl) at_22 (pc' := 23) rfl ?_
  intro h4 W4 A4'
  have A4 : Arv Z h4 b1 cA1 (.object "com/example/riegel/riegel/label/FicLabel$Level") 7 [.ref (ad 0), .ref (ad 1), .ref (ad 2), .null, .null, .null, .null] (defaultValue (.object "com/example/riegel/riegel/label/FicLabel$Level")) := A4'
  have O4 := O3.wr W4 ge1
  have N4 := Fr.put (i := (2 : Int32).toNatClampNeg) N3 ge1
  refine dup C at_23 (pc' := 24) rfl rfl ?_
  refine iconst C at_24 (pc' := 25) rfl (v := 3) rfl ?_
  refine getS_ C (hw _ (List.mem_of_getElem? (i := 10) rfl)) ((K 3 (by decide)).1.ext O4.2) at_25 (pc' := 28) rfl ?_
  refine stR_ C A4 V1 (Ins.self ((K 3 (by decide)).2.1.ext O4.2)) (by decide) 3 rfl (Nat.le_of_ble_eq_true rfl) at_28 (pc' := 29) rfl ?_
  intro h5 W5 A5'
  have A5 : Arv Z h5 b1 cA1 (.object "com/example/riegel/riegel/label/FicLabel$Level") 7 [.ref (ad 0), .ref (ad 1), .ref (ad 2), .ref (ad 3), .null, .null, .null] (defaultValue (.object "com/example/riegel/riegel/label/FicLabel$Level")) := A5'
  have O5 := O4.wr W5 ge1
  have N5 := Fr.put (i := (3 : Int32).toNatClampNeg) N4 ge1
  refine dup C at_29 (pc' := 30) rfl rfl ?_
  refine iconst C at_30 (pc' := 31) rfl (v := 4) rfl ?_
  refine getS_ C (hw _ (List.mem_of_getElem? (i := 12) rfl)) ((K 4 (by decide)).1.ext O5.2) at_31 (pc' := 34) rfl ?_
  refine stR_ C A5 V1 (Ins.self ((K 4 (by decide)).2.1.ext O5.2)) (by decide) 4 rfl (Nat.le_of_ble_eq_true rfl) at_34 (pc' := 35) rfl ?_
  intro h6 W6 A6'
  have A6 : Arv Z h6 b1 cA1 (.object "com/example/riegel/riegel/label/FicLabel$Level") 7 [.ref (ad 0), .ref (ad 1), .ref (ad 2), .ref (ad 3), .ref (ad 4), .null, .null] (defaultValue (.object "com/example/riegel/riegel/label/FicLabel$Level")) := A6'
  have O6 := O5.wr W6 ge1
  have N6 := Fr.put (i := (4 : Int32).toNatClampNeg) N5 ge1
  refine dup C at_35 (pc' := 36) rfl rfl ?_
  refine iconst C at_36 (pc' := 37) rfl (v := 5) rfl ?_
  refine getS_ C (hw _ (List.mem_of_getElem? (i := 14) rfl)) ((K 5 (by decide)).1.ext O6.2) at_37 (pc' := 40) rfl ?_
  refine stR_ C A6 V1 (Ins.self ((K 5 (by decide)).2.1.ext O6.2)) (by decide) 5 rfl (Nat.le_of_ble_eq_true rfl) at_40 (pc' := 41) rfl ?_
  intro h7 W7 A7'
  have A7 : Arv Z h7 b1 cA1 (.object "com/example/riegel/riegel/label/FicLabel$Level") 7 [.ref (ad 0), .ref (ad 1), .ref (ad 2), .ref (ad 3), .ref (ad 4), .ref (ad 5), .null] (defaultValue (.object "com/example/riegel/riegel/label/FicLabel$Level")) := A7'
  have O7 := O6.wr W7 ge1
  have N7 := Fr.put (i := (5 : Int32).toNatClampNeg) N6 ge1
  refine dup C at_41 (pc' := 42) rfl rfl ?_
  refine bipush C at_42 (pc' := 44) rfl (v := 6) rfl ?_
  refine getS_ C (hw _ (List.mem_of_getElem? (i := 16) rfl)) ((K 6 (by decide)).1.ext O7.2) at_44 (pc' := 47) rfl ?_
  refine stR_ C A7 V1 (Ins.self ((K 6 (by decide)).2.1.ext O7.2)) (by decide) 6 rfl (Nat.le_of_ble_eq_true rfl) at_47 (pc' := 48) rfl ?_
  intro h8 W8 A8'
  have A8 : Arv Z h8 b1 cA1 (.object "com/example/riegel/riegel/label/FicLabel$Level") 7 [.ref (ad 0), .ref (ad 1), .ref (ad 2), .ref (ad 3), .ref (ad 4), .ref (ad 5), .ref (ad 6)] (defaultValue (.object "com/example/riegel/riegel/label/FicLabel$Level")) := A8'
  have O8 := O7.wr W8 ge1
  have N8 := Fr.put (i := (6 : Int32).toNatClampNeg) N7 ge1
  refine astoreN C at_48 (pc' := 49) rfl rfl (Ls' := #[.val (.int xa), .val (.int xb), .val (.ref b1), .unset, .unset, .unset]) rfl ?_
  refine iloadN C at_49 (pc' := 50) rfl rfl ?_
  refine ldcInt C (hw _ (List.mem_of_getElem? (i := 18) rfl)) at_50 (pc' := 52) rfl ?_
  refine iand C at_52 (pc' := 53) rfl ?_
  refine bipush C at_53 (pc' := 55) rfl (v := 7) rfl ?_
  refine irem C at_55 (pc' := 56) rfl (by decide) ?_
  rw [hi]
  refine istoreN C at_56 (pc' := 57) rfl (Ls' := #[.val (.int xa), .val (.int xb), .val (.ref b1), .val (.int i), .unset, .unset]) rfl ?_
  refine iloadN C at_57 (pc' := 58) rfl rfl ?_
  refine ldcInt C (hw _ (List.mem_of_getElem? (i := 18) rfl)) at_58 (pc' := 60) rfl ?_
  refine iand C at_60 (pc' := 61) rfl ?_
  refine bipush C at_61 (pc' := 63) rfl (v := 7) rfl ?_
  refine irem C at_63 (pc' := 64) rfl (by decide) ?_
  rw [hj]
  refine istore C at_64 (pc' := 66) rfl (Ls' := #[.val (.int xa), .val (.int xb), .val (.ref b1), .val (.int i), .val (.int j), .unset]) rfl ?_
  refine aloadN C at_66 (pc' := 67) rfl rfl rfl ?_
  refine iloadN C at_67 (pc' := 68) rfl rfl ?_
  obtain ⟨cl9, B9, -, S9, N9, H9, G9⟩ := id A8
  have hin9 := inb_of (j := i) S9 (by rcases hc with rfl | rfl | rfl | rfl | rfl | rfl | rfl <;> decide)
  refine ldA_ C (v := .ref (ad (kidx i))) B9 rfl hin9 (Has.at H9 hin9 (by rcases hc with rfl | rfl | rfl | rfl | rfl | rfl | rfl <;> rfl)) at_68 (pc' := 69) rfl ?_
  refine aloadN C at_69 (pc' := 70) rfl rfl rfl ?_
  refine iload C at_70 (pc' := 72) rfl rfl ?_
  obtain ⟨cl10, B10, -, S10, N10, H10, G10⟩ := id A8
  have hin10 := inb_of (j := j) S10 (by rcases hc2 with rfl | rfl | rfl | rfl | rfl | rfl | rfl <;> decide)
  refine ldA_ C (v := .ref (ad (kidx j))) B10 rfl hin10 (Has.at H10 hin10 (by rcases hc2 with rfl | rfl | rfl | rfl | rfl | rfl | rfl <;> rfl)) at_72 (pc' := 73) rfl ?_
  refine callV_ C (y := (⟨"com/example/riegel/riegel/label/FicLabel$Level", "isHigherThan", "(Lcom/example/riegel/riegel/label/FicLabel$Level;)Z"⟩ : MethodName)) (z := (⟨"com/example/riegel/riegel/label/FicLabel$Level", "isHigherThan", "(Lcom/example/riegel/riegel/label/FicLabel$Level;)Z"⟩ : MethodName)) (hw _ (List.mem_of_getElem? (i := 19) rfl)) (hw _ (List.mem_of_getElem? (i := 20) rfl)) (nf_sel (hw _ (List.mem_of_getElem? (i := 22) rfl))) (hw _ (List.mem_of_getElem? (i := 22) rfl)) (hw _ (List.mem_of_getElem? (i := 21) rfl)) (hw _ (List.mem_of_getElem? (i := 3) rfl)) (hw _ (List.mem_of_getElem? (i := 23) rfl)) (by decide) ((K _ (kidx_lt i)).2.1.ext O8.2) pd_1 [(.ref (ad (kidx j)))] [] rfl rfl (W := 0) rfl (by decide) (by decide) (by decide) (by decide) (rm_isHigherThan l Z a0 hw ad K (kidx i) (kidx j) (kidx_lt i) (kidx_lt j) h8 O8.2) rfl at_73 (pc' := 76) rfl ?_
  rintro _ _ _ ⟨rfl, rfl, rfl⟩
  show Wk p l e _ _ m _ below meth c _ _ _ _ _ _ (mkF m 76 #[.val (.int xa), .val (.int xb), .val (.ref b1), .val (.int i), .val (.int j), .unset] [(.int (if Int32.ofNat (kidx i) < Int32.ofNat (kidx j) then 1 else 0))])
  rw [List.append_nil]
  refine istore C at_76 (pc' := 78) rfl (Ls' := #[.val (.int xa), .val (.int xb), .val (.ref b1), .val (.int i), .val (.int j), .val (.int (if Int32.ofNat (kidx i) < Int32.ofNat (kidx j) then 1 else 0))]) rfl ?_
  refine iload C at_78 (pc' := 80) rfl rfl ?_
  refine iloadN C at_80 (pc' := 81) rfl rfl ?_
  refine iload C at_81 (pc' := 83) rfl rfl ?_
  refine icmp_ge C 90 86 at_83 (by decide) rfl rfl (fun q83 => ?_) (fun q83 => ?_)
  · skip
    refine iconst C at_90 (pc' := 91) rfl (v := 0) rfl ?_
    refine icmp_ne C 98 94 at_91 (by decide) rfl rfl (fun q91 => ?_) (fun q91 => ?_)
    · skip
      refine iconst C at_98 (pc' := 99) rfl (v := 0) rfl ?_
      exfalso; revert q83 q91; clear C; rcases hc with rfl | rfl | rfl | rfl | rfl | rfl | rfl <;> rcases hc2 with rfl | rfl | rfl | rfl | rfl | rfl | rfl <;> simp [kidx]
    · skip
      refine iconst C at_94 (pc' := 95) rfl (v := 1) rfl ?_
      refine goto_ C at_95 (by decide) (pc' := 99) rfl ?_
      exact ret_Z C at_99 rfl (by decide) (by decide) (by decide) ⟨rfl, N8⟩
  · skip
    refine iconst C at_86 (pc' := 87) rfl (v := 1) rfl ?_
    refine goto_ C at_87 (by decide) (pc' := 91) rfl ?_
    refine icmp_ne C 98 94 at_91 (by decide) rfl rfl (fun q91 => ?_) (fun q91 => ?_)
    · skip
      refine iconst C at_98 (pc' := 99) rfl (v := 0) rfl ?_
      exfalso; revert q83 q91; clear C; rcases hc with rfl | rfl | rfl | rfl | rfl | rfl | rfl <;> rcases hc2 with rfl | rfl | rfl | rfl | rfl | rfl | rfl <;> simp [kidx]
    · skip
      refine iconst C at_94 (pc' := 95) rfl (v := 1) rfl ?_
      refine goto_ C at_95 (by decide) (pc' := 99) rfl ?_
      exact ret_Z C at_99 rfl (by decide) (by decide) (by decide) ⟨rfl, N8⟩
set_option maxRecDepth 65536 in
set_option maxHeartbeats 40000000 in
theorem comes_1 {Post : Tables → Env → Array Value → State → Outcome → State → Prop} (hpost : ∀ tb e args s v u, (limb_1_1.after args s (.returned v) u = true ∧ limb_1_2.after args s (.returned v) u = true ∧ True) → FrameEnd s (.returned v) u (Jvm.fieldLocs frame_1_writes args s ++ Jvm.arrayLocs frame_1_arrays args s ++ Jvm.staticLocs frame_1_statics s) 16 128 → Post tb e args s (.returned v) u) :
    ArmFor flags0 classFile x code maxLocals ret World_1 tables_1 room_1 Calls_1 rest_1 Pre_1 Post := by
  intro l hfl _ _ p e ha hc hk s m args below hf hA hF happ hP
  obtain ⟨hcalls, hrest, hpre⟩ := hP
  obtain ⟨-, -, -, hnamed, -, -, -, hat⟩ := (Spec.applies_iff hf).mp happ
  obtain ⟨hg, hn⟩ := and_e (Cond.before_iff.mp (show (Jvm.Cond.and given_1 narrow_1).before args s = true from hpre))
  obtain ⟨u1, w1_⟩ := and_e hg
  obtain ⟨u2, w2_⟩ := and_e w1_
  obtain ⟨u3, w3_⟩ := and_e hn
  obtain ⟨u4, w4_⟩ := and_e w3_
  obtain ⟨u5, w5_⟩ := and_e w4_
  obtain ⟨u6, w6_⟩ := and_e w5_
  obtain ⟨u7, w7_⟩ := and_e w6_
  obtain ⟨u8, w8_⟩ := and_e w7_
  obtain ⟨u9, w9_⟩ := and_e w8_
  obtain ⟨u10, w10_⟩ := and_e w9_
  obtain ⟨u11, w11_⟩ := and_e w10_
  obtain ⟨u12, w12_⟩ := and_e w11_
  obtain ⟨u13, w13_⟩ := and_e w12_
  obtain ⟨u14, w14_⟩ := and_e w13_
  obtain ⟨u15, w15_⟩ := and_e w14_
  obtain ⟨v0, v1, rfl⟩ : ∃ v0 v1 : Value, args = #[v0, v1] := by
    have hs : args.size = 2 := by simpa [Cond.value, given_1] using u1
    obtain ⟨L⟩ := args
    match L, hs with
    | [v0, v1], _ => exact ⟨v0, v1, rfl⟩
  have hw := fun d (hd : d ∈ tables_1) => atoms_spec (ws := Jvm.Cond.code x code maxLocals ret :: tables_1) hat d (List.mem_cons_of_mem _ hd)
  have hfit : Fit s := fun {y c} hc i hi => by
    obtain ⟨ha, rfl⟩ := Array.getElem?_eq_some_iff.mp hc
    have q := List.all_eq_true.mp ((Array.all_eq_true_iff_forall_mem.mp hF) _ (Array.getElem_mem ha)) i (List.mem_range.mpr hi)
    simpa [Array.getElem?_eq_getElem hi] using q
  obtain ⟨i0, ei0⟩ := is_v u2
  obtain rfl : v0 = (.int i0) := Option.some.inj ei0
  obtain ⟨i1, ei1⟩ := is_v w2_
  obtain rfl : v1 = (.int i1) := Option.some.inj ei1
  obtain ⟨ad_NOMOD, ev_NOMOD, S_NOMOD, E_NOMOD⟩ := sta_of u3 (hw _ (List.mem_of_getElem? (i := 3) rfl)) (hw _ (List.mem_of_getElem? (i := 4) rfl))
  obtain ⟨ad_CORE, ev_CORE, S_CORE, E_CORE⟩ := sta_of u4 (hw _ (List.mem_of_getElem? (i := 3) rfl)) (hw _ (List.mem_of_getElem? (i := 7) rfl))
  obtain ⟨ad_SYSTEM, ev_SYSTEM, S_SYSTEM, E_SYSTEM⟩ := sta_of u5 (hw _ (List.mem_of_getElem? (i := 3) rfl)) (hw _ (List.mem_of_getElem? (i := 9) rfl))
  obtain ⟨ad_USER, ev_USER, S_USER, E_USER⟩ := sta_of u6 (hw _ (List.mem_of_getElem? (i := 3) rfl)) (hw _ (List.mem_of_getElem? (i := 11) rfl))
  obtain ⟨ad_TMP, ev_TMP, S_TMP, E_TMP⟩ := sta_of u7 (hw _ (List.mem_of_getElem? (i := 3) rfl)) (hw _ (List.mem_of_getElem? (i := 13) rfl))
  obtain ⟨ad_LOW, ev_LOW, S_LOW, E_LOW⟩ := sta_of u8 (hw _ (List.mem_of_getElem? (i := 3) rfl)) (hw _ (List.mem_of_getElem? (i := 15) rfl))
  obtain ⟨ad_UNDEF, ev_UNDEF, S_UNDEF, E_UNDEF⟩ := sta_of u9 (hw _ (List.mem_of_getElem? (i := 3) rfl)) (hw _ (List.mem_of_getElem? (i := 17) rfl))
  have F_ordinal_NOMOD := fld_of ev_NOMOD u10
  have F_ordinal_USER := fld_of ev_USER u11
  have F_ordinal_CORE := fld_of ev_CORE u12
  have F_ordinal_LOW := fld_of ev_LOW u13
  have F_ordinal_SYSTEM := fld_of ev_SYSTEM u14
  have F_ordinal_TMP := fld_of ev_TMP u15
  have F_ordinal_UNDEF := fld_of ev_UNDEF w15_
  have K : KsK s (fun k => [ad_NOMOD, ad_CORE, ad_SYSTEM, ad_USER, ad_TMP, ad_LOW, ad_UNDEF].getD k 0) := fun k hk => by
    match k, hk with
    | 0, _ => exact ⟨S_NOMOD, E_NOMOD, F_ordinal_NOMOD⟩
    | 1, _ => exact ⟨S_CORE, E_CORE, F_ordinal_CORE⟩
    | 2, _ => exact ⟨S_SYSTEM, E_SYSTEM, F_ordinal_SYSTEM⟩
    | 3, _ => exact ⟨S_USER, E_USER, F_ordinal_USER⟩
    | 4, _ => exact ⟨S_TMP, E_TMP, F_ordinal_TMP⟩
    | 5, _ => exact ⟨S_LOW, E_LOW, F_ordinal_LOW⟩
    | 6, _ => exact ⟨S_UNDEF, E_UNDEF, F_ordinal_UNDEF⟩
    | k + 7, hk => exact absurd hk (by omega)
  obtain ⟨n, o, h1, h2, h3, _, L, rfl, ⟨rfl, N⟩, hq⟩ := rm0 l s _ hw _ K i0 i1 _ _ rfl rfl (rem_cases7 i0) (rem_cases7 i1) s.heap rfl p e ha hc hk s m _ below hf ((Spec.applies_iff_loose hf).mp happ).1 ⟨rfl, State.Warmed39.refl s, rfl⟩ trivial
  exact ⟨n, _, h1, h2, h3, hpost _ _ _ _ _ _ ⟨Cond.after_iff.mpr rfl, Cond.after_iff.mpr (eq_i res_at (Term.int_eval (1)) rfl), trivial⟩ ⟨hq.1, hq.2.1, (hq.2.2.sift fun y hy => Or.inr (N y hy)).mono (by decide) (by decide)⟩⟩
theorem main_1_1 : Claimed_1_1 := comes_1 fun _ _ _ _ _ _ h hF => ⟨h.1, hF⟩
theorem main_1_2 : Claimed_1_2 := comes_1 fun _ _ _ _ _ _ h hF => ⟨h.2.1, hF⟩
end Jvm.Pilot.@@N@@
namespace Jvm.Pilot.@@N@@
open Jvm Jvm.ClassFile Sem Op Lib Jvm.Free Jvm.Stand Jvm.Pilot.@@N@@.Jvm.D
/-! MADE BY PROGRAM (witnessworld.py) out of the Statement's table words and the real class files: 13 classes; the members and pool entries that the words name. The judged class is class 1, her method 1. -/
namespace start1
open Jvm.ClassFile
def u (s : String) : CpInfo := .utf8 (stringToUtf16 s)
/-- a pool by its gaps: so many unusable entries, then the entry; so many at the end -/
def gap : Nat → List CpInfo → List CpInfo
  | 0, r => r
  | n + 1, r => .unusable :: gap n r
def poolList (es : List (Nat × CpInfo)) (last : Nat) : List CpInfo := es.foldr (fun e r => gap e.1 (e.2 :: r)) (gap last [])
def pool (es : List (Nat × CpInfo)) (last : Nat) : Array CpInfo := ⟨poolList es last⟩
def fileOf (pool : Array CpInfo) (this : Nat) (attrs : Array Attribute := #[]) (ms : Array MethodInfo := #[]) (fl : Nat := 33) (sup : Nat := 0) (ifs : Array Nat := #[]) (fds : Array FieldInfo := #[]) : ClassFile where
  minorVersion := 0
  majorVersion := 65
  constantPool := pool
  accessFlags := fl
  thisClass := this
  superClass := sup
  interfaces := ifs
  fields := fds
  methods := ms
  attributes := attrs
def plain (name : String) (sup : Option ClassId) : Class where
  name := name
  kind := .ordinary
  loader := none
  accessFlags := 33
  super := sup
  interfaces := #[]
  cf := none
  fields := #[]
  methods := #[]
  instanceTypes := #[]
  staticTypes := #[]
  resolved := #[]
  callSites := []
  init := .initialized
  statics := none
  mirror := none

def pool0 : Array CpInfo := pool [(5, u "<init>"), (0, u "()V"), (1, .class_ 10), (1, u "java/lang/Object")] 113

def k0m0 : Method := { name := "<init>", desc := "()V", sig := { parameters := [], returnType := none }, accessFlags := 1, code := none }
/-- java/lang/Object -/
def k0 : Class := { plain "java/lang/Object" none with
  accessFlags := 33
  interfaces := #[]
  cf := some (fileOf pool0 8 #[] #[{ accessFlags := 1, nameIndex := 5, descriptorIndex := 6, attributes := #[] }] 33 0 #[] #[])
  fields := #[]
  methods := #[k0m0]
  instanceTypes := #[]
  staticTypes := #[]
  resolved := Array.replicate 124 none
  statics := none }

def pool1 : Array CpInfo := pool [(2, .class_ 4), (1, u "java/lang/Object"), (0, u "<init>"), (0, u "()V"), (0, .class_ 8), (0, u "com/example/riegel/riegel/label/FicLabel$Level"), (0, .fieldref 7 10), (0, .nameAndType 11 12), (0, u "NOMOD"), (0, u "Lcom/example/riegel/riegel/label/FicLabel$Level;"), (0, .fieldref 7 14), (0, .nameAndType 15 12), (0, u "CORE"), (0, .fieldref 7 17), (0, .nameAndType 18 12), (0, u "SYSTEM"), (0, .fieldref 7 20), (0, .nameAndType 21 12), (0, u "USER"), (0, .fieldref 7 23), (0, .nameAndType 24 12), (0, u "TMP"), (0, .fieldref 7 26), (0, .nameAndType 27 12), (0, u "LOW"), (0, .fieldref 7 29), (0, .nameAndType 30 12), (0, u "UNDEF"), (0, .integer 2147483647), (0, .methodref 7 33), (0, .nameAndType 34 35), (0, u "isHigherThan"), (0, u "(Lcom/example/riegel/riegel/label/FicLabel$Level;)Z"), (0, .class_ 37), (0, u "com/example/riegel/riegel/label/LevelIsHigherThanPinLaw"), (2, u "law"), (0, u "(II)Z")] 9

def k1m0 : Method := { name := "<init>", desc := "()V", sig := { parameters := [], returnType := none }, accessFlags := 1, code := none }
def k1c1 : Code := { maxStack := 4, maxLocals := 6, code := code, exceptionTable := #[], attributes := #[] }
def k1m1 : Method := { name := "law", desc := "(II)Z", sig := { parameters := [.int, .int], returnType := some .boolean }, accessFlags := 9, code := some k1c1 }
/-- com/example/riegel/riegel/label/LevelIsHigherThanPinLaw -/
def k1 : Class := { plain "com/example/riegel/riegel/label/LevelIsHigherThanPinLaw" (some 0) with
  accessFlags := 49
  interfaces := #[]
  cf := some (fileOf pool1 36 #[] #[{ accessFlags := 1, nameIndex := 5, descriptorIndex := 6, attributes := #[] }, { accessFlags := 9, nameIndex := 40, descriptorIndex := 41, attributes := #[] }] 49 2 #[] #[])
  fields := #[]
  methods := #[k1m0, k1m1]
  instanceTypes := #[]
  staticTypes := #[]
  resolved := Array.replicate 51 none
  statics := none }

def pool2 : Array CpInfo := pool [(1, .class_ 2), (0, u "java/lang/constant/Constable"), (0, .class_ 4), (0, u "java/lang/Object")] 6

/-- java/lang/constant/Constable -/
def k2 : Class := { plain "java/lang/constant/Constable" (some 0) with
  accessFlags := 1537
  interfaces := #[]
  cf := some (fileOf pool2 1 #[] #[] 1537 3 #[] #[])
  fields := #[]
  methods := #[]
  instanceTypes := #[]
  staticTypes := #[]
  resolved := Array.replicate 11 none
  statics := none }

def pool3 : Array CpInfo := pool [(1, .class_ 2), (0, u "java/lang/Comparable"), (0, .class_ 4), (0, u "java/lang/Object")] 7

/-- java/lang/Comparable -/
def k3 : Class := { plain "java/lang/Comparable" (some 0) with
  accessFlags := 1537
  interfaces := #[]
  cf := some (fileOf pool3 1 #[] #[] 1537 3 #[] #[])
  fields := #[]
  methods := #[]
  instanceTypes := #[]
  staticTypes := #[]
  resolved := Array.replicate 12 none
  statics := none }

def pool4 : Array CpInfo := pool [(1, .class_ 2), (0, u "java/io/Serializable"), (0, .class_ 4), (0, u "java/lang/Object")] 2

/-- java/io/Serializable -/
def k4 : Class := { plain "java/io/Serializable" (some 0) with
  accessFlags := 1537
  interfaces := #[]
  cf := some (fileOf pool4 1 #[] #[] 1537 3 #[] #[])
  fields := #[]
  methods := #[]
  instanceTypes := #[]
  staticTypes := #[]
  resolved := Array.replicate 7 none
  statics := none }

def pool5 : Array CpInfo := pool [(2, .class_ 4), (1, u "java/lang/Enum"), (0, u "name"), (0, u "Ljava/lang/String;"), (0, .fieldref 2 8), (0, .nameAndType 9 10), (0, u "ordinal"), (0, u "I"), (1, .class_ 14), (1, u "java/lang/Object"), (4, u "hash"), (86, .class_ 108), (1, u "java/lang/Enum$EnumDesc"), (2, .class_ 112), (0, u "java/lang/constant/Constable"), (0, .class_ 114), (0, u "java/lang/Comparable"), (0, .class_ 116), (0, u "java/io/Serializable"), (9, u "()I")] 77

def k5c0 : Code := { maxStack := 1, maxLocals := 1, code := jdk_37_method_2_code, exceptionTable := #[], attributes := #[] }
def k5m0 : Method := { name := "ordinal", desc := "()I", sig := { parameters := [], returnType := some .int }, accessFlags := 17, code := some k5c0 }
/-- java/lang/Enum -/
def k5 : Class := { plain "java/lang/Enum" (some 0) with
  accessFlags := 1057
  interfaces := #[2, 3, 4]
  cf := some (fileOf pool5 2 #[.nestMembers #[106]] #[{ accessFlags := 17, nameIndex := 9, descriptorIndex := 126, attributes := #[] }] 1057 12 #[111, 113, 115] #[{ accessFlags := 18, nameIndex := 5, descriptorIndex := 6, attributes := #[] }, { accessFlags := 18, nameIndex := 9, descriptorIndex := 10, attributes := #[] }, { accessFlags := 2, nameIndex := 19, descriptorIndex := 10, attributes := #[] }])
  fields := #[{ name := "name", type := (.object "java/lang/String"), accessFlags := 18, slot := 0, constantValue := 0 }, { name := "ordinal", type := .int, accessFlags := 18, slot := 1, constantValue := 0 }, { name := "hash", type := .int, accessFlags := 2, slot := 2, constantValue := 0 }]
  methods := #[k5m0]
  instanceTypes := #[(.object "java/lang/String"), .int, .int]
  staticTypes := #[]
  resolved := Array.replicate 204 none
  statics := none }

def pool6 : Array CpInfo := pool [(1, .class_ 2), (0, u "com/example/riegel/riegel/label/FicLabel$Level"), (2, u "NOMOD"), (0, u "Lcom/example/riegel/riegel/label/FicLabel$Level;"), (2, u "CORE"), (2, u "SYSTEM"), (2, u "USER"), (2, u "TMP"), (2, u "LOW"), (2, u "UNDEF"), (2, u "$VALUES"), (0, u "[Lcom/example/riegel/riegel/label/FicLabel$Level;"), (6, .class_ 37), (1, u "java/lang/Enum"), (6, .methodref 1 45), (0, .nameAndType 46 47), (0, u "ordinal"), (0, u "()I"), (2, u "isHigherThan"), (0, u "(Lcom/example/riegel/riegel/label/FicLabel$Level;)Z"), (27, .class_ 80), (0, u "com/example/riegel/riegel/label/FicLabel")] 2

def k6c0 : Code := { maxStack := 2, maxLocals := 2, code := prog_13_method_4_code, exceptionTable := #[], attributes := #[] }
def k6m0 : Method := { name := "isHigherThan", desc := "(Lcom/example/riegel/riegel/label/FicLabel$Level;)Z", sig := { parameters := [(.object "com/example/riegel/riegel/label/FicLabel$Level")], returnType := some .boolean }, accessFlags := 1, code := some k6c0 }
/-- com/example/riegel/riegel/label/FicLabel$Level -/
def k6 : Class := { plain "com/example/riegel/riegel/label/FicLabel$Level" (some 5) with
  accessFlags := 16433
  interfaces := #[]
  cf := some (fileOf pool6 1 #[.nestHost 79] #[{ accessFlags := 1, nameIndex := 50, descriptorIndex := 51, attributes := #[] }] 16433 35 #[] #[{ accessFlags := 16409, nameIndex := 5, descriptorIndex := 6, attributes := #[] }, { accessFlags := 16409, nameIndex := 9, descriptorIndex := 6, attributes := #[] }, { accessFlags := 16409, nameIndex := 12, descriptorIndex := 6, attributes := #[] }, { accessFlags := 16409, nameIndex := 15, descriptorIndex := 6, attributes := #[] }, { accessFlags := 16409, nameIndex := 18, descriptorIndex := 6, attributes := #[] }, { accessFlags := 16409, nameIndex := 21, descriptorIndex := 6, attributes := #[] }, { accessFlags := 16409, nameIndex := 24, descriptorIndex := 6, attributes := #[] }, { accessFlags := 4122, nameIndex := 27, descriptorIndex := 28, attributes := #[] }])
  fields := #[{ name := "NOMOD", type := (.object "com/example/riegel/riegel/label/FicLabel$Level"), accessFlags := 16409, slot := 0, constantValue := 0 }, { name := "CORE", type := (.object "com/example/riegel/riegel/label/FicLabel$Level"), accessFlags := 16409, slot := 1, constantValue := 0 }, { name := "SYSTEM", type := (.object "com/example/riegel/riegel/label/FicLabel$Level"), accessFlags := 16409, slot := 2, constantValue := 0 }, { name := "USER", type := (.object "com/example/riegel/riegel/label/FicLabel$Level"), accessFlags := 16409, slot := 3, constantValue := 0 }, { name := "TMP", type := (.object "com/example/riegel/riegel/label/FicLabel$Level"), accessFlags := 16409, slot := 4, constantValue := 0 }, { name := "LOW", type := (.object "com/example/riegel/riegel/label/FicLabel$Level"), accessFlags := 16409, slot := 5, constantValue := 0 }, { name := "UNDEF", type := (.object "com/example/riegel/riegel/label/FicLabel$Level"), accessFlags := 16409, slot := 6, constantValue := 0 }, { name := "$VALUES", type := (.array (.object "com/example/riegel/riegel/label/FicLabel$Level")), accessFlags := 4122, slot := 7, constantValue := 0 }]
  methods := #[k6m0]
  instanceTypes := #[(.object "java/lang/String"), .int, .int]
  staticTypes := #[(.object "com/example/riegel/riegel/label/FicLabel$Level"), (.object "com/example/riegel/riegel/label/FicLabel$Level"), (.object "com/example/riegel/riegel/label/FicLabel$Level"), (.object "com/example/riegel/riegel/label/FicLabel$Level"), (.object "com/example/riegel/riegel/label/FicLabel$Level"), (.object "com/example/riegel/riegel/label/FicLabel$Level"), (.object "com/example/riegel/riegel/label/FicLabel$Level"), (.array (.object "com/example/riegel/riegel/label/FicLabel$Level"))]
  resolved := Array.replicate 83 none
  statics := some 0 }

def pool7 : Array CpInfo := pool [(1, u "java/lang/Cloneable"), (0, .class_ 1), (0, u "java/lang/Object"), (0, .class_ 3)] 3

/-- java/lang/Cloneable -/
def k7 : Class := { plain "java/lang/Cloneable" (some 0) with
  accessFlags := 1537
  interfaces := #[]
  cf := some (fileOf pool7 2 #[] #[] 1537 4 #[] #[])
  fields := #[]
  methods := #[]
  instanceTypes := #[]
  staticTypes := #[]
  resolved := Array.replicate 8 none
  statics := none }

/-- the primitive byte -/
def k8 : Class := { plain "byte" none with kind := .primitive 'B', accessFlags := 0x411 }
/-- [B -/
def k9 : Class := { plain "[B" (some 0) with kind := .array 8 .byte, interfaces := #[7, 4], accessFlags := 1041 }

/-- the primitive int -/
def k10 : Class := { plain "int" none with kind := .primitive 'I', accessFlags := 0x411 }
/-- [I -/
def k11 : Class := { plain "[I" (some 0) with kind := .array 10 .int, interfaces := #[7, 4], accessFlags := 1041 }

/-- [Lcom/example/riegel/riegel/label/FicLabel$Level; -/
def k12 : Class := { plain "[Lcom/example/riegel/riegel/label/FicLabel$Level;" (some 0) with kind := .array 6 (.object "com/example/riegel/riegel/label/FicLabel$Level"), interfaces := #[7, 4], accessFlags := 1041 }

def heap : Heap := #[{ cls := 6, slots := #[.ref 1, .ref 2, .ref 3, .ref 4, .ref 5, .ref 6, .ref 7, .null], vm := .statics 6 },
  { cls := 6, slots := #[.null, .int 0, .int 0], vm := .none },
  { cls := 6, slots := #[.null, .int 1, .int 0], vm := .none },
  { cls := 6, slots := #[.null, .int 2, .int 0], vm := .none },
  { cls := 6, slots := #[.null, .int 3, .int 0], vm := .none },
  { cls := 6, slots := #[.null, .int 4, .int 0], vm := .none },
  { cls := 6, slots := #[.null, .int 5, .int 0], vm := .none },
  { cls := 6, slots := #[.null, .int 6, .int 0], vm := .none }]
def classes : Array Class := #[k0, k1, k2, k3, k4, k5, k6, k7, k8, k9, k10, k11, k12]
def interned : List (Array UInt16 × Addr) := []
def slotsUsed : Nat := 29
def theMethod : MethodId := ⟨1, 1⟩
def args0 : Array Value := #[.int 5, .int 4]
def aboutOver (below : List Frame) : State where
  vm := { classes := classes, interned := interned.toArray }
  heap := heap
  slotsUsed := slotsUsed
  threads := #[{ frames := .invoking theMethod args0 :: below }]
def below0 : List Frame := [.native { method := ⟨0, 0⟩, args := #[] }]
def about1 : State := aboutOver below0
def p0 : Program := .bare "" "" ""
def e0 : Env := launch0.env 0 0 0
theorem w_frames : about1.frames = Frame.invoking theMethod args0 :: below0 := rfl
set_option maxRecDepth 65536 in
theorem w_args : argsFit about1.vm theMethod args0 = true := by decide +kernel
set_option maxRecDepth 65536 in
theorem w_heap : heapFits about1 = true := by decide +kernel
set_option maxRecDepth 65536 in
theorem w_runnable : about1.curStatus? = some .runnable := by decide +kernel
set_option maxRecDepth 65536 in
theorem w_alone : about1.alone = true := by decide +kernel
set_option maxRecDepth 65536 in
theorem w_named : about1.methodNamed? x = some theMethod := by decide +kernel
set_option maxRecDepth 65536 in
theorem w_hears : about1.hears theMethod below0 = true := by decide +kernel
set_option maxRecDepth 65536 in
theorem w_ripe : about1.ripe theMethod args0 below0 = true := by decide +kernel
theorem w_running : about1.status = .running := rfl
set_option maxRecDepth 65536 in
theorem w_room : about1.hasRoom e0.platform room_1 = true :=
  launch0.hasRoom_least _ room_1 (by decide +kernel) (by decide +kernel) (by decide +kernel) (by decide +kernel) (by decide +kernel) (by decide +kernel)
theorem allAtoms_all (ts : List Jvm.Cond) (a : Array Jvm.Value) (st : Jvm.State) : (allAtoms ts).before a st = ts.all (fun c => c.before a st) := by
  induction ts with
  | nil => rfl
  | cons c t ih =>
    show (Jvm.Cond.and c (allAtoms t)).before a st = _
    rw [Jvm.Cond.before_and, ih, List.all_cons]
def words1 : List Jvm.Cond := Jvm.Cond.code x code maxLocals ret :: tables_1
/-- a 'code' word, met by the world's own term for the bytes: nothing is compared byte by byte -/
theorem code_word {y : MethodName} {bytes : ByteArray} {mx : Nat} {rt : Option FieldType} {a : Array Value} {s : State} {m : MethodId} {meth : Method} {c : Code} (h1 : s.methodNamed? y = some m) (h2 : s.vm.method? m = some meth) (h3 : meth.code = some c) (h4 : c.code = bytes)
    (h5 : (c.maxLocals == mx && c.exceptionTable.isEmpty && decide (c.maxStack ≤ mostOperands) && decide (meth.sig.returnType = rt) && !meth.locks && decide (parseMethodDescriptor y.desc = some meth.sig)) = true) : (Jvm.Cond.code y bytes mx rt).before a s = true := by
  simp only [Bool.and_eq_true, beq_iff_eq, Bool.not_eq_true', decide_eq_true_eq] at h5
  obtain ⟨⟨⟨⟨⟨g1, g2⟩, g3⟩, g4⟩, g5⟩, g6⟩ := h5
  simp [Cond.before, Cond.holds, Cond.value, h1, h2, h3, h4, g1, g2, g3, g4, g5, g6]
def isCode : Jvm.Cond → Bool
  | .code _ _ _ _ => true
  | _ => false
theorem all_split {L : List Jvm.Cond} {P : Jvm.Cond → Bool} (h1 : L.all (fun c => isCode c || P c) = true) (h2 : ∀ c ∈ L.filter isCode, P c = true) : L.all P = true := by
  refine List.all_eq_true.mpr fun c hc => ?_
  have h := List.all_eq_true.mp h1 c hc
  rcases Bool.eq_false_or_eq_true (isCode c) with hi | hi
  · exact h2 c (List.mem_filter.mpr ⟨hc, hi⟩)
  · simpa [hi] using h
set_option maxRecDepth 65536 in
theorem w_c0 : (Jvm.Cond.code x code maxLocals ret).before args0 about1 = true := code_word (m := ⟨1, 1⟩) (meth := k1m1) (c := k1c1) (by decide +kernel) rfl rfl rfl (by decide +kernel)
set_option maxRecDepth 65536 in
theorem w_c1 : (Jvm.Cond.code ({ cls := "com/example/riegel/riegel/label/FicLabel$Level", name := "isHigherThan", desc := "(Lcom/example/riegel/riegel/label/FicLabel$Level;)Z" } : Jvm.MethodName) prog_13_method_4_code (2 : Nat) (Option.some Jvm.ClassFile.FieldType.boolean)).before args0 about1 = true := code_word (m := ⟨6, 0⟩) (meth := k6m0) (c := k6c0) (by decide +kernel) rfl rfl rfl (by decide +kernel)
set_option maxRecDepth 65536 in
theorem w_c2 : (Jvm.Cond.code ({ cls := "java/lang/Enum", name := "ordinal", desc := "()I" } : Jvm.MethodName) jdk_37_method_2_code (1 : Nat) (Option.some Jvm.ClassFile.FieldType.int)).before args0 about1 = true := code_word (m := ⟨5, 0⟩) (meth := k5m0) (c := k5c0) (by decide +kernel) rfl rfl rfl (by decide +kernel)
def codes1 : List Jvm.Cond := [Jvm.Cond.code x code maxLocals ret, Jvm.Cond.code ({ cls := "com/example/riegel/riegel/label/FicLabel$Level", name := "isHigherThan", desc := "(Lcom/example/riegel/riegel/label/FicLabel$Level;)Z" } : Jvm.MethodName) prog_13_method_4_code (2 : Nat) (Option.some Jvm.ClassFile.FieldType.boolean), Jvm.Cond.code ({ cls := "java/lang/Enum", name := "ordinal", desc := "()I" } : Jvm.MethodName) jdk_37_method_2_code (1 : Nat) (Option.some Jvm.ClassFile.FieldType.int)]
set_option maxRecDepth 65536 in
theorem codes_eq : words1.filter isCode = codes1 := rfl
theorem w_codes : ∀ c ∈ words1.filter isCode, c.before args0 about1 = true := by
  rw [codes_eq]
  intro c hc
  simp only [codes1, List.mem_cons, List.not_mem_nil, or_false] at hc
  rcases hc with rfl | rfl | rfl
  · exact w_c0
  · exact w_c1
  · exact w_c2
set_option maxRecDepth 65536 in
theorem w_t1 : (words1.take 24).all (fun c => isCode c || c.before args0 about1) = true := by decide +kernel
set_option maxRecDepth 65536 in
theorem w_t2 : (words1.drop 24).all (fun c => isCode c || c.before args0 about1) = true := by decide +kernel
theorem w_tables : (allAtoms (Jvm.Cond.code x code maxLocals ret :: tables_1)).before args0 about1 = true := by
  rw [allAtoms_all]
  show words1.all (fun c => c.before args0 about1) = true
  refine all_split ?_ w_codes
  rw [← List.take_append_drop 24 words1, List.all_append, w_t1, w_t2]
  rfl
set_option maxRecDepth 65536 in
theorem w_case : (Jvm.Cond.and given_1 narrow_1).before args0 about1 = true := by decide +kernel
theorem w_applies : (headSpec (Jvm.Cond.code x code maxLocals ret :: tables_1) room_1).applies x e0.platform about1 = true :=
  (Spec.applies_iff w_frames).mpr ⟨w_running, w_runnable, w_alone, w_named, w_hears, w_ripe, w_room, w_tables⟩
theorem atStart : AtStart classFile x code maxLocals ret World_1 tables_1 room_1 Calls_1 rest_1 Pre_1 launch0 p0 e0 about1 theMethod args0 below0 :=
  ⟨lists_1, trivial, launch0.admits_env _ _ _, launch0.least_env, fairChoices_fair.cas, fairChoices_fair.clock, w_frames, w_args, w_heap, w_applies, trivial, trivial, w_case⟩
end start1
theorem witness_1 : WitnessClaimed_1 := ⟨start1.p0, start1.e0, start1.about1, start1.theMethod, start1.args0, start1.below0, start1.atStart⟩
end Jvm.Pilot.@@N@@
