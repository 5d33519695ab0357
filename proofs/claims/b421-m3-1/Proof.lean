import JvmDerived
import JvmDerived.Pilot.@@N@@Statement
import JvmDerived.Pilot.@@N@@Code
set_option linter.unusedVariables false
set_option linter.unusedSimpArgs false
@@BLOCK:NumsL.lean.txt@@
namespace Jvm.Own
open Sem ClassFile Op Lib Jvm.Stand Jvm.Free Jvm.LawKit Jvm.RoadKit
/-! ## a walk, backwards: 'Wk .. g': from every state that stands so, with the frame g on top, the run ends by a return that meets Q -/
def Ends (p : Program) (e : Env) (FE : Outcome → State → List Loc → Prop) (below : List Frame) (Q : Option Value → Heap → List Loc → Prop) (T : State) (g : JFrame) : Prop :=
  ∃ s₂ o, Steps p.tables e below (T.setTop g) s₂ ∧ s₂.status = .running ∧ Ended s₂ below o ∧ ∃ v L, o = .returned v ∧ Q v s₂.heap L ∧ FE o s₂ L
def FEn (s : State) (R : Room) (o : Outcome) (t : State) (L : List Loc) : Prop := FrameEnd s o t L R.cells R.slots
def FEw (s : State) (R : Room) (o : Outcome) (t : State) (L : List Loc) : Prop := ReturnedEndW s o t L R.cells R.slots
def Wk (p : Program) (l : Launch) (e : Env) (R : Room) (s : State) (m : MethodId) (args : Array Value) (below : List Frame) (meth : Method) (c : Code) (Q : Option Value → Heap → List Loc → Prop) (FE : Outcome → State → List Loc → Prop) (h : Heap) (locs : List Loc) (cells slots : Nat) (g : JFrame) : Prop :=
  ∀ T, Stand p l e R s m args below meth c T locs cells slots → T.heap = h → Ends p e FE below Q T g
def Cx (p : Program) (s : State) (m : MethodId) (meth : Method) (c : Code) (Z : State) (code : ByteArray) (maxL : Nat) (ret : Option FieldType) (own nm : String) (R : Room) (FE : Outcome → State → List Loc → Prop) (k0 : Nat) : Prop :=
  p.tables.exec = Jvm.exec ∧ c.code = code ∧ c.maxLocals = maxL ∧ meth.sig.returnType = ret ∧ s.vm.findClass own = some m.cls ∧ Z.Warmed39 s.vm ∧ meth.name = nm ∧ meth.locks = false ∧ ∀ o t L, k0 ≤ t.heap.size → FrameEnd s o t L R.cells R.slots → FE o t L
/-- a body's contract: on these arguments, over this heap -/
def Met0 (l : Launch) (Z : State) (y : MethodName) (ws : List Jvm.Cond) (code : ByteArray) (maxL : Nat) (ret : Option FieldType) (rm : Room) (as' : Array Value) (h0 : Heap) (Q : Option Value → Heap → List Loc → Prop) : Prop :=
  MetFree l y (head1 (Jvm.Cond.code y code maxL ret :: ws) rm) (fun a U => a = as' ∧ Z.Warmed39 U.vm ∧ U.heap = h0) (fun _ _ _ _ _ => True) (fun _ U o U' => ∃ v L, o = .returned v ∧ Q v U'.heap L ∧ FrameEnd U o U' L rm.cells rm.slots)
theorem Met0.of_walk {l : Launch} {Z : State} {y : MethodName} {ws : List Jvm.Cond} {code : ByteArray} {maxL : Nat} {ret : Option FieldType} {rm : Room} {as' : Array Value} {h0 : Heap} {Q : Option Value → Heap → List Loc → Prop} (hpl : plainFor y = true) {Ls : Array Slot} (hef : ∀ m, entryFrame m as' maxL = mkF m 0 Ls [])
    (hb : ∀ p e s m below meth c, Cx p s m meth c Z code maxL ret y.cls y.name rm (FEn s rm) 0 → Wk p l e rm s m as' below meth c Q (FEn s rm) h0 [] 0 0 (mkF m 0 Ls [])) : Met0 l Z y ws code maxL ret rm as' h0 Q := by
  refine MetFree.of_bodySF hpl hisR ?_
  intro p e s m args below meth c s₁ Bd hml0 hP hK
  obtain ⟨rfl, hZ, hh⟩ := hP
  have X0 : Stand p l e rm s m args below meth c s₁ [] 0 0 := Stand.of_body Bd
  have e0 : s₁.heap = h0 := by rw [← hh, Bd.state]; rfl
  have C : Cx p s m meth c Z code maxL ret y.cls y.name rm (FEn s rm) 0 := ⟨Bd.exec, Bd.bytes, hml0, Bd.returns, findClass_of_methodNamed Bd.named, hZ, (name_of_methodNamed Bd.named Bd.method).1, BodyLoose.notSynchronized Bd, fun _ _ _ _ q => q⟩
  obtain ⟨s₂, o, st, r⟩ := hb p e s m below meth c C s₁ X0 e0
  exact ⟨s₂, o, castTop (hef m) st, r⟩
/-- .. of a body that may intern literals -/
def MetS (l : Launch) (Z : State) (y : MethodName) (ws : List Jvm.Cond) (code : ByteArray) (maxL : Nat) (ret : Option FieldType) (rm : Room) (as' : Array Value) (h0 : Heap) (Q : Option Value → Heap → List Loc → Prop) : Prop :=
  MetFree l y (head1 (Jvm.Cond.code y code maxL ret :: ws) rm) (fun a U => a = as' ∧ Z.Warmed39 U.vm ∧ U.heap = h0) (fun _ _ _ _ _ => True) (fun _ U o U' => ∃ v L, o = .returned v ∧ Q v U'.heap L ∧ ReturnedEndW U o U' L rm.cells rm.slots)
theorem MetS.of_walk {l : Launch} {Z : State} {y : MethodName} {ws : List Jvm.Cond} {code : ByteArray} {maxL : Nat} {ret : Option FieldType} {rm : Room} {as' : Array Value} {h0 : Heap} {Q : Option Value → Heap → List Loc → Prop} (hpl : plainFor y = true) {Ls : Array Slot} (hef : ∀ m, entryFrame m as' maxL = mkF m 0 Ls [])
    (hb : ∀ p e s vm0 m below meth c, Cx p (s.setVm vm0) m meth c Z code maxL ret y.cls y.name rm (FEw s rm) 0 → s.Since vm0 0 → Wk p l e rm (s.setVm vm0) m as' below meth c Q (FEw s rm) h0 [] 0 0 (mkF m 0 Ls [])) : MetS l Z y ws code maxL ret rm as' h0 Q := by
  refine MetFree.of_bodySF hpl hisR ?_
  intro p e s m args below meth c s₁ Bd hml0 hP hK
  obtain ⟨rfl, hZ, hh⟩ := hP
  have X0 : Stand p l e rm (s.setVm s.vm) m args below meth c s₁ [] 0 0 := Stand.of_body Bd
  have e0 : s₁.heap = h0 := by rw [← hh, Bd.state]; rfl
  have C : Cx p (s.setVm s.vm) m meth c Z code maxL ret y.cls y.name rm (FEw s rm) 0 := ⟨Bd.exec, Bd.bytes, hml0, Bd.returns, findClass_of_methodNamed Bd.named, hZ, (name_of_methodNamed Bd.named Bd.method).1, BodyLoose.notSynchronized Bd, fun _ _ _ _ q => RoadKit.wide (s := s) q⟩
  obtain ⟨s₂, o, st, r⟩ := hb p e s s.vm m below meth c C ((State.WarmedH.refl s).since 0) s₁ X0 e0
  exact ⟨s₂, o, castTop (hef m) st, r⟩
theorem fe_since {s : State} {vm1 : Vm} {k1 : Nat} {R : Room} (hS : s.Since vm1 k1) : ∀ o t L, k1 ≤ t.heap.size → FrameEnd (s.setVm vm1) o t L R.cells R.slots → FEw s R o t L := fun o t L hk q => by
  obtain ⟨a, b, c⟩ := hS.ended (U := t) q.2.1 hk q.2.2
  exact ⟨q.1, a, b, c⟩
section Steps
variable {p : Program} {l : Launch} {e : Env} {R : Room} {s : State} {m : MethodId} {args : Array Value} {below : List Frame} {meth : Method} {c : Code} {Q : Option Value → Heap → List Loc → Prop} {h : Heap} {locs : List Loc} {cells slots : Nat} {Z : State} {code : ByteArray} {maxL : Nat} {ret : Option FieldType} {own nm : String} {FE : Outcome → State → List Loc → Prop} {k0 : Nat} {a0 : Array Value}
variable {pc pc' : Nat} {Ls : Array Slot} {st rest : List Value}
theorem Wk.step {g g' : JFrame} (hs : ∀ T target, Stand p l e R s m args below meth c T locs cells slots → T.heap = h → Steps p.tables e below (T.setTop g') target → Steps p.tables e below (T.setTop g) target) (hr : Wk p l e R s m args below meth c Q FE h locs cells slots g') : Wk p l e R s m args below meth c Q FE h locs cells slots g := fun T X eT => by
  obtain ⟨s₂, o, st, r⟩ := hr T X eT
  exact ⟨s₂, o, hs T s₂ X eT st, r⟩
theorem Wk.law {g g' : JFrame} (hs : ∀ T, Stand p l e R s m args below meth c T locs cells slots → T.heap = h → ∃ T', Stand p l e R s m args below meth c T' locs cells slots ∧ T'.heap = h ∧ ∀ target, Steps p.tables e below (T'.setTop g') target → Steps p.tables e below (T.setTop g) target) (hr : Wk p l e R s m args below meth c Q FE h locs cells slots g') : Wk p l e R s m args below meth c Q FE h locs cells slots g := fun T X eT => by
  obtain ⟨T', X', e', q⟩ := hs T X eT
  obtain ⟨s₂, o, st, r⟩ := hr T' X' e'
  exact ⟨s₂, o, q s₂ st, r⟩
theorem iloadN (C : Cx p s m meth c Z code maxL ret own nm R FE k0) {k : Fin 4} {v : Int32} (hd : decode code pc = .ok (.iload_n k, 1)) (hp : pc + 1 = pc') (hl : Ls[k.val]? = some (.val (.int v)))
    (hr : Wk p l e R s m args below meth c Q FE h locs cells slots (mkF m pc' Ls (.int v :: st))) : Wk p l e R s m args below meth c Q FE h locs cells slots (mkF m pc Ls st) := by
  subst hp
  exact Wk.step (fun T t X eT q => XS.iloadN X.here C.1 rfl (hb C.2.1 hd) hl q) hr
theorem lloadN (C : Cx p s m meth c Z code maxL ret own nm R FE k0) {k : Fin 4} {v : Int64} (hd : decode code pc = .ok (.lload_n k, 1)) (hp : pc + 1 = pc') (hl : Ls[k.val]? = some (.val (.long v)))
    (hr : Wk p l e R s m args below meth c Q FE h locs cells slots (mkF m pc' Ls (.long v :: st))) : Wk p l e R s m args below meth c Q FE h locs cells slots (mkF m pc Ls st) := by
  subst hp
  exact Wk.step (fun T t X eT q => XS.lloadN X.here C.1 rfl (hb C.2.1 hd) hl q) hr
theorem aloadN (C : Cx p s m meth c Z code maxL ret own nm R FE k0) {k : Fin 4} {v : Value} (hd : decode code pc = .ok (.aload_n k, 1)) (hp : pc + 1 = pc') (hl : Ls[k.val]? = some (.val v)) (hv : v.isRef = true)
    (hr : Wk p l e R s m args below meth c Q FE h locs cells slots (mkF m pc' Ls (v :: st))) : Wk p l e R s m args below meth c Q FE h locs cells slots (mkF m pc Ls st) := by
  subst hp
  exact Wk.step (fun T t X eT q => XS.aloadN X.here C.1 rfl (hb C.2.1 hd) hl hv q) hr
theorem istoreN (C : Cx p s m meth c Z code maxL ret own nm R FE k0) {k : Fin 4} {v : Int32} {Ls' : Array Slot} (hd : decode code pc = .ok (.istore_n k, 1)) (hp : pc + 1 = pc') (hl : storeLocals Ls k.val (.int v) = some Ls')
    (hr : Wk p l e R s m args below meth c Q FE h locs cells slots (mkF m pc' Ls' st)) : Wk p l e R s m args below meth c Q FE h locs cells slots (mkF m pc Ls (.int v :: st)) := by
  subst hp
  exact Wk.step (fun T t X eT q => XS.istoreN X.here C.1 rfl (hb C.2.1 hd) rfl hl q) hr
theorem lstoreN (C : Cx p s m meth c Z code maxL ret own nm R FE k0) {k : Fin 4} {v : Int64} {Ls' : Array Slot} (hd : decode code pc = .ok (.lstore_n k, 1)) (hp : pc + 1 = pc') (hl : storeLocals Ls k.val (.long v) = some Ls')
    (hr : Wk p l e R s m args below meth c Q FE h locs cells slots (mkF m pc' Ls' st)) : Wk p l e R s m args below meth c Q FE h locs cells slots (mkF m pc Ls (.long v :: st)) := by
  subst hp
  exact Wk.step (fun T t X eT q => XS.lstoreN X.here C.1 rfl (hb C.2.1 hd) rfl hl q) hr
theorem astoreN (C : Cx p s m meth c Z code maxL ret own nm R FE k0) {k : Fin 4} {v : Value} {Ls' : Array Slot} (hd : decode code pc = .ok (.astore_n k, 1)) (hp : pc + 1 = pc') (hv : v.isRef = true) (hl : storeLocals Ls k.val v = some Ls')
    (hr : Wk p l e R s m args below meth c Q FE h locs cells slots (mkF m pc' Ls' st)) : Wk p l e R s m args below meth c Q FE h locs cells slots (mkF m pc Ls (v :: st)) := by
  subst hp
  exact Wk.step (fun T t X eT q => XS.astoreN X.here C.1 rfl (hb C.2.1 hd) rfl hv hl q) hr
theorem iload (C : Cx p s m meth c Z code maxL ret own nm R FE k0) {k : Nat} {v : Int32} (hd : decode code pc = .ok (.iload k, 2)) (hp : pc + 2 = pc') (hl : Ls[k]? = some (.val (.int v)))
    (hr : Wk p l e R s m args below meth c Q FE h locs cells slots (mkF m pc' Ls (.int v :: st))) : Wk p l e R s m args below meth c Q FE h locs cells slots (mkF m pc Ls st) := by
  subst hp
  exact Wk.step (fun T t X eT q => XS.iload X.here C.1 rfl (hb C.2.1 hd) hl q) hr
theorem lload (C : Cx p s m meth c Z code maxL ret own nm R FE k0) {k : Nat} {v : Int64} (hd : decode code pc = .ok (.lload k, 2)) (hp : pc + 2 = pc') (hl : Ls[k]? = some (.val (.long v)))
    (hr : Wk p l e R s m args below meth c Q FE h locs cells slots (mkF m pc' Ls (.long v :: st))) : Wk p l e R s m args below meth c Q FE h locs cells slots (mkF m pc Ls st) := by
  subst hp
  exact Wk.step (fun T t X eT q => XS.lload X.here C.1 rfl (hb C.2.1 hd) hl q) hr
theorem aload (C : Cx p s m meth c Z code maxL ret own nm R FE k0) {k : Nat} {v : Value} (hd : decode code pc = .ok (.aload k, 2)) (hp : pc + 2 = pc') (hl : Ls[k]? = some (.val v)) (hv : v.isRef = true)
    (hr : Wk p l e R s m args below meth c Q FE h locs cells slots (mkF m pc' Ls (v :: st))) : Wk p l e R s m args below meth c Q FE h locs cells slots (mkF m pc Ls st) := by
  subst hp
  exact Wk.step (fun T t X eT q => XS.aload X.here C.1 rfl (hb C.2.1 hd) hl hv q) hr
theorem istore (C : Cx p s m meth c Z code maxL ret own nm R FE k0) {k : Nat} {v : Int32} {Ls' : Array Slot} (hd : decode code pc = .ok (.istore k, 2)) (hp : pc + 2 = pc') (hl : storeLocals Ls k (.int v) = some Ls')
    (hr : Wk p l e R s m args below meth c Q FE h locs cells slots (mkF m pc' Ls' st)) : Wk p l e R s m args below meth c Q FE h locs cells slots (mkF m pc Ls (.int v :: st)) := by
  subst hp
  exact Wk.step (fun T t X eT q => XS.istore X.here C.1 rfl (hb C.2.1 hd) rfl hl q) hr
theorem lstore (C : Cx p s m meth c Z code maxL ret own nm R FE k0) {k : Nat} {v : Int64} {Ls' : Array Slot} (hd : decode code pc = .ok (.lstore k, 2)) (hp : pc + 2 = pc') (hl : storeLocals Ls k (.long v) = some Ls')
    (hr : Wk p l e R s m args below meth c Q FE h locs cells slots (mkF m pc' Ls' st)) : Wk p l e R s m args below meth c Q FE h locs cells slots (mkF m pc Ls (.long v :: st)) := by
  subst hp
  exact Wk.step (fun T t X eT q => XS.lstore X.here C.1 rfl (hb C.2.1 hd) rfl hl q) hr
theorem astore (C : Cx p s m meth c Z code maxL ret own nm R FE k0) {k : Nat} {v : Value} {Ls' : Array Slot} (hd : decode code pc = .ok (.astore k, 2)) (hp : pc + 2 = pc') (hv : v.isRef = true) (hl : storeLocals Ls k v = some Ls')
    (hr : Wk p l e R s m args below meth c Q FE h locs cells slots (mkF m pc' Ls' st)) : Wk p l e R s m args below meth c Q FE h locs cells slots (mkF m pc Ls (v :: st)) := by
  subst hp
  exact Wk.step (fun T t X eT q => XS.astore X.here C.1 rfl (hb C.2.1 hd) rfl hv hl q) hr
theorem iconst (C : Cx p s m meth c Z code maxL ret own nm R FE k0) {i : Int} {v : Int32} (hd : decode code pc = .ok (.iconst i, 1)) (hp : pc + 1 = pc') (hv : Int32.ofInt i = v)
    (hr : Wk p l e R s m args below meth c Q FE h locs cells slots (mkF m pc' Ls (.int v :: st))) : Wk p l e R s m args below meth c Q FE h locs cells slots (mkF m pc Ls st) := by
  subst hp
  subst hv
  exact Wk.step (fun T t X eT q => XS.iconst X.here C.1 rfl (hb C.2.1 hd) q) hr
theorem bipush (C : Cx p s m meth c Z code maxL ret own nm R FE k0) {i : Int} {v : Int32} (hd : decode code pc = .ok (.bipush i, 2)) (hp : pc + 2 = pc') (hv : (Int8.ofInt i).toInt32 = v)
    (hr : Wk p l e R s m args below meth c Q FE h locs cells slots (mkF m pc' Ls (.int v :: st))) : Wk p l e R s m args below meth c Q FE h locs cells slots (mkF m pc Ls st) := by
  subst hp
  subst hv
  exact Wk.step (fun T t X eT q => XS.bipush X.here C.1 rfl (hb C.2.1 hd) q) hr
theorem sipush (C : Cx p s m meth c Z code maxL ret own nm R FE k0) {i : Int} {v : Int32} (hd : decode code pc = .ok (.sipush i, 3)) (hp : pc + 3 = pc') (hv : (Int16.ofInt i).toInt32 = v)
    (hr : Wk p l e R s m args below meth c Q FE h locs cells slots (mkF m pc' Ls (.int v :: st))) : Wk p l e R s m args below meth c Q FE h locs cells slots (mkF m pc Ls st) := by
  subst hp
  subst hv
  exact Wk.step (fun T t X eT q => XS.sipush X.here C.1 rfl (hb C.2.1 hd) q) hr
theorem lconst (C : Cx p s m meth c Z code maxL ret own nm R FE k0) {k : Fin 2} {v : Int64} (hd : decode code pc = .ok (.lconst k, 1)) (hp : pc + 1 = pc') (hv : Int64.ofNat k = v)
    (hr : Wk p l e R s m args below meth c Q FE h locs cells slots (mkF m pc' Ls (.long v :: st))) : Wk p l e R s m args below meth c Q FE h locs cells slots (mkF m pc Ls st) := by
  subst hp
  subst hv
  exact Wk.step (fun T t X eT q => XS.lconst X.here C.1 rfl (hb C.2.1 hd) q) hr
theorem aconstNull (C : Cx p s m meth c Z code maxL ret own nm R FE k0)  (hd : decode code pc = .ok (.aconst_null, 1)) (hp : pc + 1 = pc') 
    (hr : Wk p l e R s m args below meth c Q FE h locs cells slots (mkF m pc' Ls (.null :: st))) : Wk p l e R s m args below meth c Q FE h locs cells slots (mkF m pc Ls st) := by
  subst hp
  exact Wk.step (fun T t X eT q => XS.aconstNull X.here C.1 rfl (hb C.2.1 hd) q) hr
theorem iadd (C : Cx p s m meth c Z code maxL ret own nm R FE k0) {x y : Int32} (hd : decode code pc = .ok (.iadd, 1)) (hp : pc + 1 = pc') 
    (hr : Wk p l e R s m args below meth c Q FE h locs cells slots (mkF m pc' Ls (.int (x + y) :: st))) : Wk p l e R s m args below meth c Q FE h locs cells slots (mkF m pc Ls (.int y :: .int x :: st)) := by
  subst hp
  exact Wk.step (fun T t X eT q => XS.iadd X.here C.1 rfl (hb C.2.1 hd) rfl q) hr
theorem isub (C : Cx p s m meth c Z code maxL ret own nm R FE k0) {x y : Int32} (hd : decode code pc = .ok (.isub, 1)) (hp : pc + 1 = pc') 
    (hr : Wk p l e R s m args below meth c Q FE h locs cells slots (mkF m pc' Ls (.int (x - y) :: st))) : Wk p l e R s m args below meth c Q FE h locs cells slots (mkF m pc Ls (.int y :: .int x :: st)) := by
  subst hp
  exact Wk.step (fun T t X eT q => XS.isub X.here C.1 rfl (hb C.2.1 hd) rfl q) hr
theorem imul (C : Cx p s m meth c Z code maxL ret own nm R FE k0) {x y : Int32} (hd : decode code pc = .ok (.imul, 1)) (hp : pc + 1 = pc') 
    (hr : Wk p l e R s m args below meth c Q FE h locs cells slots (mkF m pc' Ls (.int (x * y) :: st))) : Wk p l e R s m args below meth c Q FE h locs cells slots (mkF m pc Ls (.int y :: .int x :: st)) := by
  subst hp
  exact Wk.step (fun T t X eT q => XS.imul X.here C.1 rfl (hb C.2.1 hd) rfl q) hr
theorem iand (C : Cx p s m meth c Z code maxL ret own nm R FE k0) {x y : Int32} (hd : decode code pc = .ok (.iand, 1)) (hp : pc + 1 = pc') 
    (hr : Wk p l e R s m args below meth c Q FE h locs cells slots (mkF m pc' Ls (.int (x &&& y) :: st))) : Wk p l e R s m args below meth c Q FE h locs cells slots (mkF m pc Ls (.int y :: .int x :: st)) := by
  subst hp
  exact Wk.step (fun T t X eT q => XS.iand X.here C.1 rfl (hb C.2.1 hd) rfl q) hr
theorem ladd (C : Cx p s m meth c Z code maxL ret own nm R FE k0) {x y : Int64} (hd : decode code pc = .ok (.ladd, 1)) (hp : pc + 1 = pc') 
    (hr : Wk p l e R s m args below meth c Q FE h locs cells slots (mkF m pc' Ls (.long (x + y) :: st))) : Wk p l e R s m args below meth c Q FE h locs cells slots (mkF m pc Ls (.long y :: .long x :: st)) := by
  subst hp
  exact Wk.step (fun T t X eT q => XS.ladd X.here C.1 rfl (hb C.2.1 hd) rfl q) hr
theorem lsub (C : Cx p s m meth c Z code maxL ret own nm R FE k0) {x y : Int64} (hd : decode code pc = .ok (.lsub, 1)) (hp : pc + 1 = pc') 
    (hr : Wk p l e R s m args below meth c Q FE h locs cells slots (mkF m pc' Ls (.long (x - y) :: st))) : Wk p l e R s m args below meth c Q FE h locs cells slots (mkF m pc Ls (.long y :: .long x :: st)) := by
  subst hp
  exact Wk.step (fun T t X eT q => XS.lsub X.here C.1 rfl (hb C.2.1 hd) rfl q) hr
theorem lmul (C : Cx p s m meth c Z code maxL ret own nm R FE k0) {x y : Int64} (hd : decode code pc = .ok (.lmul, 1)) (hp : pc + 1 = pc') 
    (hr : Wk p l e R s m args below meth c Q FE h locs cells slots (mkF m pc' Ls (.long (x * y) :: st))) : Wk p l e R s m args below meth c Q FE h locs cells slots (mkF m pc Ls (.long y :: .long x :: st)) := by
  subst hp
  exact Wk.step (fun T t X eT q => XS.lmul X.here C.1 rfl (hb C.2.1 hd) rfl q) hr
theorem land (C : Cx p s m meth c Z code maxL ret own nm R FE k0) {x y : Int64} (hd : decode code pc = .ok (.land, 1)) (hp : pc + 1 = pc') 
    (hr : Wk p l e R s m args below meth c Q FE h locs cells slots (mkF m pc' Ls (.long (x &&& y) :: st))) : Wk p l e R s m args below meth c Q FE h locs cells slots (mkF m pc Ls (.long y :: .long x :: st)) := by
  subst hp
  exact Wk.step (fun T t X eT q => XS.land X.here C.1 rfl (hb C.2.1 hd) rfl q) hr
theorem idiv (C : Cx p s m meth c Z code maxL ret own nm R FE k0) {x y : Int32} (hd : decode code pc = .ok (.idiv, 1)) (hp : pc + 1 = pc') (hy : y ≠ 0)
    (hr : Wk p l e R s m args below meth c Q FE h locs cells slots (mkF m pc' Ls (.int (x / y) :: st))) : Wk p l e R s m args below meth c Q FE h locs cells slots (mkF m pc Ls (.int y :: .int x :: st)) := by
  subst hp
  exact Wk.step (fun T t X eT q => XS.idiv X.here C.1 rfl (hb C.2.1 hd) rfl hy q) hr
theorem ldiv (C : Cx p s m meth c Z code maxL ret own nm R FE k0) {x y : Int64} (hd : decode code pc = .ok (.ldiv, 1)) (hp : pc + 1 = pc') (hy : y ≠ 0)
    (hr : Wk p l e R s m args below meth c Q FE h locs cells slots (mkF m pc' Ls (.long (x / y) :: st))) : Wk p l e R s m args below meth c Q FE h locs cells slots (mkF m pc Ls (.long y :: .long x :: st)) := by
  subst hp
  exact Wk.step (fun T t X eT q => XS.ldiv X.here C.1 rfl (hb C.2.1 hd) rfl hy q) hr
theorem irem (C : Cx p s m meth c Z code maxL ret own nm R FE k0) {x y : Int32} (hd : decode code pc = .ok (.irem, 1)) (hp : pc + 1 = pc') (hy : y ≠ 0)
    (hr : Wk p l e R s m args below meth c Q FE h locs cells slots (mkF m pc' Ls (.int (x % y) :: st))) : Wk p l e R s m args below meth c Q FE h locs cells slots (mkF m pc Ls (.int y :: .int x :: st)) := by
  subst hp
  exact Wk.step (fun T t X eT q => iremM (g := mkF m pc Ls (.int y :: .int x :: st)) X C.1 rfl (hb C.2.1 hd) rfl hy q) hr
theorem iushr (C : Cx p s m meth c Z code maxL ret own nm R FE k0) {x y : Int32} (hd : decode code pc = .ok (.iushr, 1)) (hp : pc + 1 = pc') 
    (hr : Wk p l e R s m args below meth c Q FE h locs cells slots (mkF m pc' Ls (.int ((x.toUInt32 >>> (y &&& 31).toUInt32).toInt32) :: st))) : Wk p l e R s m args below meth c Q FE h locs cells slots (mkF m pc Ls (.int y :: .int x :: st)) := by
  subst hp
  exact Wk.step (fun T t X eT q => XS.iushr X.here C.1 rfl (hb C.2.1 hd) rfl q) hr
theorem ineg (C : Cx p s m meth c Z code maxL ret own nm R FE k0) {x : Int32} (hd : decode code pc = .ok (.ineg, 1)) (hp : pc + 1 = pc') 
    (hr : Wk p l e R s m args below meth c Q FE h locs cells slots (mkF m pc' Ls (.int (-x) :: st))) : Wk p l e R s m args below meth c Q FE h locs cells slots (mkF m pc Ls (.int x :: st)) := by
  subst hp
  exact Wk.step (fun T t X eT q => XS.ineg X.here C.1 rfl (hb C.2.1 hd) rfl q) hr
theorem i2l (C : Cx p s m meth c Z code maxL ret own nm R FE k0) {x : Int32} (hd : decode code pc = .ok (.i2l, 1)) (hp : pc + 1 = pc') 
    (hr : Wk p l e R s m args below meth c Q FE h locs cells slots (mkF m pc' Ls (.long x.toInt64 :: st))) : Wk p l e R s m args below meth c Q FE h locs cells slots (mkF m pc Ls (.int x :: st)) := by
  subst hp
  exact Wk.step (fun T t X eT q => XS.i2l X.here C.1 rfl (hb C.2.1 hd) rfl q) hr
theorem l2i (C : Cx p s m meth c Z code maxL ret own nm R FE k0) {x : Int64} (hd : decode code pc = .ok (.l2i, 1)) (hp : pc + 1 = pc') 
    (hr : Wk p l e R s m args below meth c Q FE h locs cells slots (mkF m pc' Ls (.int x.toInt32 :: st))) : Wk p l e R s m args below meth c Q FE h locs cells slots (mkF m pc Ls (.long x :: st)) := by
  subst hp
  exact Wk.step (fun T t X eT q => XS.l2i X.here C.1 rfl (hb C.2.1 hd) rfl q) hr
theorem lcmp (C : Cx p s m meth c Z code maxL ret own nm R FE k0) {x y : Int64} (hd : decode code pc = .ok (.lcmp, 1)) (hp : pc + 1 = pc') 
    (hr : Wk p l e R s m args below meth c Q FE h locs cells slots (mkF m pc' Ls (.int (if y < x then 1 else if x = y then 0 else -1) :: st))) : Wk p l e R s m args below meth c Q FE h locs cells slots (mkF m pc Ls (.long y :: .long x :: st)) := by
  subst hp
  exact Wk.step (fun T t X eT q => XS.lcmp X.here C.1 rfl (hb C.2.1 hd) rfl q) hr
theorem dup (C : Cx p s m meth c Z code maxL ret own nm R FE k0) {v : Value} (hd : decode code pc = .ok (.dup, 1)) (hp : pc + 1 = pc') (hv : v.category = 1)
    (hr : Wk p l e R s m args below meth c Q FE h locs cells slots (mkF m pc' Ls (v :: v :: st))) : Wk p l e R s m args below meth c Q FE h locs cells slots (mkF m pc Ls (v :: st)) := by
  subst hp
  exact Wk.step (fun T t X eT q => XS.dup X.here C.1 rfl (hb C.2.1 hd) rfl hv q) hr
theorem pop_ (C : Cx p s m meth c Z code maxL ret own nm R FE k0) {v : Value} (hd : decode code pc = .ok (.pop, 1)) (hp : pc + 1 = pc') (hv : v.category = 1)
    (hr : Wk p l e R s m args below meth c Q FE h locs cells slots (mkF m pc' Ls st)) : Wk p l e R s m args below meth c Q FE h locs cells slots (mkF m pc Ls (v :: st)) := by
  subst hp
  exact Wk.step (fun T t X eT q => XS.pop X.here C.1 rfl (hb C.2.1 hd) rfl hv q) hr
theorem iinc (C : Cx p s m meth c Z code maxL ret own nm R FE k0) {k : Nat} {d : Int} {v : Int32} {Ls' : Array Slot} (hd : decode code pc = .ok (.iinc k d, 3)) (hp : pc + 3 = pc') (hv : Ls[k]? = some (.val (.int v))) (hl : storeLocals Ls k (.int (v + Int32.ofInt d)) = some Ls')
    (hr : Wk p l e R s m args below meth c Q FE h locs cells slots (mkF m pc' Ls' st)) : Wk p l e R s m args below meth c Q FE h locs cells slots (mkF m pc Ls st) := by
  subst hp
  exact Wk.step (fun T t X eT q => XS.iinc X.here C.1 rfl (hb C.2.1 hd) hv hl q) hr
theorem goto_ (C : Cx p s m meth c Z code maxL ret own nm R FE k0) {o : Int} (hd : decode code pc = .ok (.goto o, 3)) (ho : 0 ≤ (pc : Int) + o) (hp : ((pc : Int) + o).toNat = pc')
    (hr : Wk p l e R s m args below meth c Q FE h locs cells slots (mkF m pc' Ls st)) : Wk p l e R s m args below meth c Q FE h locs cells slots (mkF m pc Ls st) :=
  Wk.step (fun T t X eT q => XS.goto X.here C.1 rfl rfl (hb C.2.1 hd) ho hp q) hr
theorem icmp_eq (C : Cx p s m meth c Z code maxL ret own nm R FE k0) {x y : Int32} {o : Int} (pcT pcF : Nat) (hd : decode code pc = .ok (.if_icmp .eq o, 3)) (ho : 0 ≤ (pc : Int) + o) (hT : ((pc : Int) + o).toNat = pcT) (hF : pc + 3 = pcF)
    (ht : x = y → Wk p l e R s m args below meth c Q FE h locs cells slots (mkF m pcT Ls st)) (hf : ¬ x = y → Wk p l e R s m args below meth c Q FE h locs cells slots (mkF m pcF Ls st)) : Wk p l e R s m args below meth c Q FE h locs cells slots (mkF m pc Ls (.int y :: .int x :: st)) := by
  by_cases q : x = y
  · have k := (teq q).1
    exact Wk.step (fun T t X eT r => XS.icmpYes X.here C.1 rfl rfl (hb C.2.1 hd) rfl k ho hT r) (ht q)
  · have k := (feq q).1
    exact Wk.step (fun T t X eT r => XS.icmpNo X.here C.1 rfl (hb C.2.1 hd) rfl k (by subst hF; exact r)) (hf q)
theorem if_eq (C : Cx p s m meth c Z code maxL ret own nm R FE k0) {x : Int32} {o : Int} (pcT pcF : Nat) (hd : decode code pc = .ok (.ifCond .eq o, 3)) (ho : 0 ≤ (pc : Int) + o) (hT : ((pc : Int) + o).toNat = pcT) (hF : pc + 3 = pcF)
    (ht : x = 0 → Wk p l e R s m args below meth c Q FE h locs cells slots (mkF m pcT Ls st)) (hf : ¬ x = 0 → Wk p l e R s m args below meth c Q FE h locs cells slots (mkF m pcF Ls st)) : Wk p l e R s m args below meth c Q FE h locs cells slots (mkF m pc Ls (.int x :: st)) := by
  by_cases q : x = 0
  · have k := (if0 _ _).trans (teq q).1
    exact Wk.step (fun T t X eT r => XS.ifYes X.here C.1 rfl rfl (hb C.2.1 hd) rfl k ho hT r) (ht q)
  · have k := (if0 _ _).trans (feq q).1
    exact Wk.step (fun T t X eT r => XS.ifNo X.here C.1 rfl (hb C.2.1 hd) rfl k (by subst hF; exact r)) (hf q)
theorem icmp_ne (C : Cx p s m meth c Z code maxL ret own nm R FE k0) {x y : Int32} {o : Int} (pcT pcF : Nat) (hd : decode code pc = .ok (.if_icmp .ne o, 3)) (ho : 0 ≤ (pc : Int) + o) (hT : ((pc : Int) + o).toNat = pcT) (hF : pc + 3 = pcF)
    (ht : ¬ x = y → Wk p l e R s m args below meth c Q FE h locs cells slots (mkF m pcT Ls st)) (hf : x = y → Wk p l e R s m args below meth c Q FE h locs cells slots (mkF m pcF Ls st)) : Wk p l e R s m args below meth c Q FE h locs cells slots (mkF m pc Ls (.int y :: .int x :: st)) := by
  by_cases q : x = y
  · have k := (teq q).2
    exact Wk.step (fun T t X eT r => XS.icmpNo X.here C.1 rfl (hb C.2.1 hd) rfl k (by subst hF; exact r)) (hf q)
  · have k := (feq q).2
    exact Wk.step (fun T t X eT r => XS.icmpYes X.here C.1 rfl rfl (hb C.2.1 hd) rfl k ho hT r) (ht q)
theorem if_ne (C : Cx p s m meth c Z code maxL ret own nm R FE k0) {x : Int32} {o : Int} (pcT pcF : Nat) (hd : decode code pc = .ok (.ifCond .ne o, 3)) (ho : 0 ≤ (pc : Int) + o) (hT : ((pc : Int) + o).toNat = pcT) (hF : pc + 3 = pcF)
    (ht : ¬ x = 0 → Wk p l e R s m args below meth c Q FE h locs cells slots (mkF m pcT Ls st)) (hf : x = 0 → Wk p l e R s m args below meth c Q FE h locs cells slots (mkF m pcF Ls st)) : Wk p l e R s m args below meth c Q FE h locs cells slots (mkF m pc Ls (.int x :: st)) := by
  by_cases q : x = 0
  · have k := (if0 _ _).trans (teq q).2
    exact Wk.step (fun T t X eT r => XS.ifNo X.here C.1 rfl (hb C.2.1 hd) rfl k (by subst hF; exact r)) (hf q)
  · have k := (if0 _ _).trans (feq q).2
    exact Wk.step (fun T t X eT r => XS.ifYes X.here C.1 rfl rfl (hb C.2.1 hd) rfl k ho hT r) (ht q)
theorem icmp_lt (C : Cx p s m meth c Z code maxL ret own nm R FE k0) {x y : Int32} {o : Int} (pcT pcF : Nat) (hd : decode code pc = .ok (.if_icmp .lt o, 3)) (ho : 0 ≤ (pc : Int) + o) (hT : ((pc : Int) + o).toNat = pcT) (hF : pc + 3 = pcF)
    (ht : x < y → Wk p l e R s m args below meth c Q FE h locs cells slots (mkF m pcT Ls st)) (hf : ¬ x < y → Wk p l e R s m args below meth c Q FE h locs cells slots (mkF m pcF Ls st)) : Wk p l e R s m args below meth c Q FE h locs cells slots (mkF m pc Ls (.int y :: .int x :: st)) := by
  by_cases q : x < y
  · have k := (tlt q).1
    exact Wk.step (fun T t X eT r => XS.icmpYes X.here C.1 rfl rfl (hb C.2.1 hd) rfl k ho hT r) (ht q)
  · have k := (flt q).1
    exact Wk.step (fun T t X eT r => XS.icmpNo X.here C.1 rfl (hb C.2.1 hd) rfl k (by subst hF; exact r)) (hf q)
theorem if_lt (C : Cx p s m meth c Z code maxL ret own nm R FE k0) {x : Int32} {o : Int} (pcT pcF : Nat) (hd : decode code pc = .ok (.ifCond .lt o, 3)) (ho : 0 ≤ (pc : Int) + o) (hT : ((pc : Int) + o).toNat = pcT) (hF : pc + 3 = pcF)
    (ht : x < 0 → Wk p l e R s m args below meth c Q FE h locs cells slots (mkF m pcT Ls st)) (hf : ¬ x < 0 → Wk p l e R s m args below meth c Q FE h locs cells slots (mkF m pcF Ls st)) : Wk p l e R s m args below meth c Q FE h locs cells slots (mkF m pc Ls (.int x :: st)) := by
  by_cases q : x < 0
  · have k := (if0 _ _).trans (tlt q).1
    exact Wk.step (fun T t X eT r => XS.ifYes X.here C.1 rfl rfl (hb C.2.1 hd) rfl k ho hT r) (ht q)
  · have k := (if0 _ _).trans (flt q).1
    exact Wk.step (fun T t X eT r => XS.ifNo X.here C.1 rfl (hb C.2.1 hd) rfl k (by subst hF; exact r)) (hf q)
theorem icmp_ge (C : Cx p s m meth c Z code maxL ret own nm R FE k0) {x y : Int32} {o : Int} (pcT pcF : Nat) (hd : decode code pc = .ok (.if_icmp .ge o, 3)) (ho : 0 ≤ (pc : Int) + o) (hT : ((pc : Int) + o).toNat = pcT) (hF : pc + 3 = pcF)
    (ht : ¬ x < y → Wk p l e R s m args below meth c Q FE h locs cells slots (mkF m pcT Ls st)) (hf : x < y → Wk p l e R s m args below meth c Q FE h locs cells slots (mkF m pcF Ls st)) : Wk p l e R s m args below meth c Q FE h locs cells slots (mkF m pc Ls (.int y :: .int x :: st)) := by
  by_cases q : x < y
  · have k := (tlt q).2.1
    exact Wk.step (fun T t X eT r => XS.icmpNo X.here C.1 rfl (hb C.2.1 hd) rfl k (by subst hF; exact r)) (hf q)
  · have k := (flt q).2.1
    exact Wk.step (fun T t X eT r => XS.icmpYes X.here C.1 rfl rfl (hb C.2.1 hd) rfl k ho hT r) (ht q)
theorem if_ge (C : Cx p s m meth c Z code maxL ret own nm R FE k0) {x : Int32} {o : Int} (pcT pcF : Nat) (hd : decode code pc = .ok (.ifCond .ge o, 3)) (ho : 0 ≤ (pc : Int) + o) (hT : ((pc : Int) + o).toNat = pcT) (hF : pc + 3 = pcF)
    (ht : ¬ x < 0 → Wk p l e R s m args below meth c Q FE h locs cells slots (mkF m pcT Ls st)) (hf : x < 0 → Wk p l e R s m args below meth c Q FE h locs cells slots (mkF m pcF Ls st)) : Wk p l e R s m args below meth c Q FE h locs cells slots (mkF m pc Ls (.int x :: st)) := by
  by_cases q : x < 0
  · have k := (if0 _ _).trans (tlt q).2.1
    exact Wk.step (fun T t X eT r => XS.ifNo X.here C.1 rfl (hb C.2.1 hd) rfl k (by subst hF; exact r)) (hf q)
  · have k := (if0 _ _).trans (flt q).2.1
    exact Wk.step (fun T t X eT r => XS.ifYes X.here C.1 rfl rfl (hb C.2.1 hd) rfl k ho hT r) (ht q)
theorem icmp_gt (C : Cx p s m meth c Z code maxL ret own nm R FE k0) {x y : Int32} {o : Int} (pcT pcF : Nat) (hd : decode code pc = .ok (.if_icmp .gt o, 3)) (ho : 0 ≤ (pc : Int) + o) (hT : ((pc : Int) + o).toNat = pcT) (hF : pc + 3 = pcF)
    (ht : y < x → Wk p l e R s m args below meth c Q FE h locs cells slots (mkF m pcT Ls st)) (hf : ¬ y < x → Wk p l e R s m args below meth c Q FE h locs cells slots (mkF m pcF Ls st)) : Wk p l e R s m args below meth c Q FE h locs cells slots (mkF m pc Ls (.int y :: .int x :: st)) := by
  by_cases q : y < x
  · have k := (tlt q).2.2.1
    exact Wk.step (fun T t X eT r => XS.icmpYes X.here C.1 rfl rfl (hb C.2.1 hd) rfl k ho hT r) (ht q)
  · have k := (flt q).2.2.1
    exact Wk.step (fun T t X eT r => XS.icmpNo X.here C.1 rfl (hb C.2.1 hd) rfl k (by subst hF; exact r)) (hf q)
theorem if_gt (C : Cx p s m meth c Z code maxL ret own nm R FE k0) {x : Int32} {o : Int} (pcT pcF : Nat) (hd : decode code pc = .ok (.ifCond .gt o, 3)) (ho : 0 ≤ (pc : Int) + o) (hT : ((pc : Int) + o).toNat = pcT) (hF : pc + 3 = pcF)
    (ht : 0 < x → Wk p l e R s m args below meth c Q FE h locs cells slots (mkF m pcT Ls st)) (hf : ¬ 0 < x → Wk p l e R s m args below meth c Q FE h locs cells slots (mkF m pcF Ls st)) : Wk p l e R s m args below meth c Q FE h locs cells slots (mkF m pc Ls (.int x :: st)) := by
  by_cases q : 0 < x
  · have k := (if0 _ _).trans (tlt q).2.2.1
    exact Wk.step (fun T t X eT r => XS.ifYes X.here C.1 rfl rfl (hb C.2.1 hd) rfl k ho hT r) (ht q)
  · have k := (if0 _ _).trans (flt q).2.2.1
    exact Wk.step (fun T t X eT r => XS.ifNo X.here C.1 rfl (hb C.2.1 hd) rfl k (by subst hF; exact r)) (hf q)
theorem icmp_le (C : Cx p s m meth c Z code maxL ret own nm R FE k0) {x y : Int32} {o : Int} (pcT pcF : Nat) (hd : decode code pc = .ok (.if_icmp .le o, 3)) (ho : 0 ≤ (pc : Int) + o) (hT : ((pc : Int) + o).toNat = pcT) (hF : pc + 3 = pcF)
    (ht : ¬ y < x → Wk p l e R s m args below meth c Q FE h locs cells slots (mkF m pcT Ls st)) (hf : y < x → Wk p l e R s m args below meth c Q FE h locs cells slots (mkF m pcF Ls st)) : Wk p l e R s m args below meth c Q FE h locs cells slots (mkF m pc Ls (.int y :: .int x :: st)) := by
  by_cases q : y < x
  · have k := (tlt q).2.2.2
    exact Wk.step (fun T t X eT r => XS.icmpNo X.here C.1 rfl (hb C.2.1 hd) rfl k (by subst hF; exact r)) (hf q)
  · have k := (flt q).2.2.2
    exact Wk.step (fun T t X eT r => XS.icmpYes X.here C.1 rfl rfl (hb C.2.1 hd) rfl k ho hT r) (ht q)
theorem if_le (C : Cx p s m meth c Z code maxL ret own nm R FE k0) {x : Int32} {o : Int} (pcT pcF : Nat) (hd : decode code pc = .ok (.ifCond .le o, 3)) (ho : 0 ≤ (pc : Int) + o) (hT : ((pc : Int) + o).toNat = pcT) (hF : pc + 3 = pcF)
    (ht : ¬ 0 < x → Wk p l e R s m args below meth c Q FE h locs cells slots (mkF m pcT Ls st)) (hf : 0 < x → Wk p l e R s m args below meth c Q FE h locs cells slots (mkF m pcF Ls st)) : Wk p l e R s m args below meth c Q FE h locs cells slots (mkF m pc Ls (.int x :: st)) := by
  by_cases q : 0 < x
  · have k := (if0 _ _).trans (tlt q).2.2.2
    exact Wk.step (fun T t X eT r => XS.ifNo X.here C.1 rfl (hb C.2.1 hd) rfl k (by subst hF; exact r)) (hf q)
  · have k := (if0 _ _).trans (flt q).2.2.2
    exact Wk.step (fun T t X eT r => XS.ifYes X.here C.1 rfl rfl (hb C.2.1 hd) rfl k ho hT r) (ht q)
theorem acmp_eq (C : Cx p s m meth c Z code maxL ret own nm R FE k0) {a b : Addr} {o : Int} (pcT pcF : Nat) (hd : decode code pc = .ok (.if_acmp .eq o, 3)) (ho : 0 ≤ (pc : Int) + o) (hT : ((pc : Int) + o).toNat = pcT) (hF : pc + 3 = pcF)
    (ht : a = b → Wk p l e R s m args below meth c Q FE h locs cells slots (mkF m pcT Ls st)) (hf : ¬ a = b → Wk p l e R s m args below meth c Q FE h locs cells slots (mkF m pcF Ls st)) : Wk p l e R s m args below meth c Q FE h locs cells slots (mkF m pc Ls (.ref b :: .ref a :: st)) := by
  by_cases q : a = b
  · exact Wk.step (fun T t X eT r => RoadKit.acmp (g := mkF m pc Ls (.ref b :: .ref a :: st)) X C.1 rfl rfl rfl (same := true) rfl (hb C.2.1 hd) rfl (decide_eq_true (congrArg Value.ref q)) ho (by rw [← hT]; rfl) r) (ht q)
  · exact Wk.step (fun T t X eT r => RoadKit.acmp (g := mkF m pc Ls (.ref b :: .ref a :: st)) X C.1 rfl rfl rfl (same := false) rfl (hb C.2.1 hd) rfl (decide_eq_false fun u => q (Value.ref.inj u)) ho (by rw [← hF]; rfl) r) (hf q)
theorem acmp_ne (C : Cx p s m meth c Z code maxL ret own nm R FE k0) {a b : Addr} {o : Int} (pcT pcF : Nat) (hd : decode code pc = .ok (.if_acmp .ne o, 3)) (ho : 0 ≤ (pc : Int) + o) (hT : ((pc : Int) + o).toNat = pcT) (hF : pc + 3 = pcF)
    (ht : ¬ a = b → Wk p l e R s m args below meth c Q FE h locs cells slots (mkF m pcT Ls st)) (hf : a = b → Wk p l e R s m args below meth c Q FE h locs cells slots (mkF m pcF Ls st)) : Wk p l e R s m args below meth c Q FE h locs cells slots (mkF m pc Ls (.ref b :: .ref a :: st)) := by
  by_cases q : a = b
  · exact Wk.step (fun T t X eT r => RoadKit.acmp (g := mkF m pc Ls (.ref b :: .ref a :: st)) X C.1 rfl rfl rfl (same := true) rfl (hb C.2.1 hd) rfl (decide_eq_true (congrArg Value.ref q)) ho (by rw [← hF]; rfl) r) (hf q)
  · exact Wk.step (fun T t X eT r => RoadKit.acmp (g := mkF m pc Ls (.ref b :: .ref a :: st)) X C.1 rfl rfl rfl (same := false) rfl (hb C.2.1 hd) rfl (decide_eq_false fun u => q (Value.ref.inj u)) ho (by rw [← hT]; rfl) r) (ht q)
theorem ifnull_ref (C : Cx p s m meth c Z code maxL ret own nm R FE k0) {b : Addr} {o : Int} (hd : decode code pc = .ok (.ifnull o, 3)) (hp : pc + 3 = pc')
    (hr : Wk p l e R s m args below meth c Q FE h locs cells slots (mkF m pc' Ls st)) : Wk p l e R s m args below meth c Q FE h locs cells slots (mkF m pc Ls (.ref b :: st)) :=
  Wk.step (fun T t X eT q => XS.ifnullNo X.here C.1 rfl (hb C.2.1 hd) rfl (by subst hp; exact q)) hr
theorem ifnull_null (C : Cx p s m meth c Z code maxL ret own nm R FE k0) {o : Int} (hd : decode code pc = .ok (.ifnull o, 3)) (ho : 0 ≤ (pc : Int) + o) (hp : ((pc : Int) + o).toNat = pc')
    (hr : Wk p l e R s m args below meth c Q FE h locs cells slots (mkF m pc' Ls st)) : Wk p l e R s m args below meth c Q FE h locs cells slots (mkF m pc Ls (.null :: st)) :=
  Wk.step (fun T t X eT q => XS.ifnullYes X.here C.1 rfl rfl (hb C.2.1 hd) rfl ho hp q) hr
theorem ifnonnull_ref (C : Cx p s m meth c Z code maxL ret own nm R FE k0) {b : Addr} {o : Int} (hd : decode code pc = .ok (.ifnonnull o, 3)) (ho : 0 ≤ (pc : Int) + o) (hp : ((pc : Int) + o).toNat = pc')
    (hr : Wk p l e R s m args below meth c Q FE h locs cells slots (mkF m pc' Ls st)) : Wk p l e R s m args below meth c Q FE h locs cells slots (mkF m pc Ls (.ref b :: st)) :=
  Wk.step (fun T t X eT q => XS.ifnonnullYes X.here C.1 rfl rfl (hb C.2.1 hd) rfl ho hp q) hr
theorem ifnonnull_null (C : Cx p s m meth c Z code maxL ret own nm R FE k0) {o : Int} (hd : decode code pc = .ok (.ifnonnull o, 3)) (hp : pc + 3 = pc')
    (hr : Wk p l e R s m args below meth c Q FE h locs cells slots (mkF m pc' Ls st)) : Wk p l e R s m args below meth c Q FE h locs cells slots (mkF m pc Ls (.null :: st)) :=
  Wk.step (fun T t X eT q => XS.ifnonnullNo X.here C.1 rfl (hb C.2.1 hd) rfl (by subst hp; exact q)) hr
theorem tswIn (C : Cx p s m meth c Z code maxL ret own nm R FE k0) {i : Int32} {dflt low high o : Int} {offs : Array Int} {len : Nat} (hd : decode code pc = .ok (.tableswitch dflt low high offs, len)) (hin : ¬ (i.toInt < low ∨ i.toInt > high)) (hoff : offs[(i.toInt - low).toNat]? = some o) (ho : 0 ≤ (pc : Int) + o) (hp : ((pc : Int) + o).toNat = pc')
    (hr : Wk p l e R s m args below meth c Q FE h locs cells slots (mkF m pc' Ls st)) : Wk p l e R s m args below meth c Q FE h locs cells slots (mkF m pc Ls (.int i :: st)) :=
  Wk.step (fun T t X eT q => XS.tswIn X.here C.1 rfl rfl (hb C.2.1 hd) rfl hin hoff ho hp q) hr
theorem tswOut (C : Cx p s m meth c Z code maxL ret own nm R FE k0) {i : Int32} {dflt low high : Int} {offs : Array Int} {len : Nat} (hd : decode code pc = .ok (.tableswitch dflt low high offs, len)) (hout : i.toInt < low ∨ i.toInt > high) (ho : 0 ≤ (pc : Int) + dflt) (hp : ((pc : Int) + dflt).toNat = pc')
    (hr : Wk p l e R s m args below meth c Q FE h locs cells slots (mkF m pc' Ls st)) : Wk p l e R s m args below meth c Q FE h locs cells slots (mkF m pc Ls (.int i :: st)) :=
  Wk.step (fun T t X eT q => XS.tswOut X.here C.1 rfl rfl (hb C.2.1 hd) rfl hout ho hp q) hr
theorem ldcInt (C : Cx p s m meth c Z code maxL ret own nm R FE k0) {index : Nat} {v : Int32} (w : (Cond.constant own index v).before a0 Z = true) (hd : decode code pc = .ok (.ldc index, 2)) (hp : pc + 2 = pc')
    (hr : Wk p l e R s m args below meth c Q FE h locs cells slots (mkF m pc' Ls (.int v :: st))) : Wk p l e R s m args below meth c Q FE h locs cells slots (mkF m pc Ls st) := by
  subst hp
  exact Wk.step (fun T t X eT q => X.ldcInt C.1 C.2.2.2.2.1 (mvT C.2.2.2.2.2.1 w) (g := mkF m pc Ls st) rfl (hb C.2.1 hd) t q) hr
theorem ldc2Long (C : Cx p s m meth c Z code maxL ret own nm R FE k0) {index : Nat} {v : Int64} (w : (Cond.constantLong own index v).before a0 Z = true) (hd : decode code pc = .ok (.ldc2_w index, 3)) (hp : pc + 3 = pc')
    (hr : Wk p l e R s m args below meth c Q FE h locs cells slots (mkF m pc' Ls (.long v :: st))) : Wk p l e R s m args below meth c Q FE h locs cells slots (mkF m pc Ls st) := by
  subst hp
  exact Wk.step (fun T t X eT q => X.ldc2Long C.1 C.2.2.2.2.1 (mvT C.2.2.2.2.2.1 w) (g := mkF m pc Ls st) rfl (hb C.2.1 hd) t q) hr
theorem getS_ (C : Cx p s m meth c Z code maxL ret own nm R FE k0) {O n d : String} {index : Nat} {v : Value} (w : (Cond.fieldLink own index O n d).before a0 Z = true) (F : Sta Z h O n d v) (hd : decode code pc = .ok (.getstatic index, 3)) (hp : pc + 3 = pc')
    (hr : Wk p l e R s m args below meth c Q FE h locs cells slots (mkF m pc' Ls (v :: st))) : Wk p l e R s m args below meth c Q FE h locs cells slots (mkF m pc Ls st) := by
  subst hp
  exact Wk.law (fun T X eT => RoadKit.getS (host := "") X C.1 C.2.2.2.2.2.1 C.2.2.2.2.1 w Via.refl eT F (g := mkF m pc Ls st) rfl (hb C.2.1 hd)) hr
theorem getF_ (C : Cx p s m meth c Z code maxL ret own nm R FE k0) {R0 O n d : String} {index : Nat} {a : Addr} {v : Value} (w : (Cond.fieldLink own index R0 n d).before a0 Z = true) (via : Via Z R0 O n d) (F : Fld Z h a O n d v) (hd : decode code pc = .ok (.getfield index, 3)) (hp : pc + 3 = pc')
    (hr : Wk p l e R s m args below meth c Q FE h locs cells slots (mkF m pc' Ls (v :: st))) : Wk p l e R s m args below meth c Q FE h locs cells slots (mkF m pc Ls (.ref a :: st)) := by
  subst hp
  exact Wk.law (fun T X eT => RoadKit.getF (host := "") X C.1 C.2.2.2.2.2.1 C.2.2.2.2.1 (Or.inl w) via eT F (g := mkF m pc Ls (.ref a :: st)) rfl rfl (hb C.2.1 hd)) hr
theorem ret_Z (C : Cx p s m meth c Z code maxL ret own nm R FE k0) {z : Int32} (hd : decode code pc = .ok (.ireturn, 1)) (hret : ret = some .boolean) (hz : nar .boolean z = z) (hc : cells ≤ R.cells) (hs : slots ≤ R.slots) (hQ : Q (some (.int z)) h locs) (hk : k0 ≤ h.size := by exact Nat.zero_le _) : Wk p l e R s m args below meth c Q FE h locs cells slots (mkF m pc Ls (.int z :: st)) := fun T X eT => by
  obtain ⟨fs, hr, hrun, hended, hW, hsame⟩ := X.leave (v := some (.int (nar .boolean z))) (fun q => by rw [C.2.2.2.1.trans hret] at q; cases q) C.2.2.2.2.2.2.2.1
  refine ⟨_, _, RoadKit.retN X C.1 (t := .boolean) (C.2.2.2.1.trans hret) (Or.inl rfl) (hb C.2.1 hd) hr, hrun, hended, _, _, rfl, ?_, C.2.2.2.2.2.2.2.2 _ _ _ (by show k0 ≤ T.heap.size; rw [eT]; exact hk) ⟨⟨_, rfl⟩, hW, hsame.mono hc hs⟩⟩
  show Q _ T.heap _
  rw [eT, hz]; exact hQ
theorem ret_I (C : Cx p s m meth c Z code maxL ret own nm R FE k0) {z : Int32} (hd : decode code pc = .ok (.ireturn, 1)) (hret : ret = some .int) (hc : cells ≤ R.cells) (hs : slots ≤ R.slots) (hQ : Q (some (.int z)) h locs) (hk : k0 ≤ h.size := by exact Nat.zero_le _) : Wk p l e R s m args below meth c Q FE h locs cells slots (mkF m pc Ls (.int z :: st)) := fun T X eT => by
  obtain ⟨fs, hr, hrun, hended, hW, hsame⟩ := X.leave (v := some (.int z)) (fun q => by rw [C.2.2.2.1.trans hret] at q; cases q) C.2.2.2.2.2.2.2.1
  refine ⟨_, _, RoadKit.retOut X C.1 (t := .int) (i := .ireturn) (C.2.2.2.1.trans hret) rfl (Or.inl ⟨rfl, Or.inl rfl, z, rfl⟩) (hb C.2.1 hd) hr, hrun, hended, _, _, rfl, ?_, C.2.2.2.2.2.2.2.2 _ _ _ (by show k0 ≤ T.heap.size; rw [eT]; exact hk) ⟨⟨_, rfl⟩, hW, hsame.mono hc hs⟩⟩
  show Q _ T.heap _
  rw [eT]; exact hQ
theorem ret_J (C : Cx p s m meth c Z code maxL ret own nm R FE k0) {z : Int64} (hd : decode code pc = .ok (.lreturn, 1)) (hret : ret = some .long) (hc : cells ≤ R.cells) (hs : slots ≤ R.slots) (hQ : Q (some (.long z)) h locs) (hk : k0 ≤ h.size := by exact Nat.zero_le _) : Wk p l e R s m args below meth c Q FE h locs cells slots (mkF m pc Ls (.long z :: st)) := fun T X eT => by
  obtain ⟨fs, hr, hrun, hended, hW, hsame⟩ := X.leave (v := some (.long z)) (fun q => by rw [C.2.2.2.1.trans hret] at q; cases q) C.2.2.2.2.2.2.2.1
  refine ⟨_, _, RoadKit.retOut X C.1 (t := .long) (i := .lreturn) (C.2.2.2.1.trans hret) rfl (Or.inr (Or.inl ⟨rfl, rfl, z, rfl⟩)) (hb C.2.1 hd) hr, hrun, hended, _, _, rfl, ?_, C.2.2.2.2.2.2.2.2 _ _ _ (by show k0 ≤ T.heap.size; rw [eT]; exact hk) ⟨⟨_, rfl⟩, hW, hsame.mono hc hs⟩⟩
  show Q _ T.heap _
  rw [eT]; exact hQ
theorem ret_A (C : Cx p s m meth c Z code maxL ret own nm R FE k0) {w : Value} {t : FieldType} (hd : decode code pc = .ok (.areturn, 1)) (hret : ret = some t) (ht : t.isReference = true) (hw : w.isRef = true) (hn : narrow t w = w) (hc : cells ≤ R.cells) (hs : slots ≤ R.slots) (hQ : Q (some w) h locs) (hk : k0 ≤ h.size := by exact Nat.zero_le _) : Wk p l e R s m args below meth c Q FE h locs cells slots (mkF m pc Ls (w :: st)) := fun T X eT => by
  obtain ⟨fs, hr, hrun, hended, hW, hsame⟩ := X.leave (v := some w) (fun q => by rw [C.2.2.2.1.trans hret] at q; cases q) C.2.2.2.2.2.2.2.1
  refine ⟨_, _, RoadKit.retOut X C.1 (t := t) (i := .areturn) (C.2.2.2.1.trans hret) hn (Or.inr (Or.inr (Or.inr (Or.inr ⟨rfl, ht, hw⟩)))) (hb C.2.1 hd) hr, hrun, hended, _, _, rfl, ?_, C.2.2.2.2.2.2.2.2 _ _ _ (by show k0 ≤ T.heap.size; rw [eT]; exact hk) ⟨⟨_, rfl⟩, hW, hsame.mono hc hs⟩⟩
  show Q _ T.heap _
  rw [eT]; exact hQ
theorem ret_V (C : Cx p s m meth c Z code maxL ret own nm R FE k0)  (hd : decode code pc = .ok (.return_, 1)) (hret : ret = none) (hc : cells ≤ R.cells) (hs : slots ≤ R.slots) (hQ : Q none h locs) (hk : k0 ≤ h.size := by exact Nat.zero_le _) : Wk p l e R s m args below meth c Q FE h locs cells slots (mkF m pc Ls []) := fun T X eT => by
  obtain ⟨fs, hr, hrun, hended, hW, hsame⟩ := X.leave (v := none) (fun _ => rfl) C.2.2.2.2.2.2.2.1
  refine ⟨_, _, X.returnOut C.1 (C.2.2.2.1.trans hret) (hb C.2.1 hd) hr, hrun, hended, _, _, rfl, ?_, C.2.2.2.2.2.2.2.2 _ _ _ (by show k0 ≤ T.heap.size; rw [eT]; exact hk) ⟨⟨_, rfl⟩, hW, hsame.mono hc hs⟩⟩
  show Q _ T.heap _
  rw [eT]; exact hQ
theorem callS_ (C : Cx p s m meth c Z code maxL ret own nm R FE k0) {y : MethodName} {bytes : ByteArray} {maxL' index : Nat} {ret' : Option FieldType} {rm : Room} {Qc : Option Value → Heap → List Loc → Prop} {ps : List FieldType} {rt : Option FieldType} {W : Nat} (wl : (Cond.methodLink own index y).before a0 Z = true) (ws : (Cond.static y).before a0 Z = true) (wi : (Cond.initialized y.cls).before a0 Z = true) (wc : (Cond.code y bytes maxL' ret').before a0 Z = true) (hy : y.cls ≠ "java/lang/invoke/MethodHandle" ∧ y.cls ≠ "java/lang/invoke/VarHandle")
    (hpd : parseMethodDescriptor y.desc = some ⟨ps, rt⟩) (argsL rest : List Value) (hlen : argsL.length = ps.length) (hsz : Ls.size = maxL) (hW : (rest.map fun v => v.category).sum = W) (hfr : rm.frames + 1 ≤ R.frames) (hlo : W + (maxL' + 11) + rm.locals ≤ R.locals) (hce : cells + rm.cells ≤ R.cells) (hsl : slots + rm.slots ≤ R.slots) (hM : Met0 l Z y [] bytes maxL' ret' rm argsL.toArray h Qc) (hst : st = argsL.reverse ++ rest) (hd : decode code pc = .ok (.invokestatic index, 3)) (hp : pc + 3 = pc')
    (hr : ∀ v h' L, Qc v h' L → Wk p l e R s m args below meth c Q FE h' (locs ++ L) (cells + rm.cells) (slots + rm.slots) (mkF m pc' Ls (v.toList ++ rest))) : Wk p l e R s m args below meth c Q FE h locs cells slots (mkF m pc Ls st) := fun T X eT => by
  subst hp hW hst
  have hZ := C.2.2.2.2.2.1
  obtain ⟨v, vm₁, ⟨T', L', k', n'⟩, -, X', ⟨L, hq, q1, q2, q3⟩, st'⟩ := Jvm.LawKit.callS X C.1 (y := y) C.2.2.2.2.1 (mvT hZ wl) (mvT hZ ws) (mvT hZ wi) (mvT hZ wc) hy (backOf hM hZ wc wi hfr hlo) (g := mkF m pc Ls (argsL.reverse ++ rest)) rfl (by show Ls.size = _; rw [hsz, C.2.2.1]) (argsL := argsL) (rest := rest) (lenOf hpd hlen) rfl (by show 2 * 0 + _ ≤ _; omega) (hb C.2.1 hd) (fun _ _ => ⟨rfl, eT, hce, hsl⟩)
  dsimp only [Pt.U, Pt.locs, Pt.cells, Pt.slots] at X' q1 q2 q3 hq st'
  subst q1 q2 q3
  obtain ⟨s₂, o, st₂, r⟩ := hr v _ L hq T' X' rfl
  exact ⟨s₂, o, st' _ st₂, r⟩
theorem callV_ (C : Cx p s m meth c Z code maxL ret own nm R FE k0) {y : MethodName} {bytes : ByteArray} {maxL' index : Nat} {ret' : Option FieldType} {rm : Room} {Qc : Option Value → Heap → List Loc → Prop} {ps : List FieldType} {rt : Option FieldType} {W : Nat} {z : MethodName} {K : String} {b : Addr} (wl : (Cond.methodLink own index y).before a0 Z = true) (wd : (Cond.declares y).before a0 Z = true) (hnf : ∀ U : State, Z.Warmed39 U.vm → NotFace U y) (wse : (Cond.selects K y z).before a0 Z = true) (win : (Cond.instanceMethod z).before a0 Z = true) (wi : (Cond.initialized z.cls).before a0 Z = true) (wc : (Cond.code z bytes maxL' ret').before a0 Z = true) (hy : y.cls ≠ "java/lang/invoke/MethodHandle" ∧ y.cls ≠ "java/lang/invoke/VarHandle") (E : Exa Z h b K)
    (hpd : parseMethodDescriptor y.desc = some ⟨ps, rt⟩) (argsL rest : List Value) (hlen : argsL.length = ps.length) (hsz : Ls.size = maxL) (hW : (rest.map fun v => v.category).sum = W) (hfr : rm.frames + 1 ≤ R.frames) (hlo : W + (maxL' + 11) + rm.locals ≤ R.locals) (hce : cells + rm.cells ≤ R.cells) (hsl : slots + rm.slots ≤ R.slots) (hM : Met0 l Z z [] bytes maxL' ret' rm (.ref b :: argsL).toArray h Qc) (hst : st = argsL.reverse ++ .ref b :: rest) (hd : decode code pc = .ok (.invokevirtual index, 3)) (hp : pc + 3 = pc')
    (hr : ∀ v h' L, Qc v h' L → Wk p l e R s m args below meth c Q FE h' (locs ++ L) (cells + rm.cells) (slots + rm.slots) (mkF m pc' Ls (v.toList ++ rest))) : Wk p l e R s m args below meth c Q FE h locs cells slots (mkF m pc Ls st) := fun T X eT => by
  subst hp hW hst
  have hZ := C.2.2.2.2.2.1
  obtain ⟨cq, kq, qa, qb, qc⟩ := isOf hZ eT E
  obtain ⟨v, vm₁, ⟨T', L', k', n'⟩, -, X', ⟨L, hq, q1, q2, q3⟩, st'⟩ := X.virtualBack C.1 (y := y) (z := z) C.2.2.2.2.1 (mvT hZ wl) (mvT hZ wd) (hnf s hZ) (mvT hZ wse) (mvT hZ win) hy (backOf hM hZ wc wi hfr hlo) qa qc (g := mkF m pc Ls (argsL.reverse ++ .ref b :: rest)) rfl (by show Ls.size = _; rw [hsz, C.2.2.1]) (Steps.refl _) (argsL := argsL) (rest := rest) (lenOf hpd hlen) rfl (by show 2 * 0 + _ ≤ _; omega) (hb C.2.1 hd) (fun _ _ => ⟨rfl, eT, hce, hsl⟩)
  dsimp only [Pt.U, Pt.locs, Pt.cells, Pt.slots] at X' q1 q2 q3 hq st'
  subst q1 q2 q3
  obtain ⟨s₂, o, st₂, r⟩ := hr v _ L hq T' X' rfl
  exact ⟨s₂, o, st'.trans st₂, r⟩
theorem nf_sel {Z : State} {a0 : Array Value} {y : MethodName} {K : String} (w : (Cond.selects K y y).before a0 Z = true) : ∀ U : State, Z.Warmed39 U.vm → NotFace U y := fun U hZ => notFace_of_selects (args := #[]) (mvT hZ w)
theorem callUp_ (C : Cx p s m meth c Z code maxL ret own nm R FE k0) {y : MethodName} {bytes : ByteArray} {maxL' index : Nat} {ret' : Option FieldType} {rm : Room} {Qc : Option Value → Heap → List Loc → Prop} {ps : List FieldType} {rt : Option FieldType} {W : Nat} {z : MethodName} {K owner : String} {b : Addr} (wl : (Cond.methodLink own index y).before a0 Z = true) (wsm : (Cond.sameMethod y.cls owner y.name y.desc).before a0 Z = true) (wd : (Cond.declares ⟨owner, y.name, y.desc⟩).before a0 Z = true) (wse : (Cond.selects K y z).before a0 Z = true) (win : (Cond.instanceMethod z).before a0 Z = true) (wi : (Cond.initialized z.cls).before a0 Z = true) (wc : (Cond.code z bytes maxL' ret').before a0 Z = true) (hy : owner ≠ "java/lang/invoke/MethodHandle" ∧ owner ≠ "java/lang/invoke/VarHandle") (E : Exa Z h b K)
    (hpd : parseMethodDescriptor y.desc = some ⟨ps, rt⟩) (argsL rest : List Value) (hlen : argsL.length = ps.length) (hsz : Ls.size = maxL) (hW : (rest.map fun v => v.category).sum = W) (hfr : rm.frames + 1 ≤ R.frames) (hlo : W + (maxL' + 11) + rm.locals ≤ R.locals) (hce : cells + rm.cells ≤ R.cells) (hsl : slots + rm.slots ≤ R.slots) (hM : Met0 l Z z [] bytes maxL' ret' rm (.ref b :: argsL).toArray h Qc) (hst : st = argsL.reverse ++ .ref b :: rest) (hd : decode code pc = .ok (.invokevirtual index, 3)) (hp : pc + 3 = pc')
    (hr : ∀ v h' L, Qc v h' L → Wk p l e R s m args below meth c Q FE h' (locs ++ L) (cells + rm.cells) (slots + rm.slots) (mkF m pc' Ls (v.toList ++ rest))) : Wk p l e R s m args below meth c Q FE h locs cells slots (mkF m pc Ls st) := fun T X eT => by
  subst hp hW hst
  have hZ := C.2.2.2.2.2.1
  obtain ⟨cq, kq, qa, qb, qc⟩ := isOf hZ eT E
  obtain ⟨v, vm₁, ⟨T', L', k', n'⟩, -, X', ⟨L, hq, q1, q2, q3⟩, st'⟩ := X.virtualBackUp C.1 (x := y) (y := z) C.2.2.2.2.1 (mvT hZ wl) (mvT hZ wsm) (mvT hZ wd) hy (mvT hZ wse) (mvT hZ win) (backOf hM hZ wc wi hfr hlo) qa qc (g := mkF m pc Ls (argsL.reverse ++ .ref b :: rest)) rfl (by show Ls.size = _; rw [hsz, C.2.2.1]) (Steps.refl _) (argsL := argsL) (rest := rest) (lenOf hpd hlen) rfl (by show 2 * 0 + _ ≤ _; omega) (hb C.2.1 hd) (fun _ _ => ⟨rfl, eT, hce, hsl⟩)
  dsimp only [Pt.U, Pt.locs, Pt.cells, Pt.slots] at X' q1 q2 q3 hq st'
  subst q1 q2 q3
  obtain ⟨s₂, o, st₂, r⟩ := hr v _ L hq T' X' rfl
  exact ⟨s₂, o, st'.trans st₂, r⟩
theorem instY_ (C : Cx p s m meth c Z code maxL ret own nm R FE k0) {K : String} {index : Nat} {a : Addr} (w : (Cond.classLink own index K).before a0 Z = true) (F : Ins Z h a K true) (hd : decode code pc = .ok (.instanceof index, 3)) (hp : pc + 3 = pc')
    (hr : Wk p l e R s m args below meth c Q FE h locs cells slots (mkF m pc' Ls (.int 1 :: st))) : Wk p l e R s m args below meth c Q FE h locs cells slots (mkF m pc Ls (.ref a :: st)) := by
  subst hp
  exact Wk.law (fun T X eT => RoadKit.instY X C.1 C.2.2.2.2.2.1 C.2.2.2.2.1 w eT F (g := mkF m pc Ls (.ref a :: st)) rfl rfl (hb C.2.1 hd)) hr
theorem newO_ (C : Cx p s m meth c Z code maxL ret own nm R FE k0) {K : String} {index n : Nat} (w : (Cond.classLink own index K).before a0 Z = true) (wi : (Cond.instantiable K n).before a0 Z = true) (wz : (Cond.initialized K).before a0 Z = true) (hd : decode code pc = .ok (.new index, 3)) (hp : pc + 3 = pc') (hc : cells + 1 ≤ R.cells) (hl : slots + n ≤ R.slots)
    (hr : ∀ h' a, a = h.size → Ext h h' → Exa Z h' a K → (∀ {O nm d : String} {ty : FieldType}, Laid Z a0 K O nm d → parseFieldDescriptor d = some ty → Fld Z h' a O nm d (defaultValue ty)) → Wk p l e R s m args below meth c Q FE h' locs (cells + 1) (slots + n) (mkF m pc' Ls (.ref a :: st))) : Wk p l e R s m args below meth c Q FE h locs cells slots (mkF m pc Ls st) := fun T X eT => by
  subst hp
  obtain ⟨T', h', X', e', E', A', D', -, q⟩ := RoadKit.newO X C.1 C.2.2.2.2.2.1 C.2.2.2.2.1 w wi wz eT (g := mkF m pc Ls st) rfl (hb C.2.1 hd) hc hl
  obtain ⟨s₂, o, st₂, r⟩ := hr h' _ rfl E' A' D' T' X' e'
  exact ⟨s₂, o, q s₂ st₂, r⟩
theorem putF_ (C : Cx p s m meth c Z code maxL ret own nm R FE k0) {R0 O n d K : String} {index kk : Nat} {ty : FieldType} {a : Addr} {v old : Value} (w : (Cond.fieldLink own index R0 n d).before a0 Z = true) (via : Via Z R0 O n d) (F : Fld Z h a O n d old) (E : Exa Z h a K) (Lw : (Cond.lays K O n d).before a0 Z = true ∨ ((Cond.laysFinal K O n d).before a0 Z = true ∧ own = O ∧ nm = "<init>")) (wi : (Cond.instantiable K kk).before a0 Z = true)
    (hty : parseFieldDescriptor d = some ty) (hn : narrow ty v = v) (hf : fits ty v = true) (hd : decode code pc = .ok (.putfield index, 3)) (hp : pc + 3 = pc')
    (hr : ∀ h', Wr h h' a (Jvm.RoadKit.slotOf Z O n d) v → Wk p l e R s m args below meth c Q FE h' (locs ++ [⟨a, Jvm.RoadKit.slotOf Z O n d⟩]) cells slots (mkF m pc' Ls st)) : Wk p l e R s m args below meth c Q FE h locs cells slots (mkF m pc Ls (v :: .ref a :: st)) := fun T X eT => by
  subst hp
  obtain ⟨T', h', X', e', W', q⟩ := RoadKit.putF (host := "") X C.1 C.2.2.2.2.2.1 C.2.2.2.2.1 (Or.inl w) via eT F E (Lw.imp id fun z => ⟨z.1, z.2.1, C.2.2.2.2.2.2.1.trans z.2.2⟩) wi hty hn hf (g := mkF m pc Ls (v :: .ref a :: st)) rfl rfl (hb C.2.1 hd)
  obtain ⟨s₂, o, st₂, r⟩ := hr h' W' T' X' e'
  exact ⟨s₂, o, q s₂ st₂, r⟩
theorem initO_ (C : Cx p s m meth c Z code maxL ret own nm R FE k0) {index : Nat} {a : Addr} {W : Nat} (w1 : (Cond.methodLink own index Lib.objectInit).before a0 Z = true) (w2 : (Cond.instanceMethod Lib.objectInit).before a0 Z = true) (w3 : (Cond.code Lib.objectInit ⟨#[0xb1]⟩ 1 none).before a0 Z = true) (hsz : Ls.size = maxL) (hd : decode code pc = .ok (.invokespecial index, 3)) (hf : 1 ≤ R.frames) (hW : (st.map fun v => v.category).sum = W) (hl : W + 12 ≤ R.locals) (hp : pc + 3 = pc')
    (hr : Wk p l e R s m args below meth c Q FE h locs cells slots (mkF m pc' Ls st)) : Wk p l e R s m args below meth c Q FE h locs cells slots (mkF m pc Ls (.ref a :: st)) := by
  subst hp hW
  exact Wk.law (fun T X eT => RoadKit.initO X C.1 C.2.2.2.2.2.1 C.2.2.2.2.1 w1 w2 w3 eT (g := mkF m pc Ls (.ref a :: st)) rfl (by show Ls.size = _; rw [hsz, C.2.2.1]) rfl (hb C.2.1 hd) hf (by show 2 * 0 + _ ≤ _; omega) hl) hr
theorem callC_ (C : Cx p s m meth c Z code maxL ret own nm R FE k0) {y : MethodName} {bytes : ByteArray} {maxL' index : Nat} {rm : Room} {Qc : Option Value → Heap → List Loc → Prop} {ps : List FieldType} {rt : Option FieldType} {W : Nat} {a : Addr} (hy1 : y.name = "<init>") (wl : (Cond.methodLink own index y).before a0 Z = true) (win : (Cond.instanceMethod y).before a0 Z = true) (wi : (Cond.initialized y.cls).before a0 Z = true) (wc : (Cond.code y bytes maxL' none).before a0 Z = true) (hy : y.cls ≠ "java/lang/invoke/MethodHandle" ∧ y.cls ≠ "java/lang/invoke/VarHandle")
    (hpd : parseMethodDescriptor y.desc = some ⟨ps, rt⟩) (argsL rest : List Value) (hlen : argsL.length = ps.length) (hsz : Ls.size = maxL) (hW : (rest.map fun v => v.category).sum = W) (hfr : rm.frames + 1 ≤ R.frames) (hlo : W + (maxL' + 11) + rm.locals ≤ R.locals) (hce : cells + rm.cells ≤ R.cells) (hsl : slots + rm.slots ≤ R.slots) (hM : Met0 l Z y [] bytes maxL' none rm (.ref a :: argsL).toArray h Qc) (hst : st = argsL.reverse ++ .ref a :: rest) (hd : decode code pc = .ok (.invokespecial index, 3)) (hp : pc + 3 = pc')
    (hr : ∀ v h' L, Qc v h' L → Wk p l e R s m args below meth c Q FE h' (locs ++ L) (cells + rm.cells) (slots + rm.slots) (mkF m pc' Ls (v.toList ++ rest))) : Wk p l e R s m args below meth c Q FE h locs cells slots (mkF m pc Ls st) := fun T X eT => by
  subst hp hW hst
  have hZ := C.2.2.2.2.2.1
  obtain ⟨v, vm₁, ⟨T', L', k', n'⟩, -, X', ⟨L, hq, q1, q2, q3⟩, st'⟩ := X.specialBack C.1 (y := y) hy1 C.2.2.2.2.1 (mvT hZ wl) (mvT hZ win) (mvT hZ wc) hy (backOf hM hZ wc wi hfr hlo) (g := mkF m pc Ls (argsL.reverse ++ .ref a :: rest)) rfl (by show Ls.size = _; rw [hsz, C.2.2.1]) (Steps.refl _) (a := a) (argsL := argsL) (rest := rest) (lenOf hpd hlen) rfl (by show 2 * 0 + _ ≤ _; omega) (hb C.2.1 hd) (fun _ _ => ⟨rfl, eT, hce, hsl⟩)
  dsimp only [Pt.U, Pt.locs, Pt.cells, Pt.slots] at X' q1 q2 q3 hq st'
  subst q1 q2 q3
  obtain ⟨s₂, o, st₂, r⟩ := hr v _ L hq T' X' rfl
  exact ⟨s₂, o, st'.trans st₂, r⟩
theorem callF_ (C : Cx p s m meth c Z code maxL ret own nm R FE k0) {y : MethodName} {bytes : ByteArray} {maxL' index : Nat} {ret' : Option FieldType} {rm : Room} {Qc : Option Value → Heap → List Loc → Prop} {ps : List FieldType} {rt : Option FieldType} {W : Nat} {z : MethodName} {K : String} {b : Addr} {count : Nat} (wl : (Cond.methodLink own index y).before a0 Z = true) (wd : (Cond.declares y).before a0 Z = true) (wim : (Cond.interfaceMethod y.cls y.cls y.name y.desc).before a0 Z = true) (hfa : ((Cond.interfaceMethod y.cls y.cls y.name y.desc).onTables && (Cond.interfaceMethod y.cls y.cls y.name y.desc).keepsFace) = true) (wse : (Cond.selects K y z).before a0 Z = true) (win : (Cond.instanceMethod z).before a0 Z = true) (wpu : (Cond.publicMethod z).before a0 Z = true) (wun : (Cond.unhidden K y.name y.desc).before a0 Z = true) (wca : (Cond.castable K y.cls).before a0 Z = true) (wi : (Cond.initialized z.cls).before a0 Z = true) (wc : (Cond.code z bytes maxL' ret').before a0 Z = true) (hy : y.cls ≠ "java/lang/invoke/MethodHandle" ∧ y.cls ≠ "java/lang/invoke/VarHandle") (E : Exa Z h b K)
    (hpd : parseMethodDescriptor y.desc = some ⟨ps, rt⟩) (argsL rest : List Value) (hlen : argsL.length = ps.length) (hsz : Ls.size = maxL) (hW : (rest.map fun v => v.category).sum = W) (hfr : rm.frames + 1 ≤ R.frames) (hlo : W + (maxL' + 11) + rm.locals ≤ R.locals) (hce : cells + rm.cells ≤ R.cells) (hsl : slots + rm.slots ≤ R.slots) (hM : Met0 l Z z [] bytes maxL' ret' rm (.ref b :: argsL).toArray h Qc) (hst : st = argsL.reverse ++ .ref b :: rest) (hd : decode code pc = .ok (.invokeinterface index count, 5)) (hp : pc + 5 = pc')
    (hr : ∀ v h' L, Qc v h' L → Wk p l e R s m args below meth c Q FE h' (locs ++ L) (cells + rm.cells) (slots + rm.slots) (mkF m pc' Ls (v.toList ++ rest))) : Wk p l e R s m args below meth c Q FE h locs cells slots (mkF m pc Ls st) := fun T X eT => by
  subst hp hW hst
  have hZ := C.2.2.2.2.2.1
  obtain ⟨cq, kq, qa, qb, qc⟩ := isOf hZ eT E
  obtain ⟨v, vm₁, ⟨T', L', k', n'⟩, -, X', ⟨L, hq, q1, q2, q3⟩, st'⟩ := X.interfaceBack C.1 (xi := y) (y := z) C.2.2.2.2.1 (mvT hZ wl) (mvT hZ wd) (mvT hZ wim hfa) (mvT hZ wse) (mvT hZ win) (mvT hZ wpu) (mvT hZ wun) (mvT hZ wca) hy (backOf hM hZ wc wi hfr hlo) qa qb qc (g := mkF m pc Ls (argsL.reverse ++ .ref b :: rest)) rfl (by show Ls.size = _; rw [hsz, C.2.2.1]) (Steps.refl _) (argsL := argsL) (rest := rest) (lenOf hpd hlen) rfl (by show 2 * 0 + _ ≤ _; omega) (hb C.2.1 hd) (fun _ _ => ⟨rfl, eT, hce, hsl⟩)
  dsimp only [Pt.U, Pt.locs, Pt.cells, Pt.slots] at X' q1 q2 q3 hq st'
  subst q1 q2 q3
  obtain ⟨s₂, o, st₂, r⟩ := hr v _ L hq T' X' rfl
  exact ⟨s₂, o, st'.trans st₂, r⟩
theorem newP_ (C : Cx p s m meth c Z code maxL ret own nm R FE k0) {aty : ArrayType} {ty : FieldType} {n : Int32} {cap : Nat} (hty : newarray.typeOf aty = ty) (w : (Cond.arrayClass ty).before a0 Z = true) (hd : decode code pc = .ok (.newarray aty, 2)) (hp : pc + 2 = pc') (hn : ¬ n < 0) (hcap : n.toNatClampNeg ≤ cap) (hb8 : cap * 8 ≤ 536870912) (hc : cells + 1 ≤ R.cells) (hl : slots + cap ≤ R.slots)
    (hr : ∀ h' cA a, a = h.size → Ext h h' → Arv Z h' a cA ty n [] (defaultValue ty) → Wk p l e R s m args below meth c Q FE h' locs (cells + 1) (slots + cap) (mkF m pc' Ls (.ref a :: st))) : Wk p l e R s m args below meth c Q FE h locs cells slots (mkF m pc Ls (.int n :: st)) := fun T X eT => by
  subst hp hty
  obtain ⟨T', h', cA, X', e', E', A', q⟩ := RoadKit.newP X C.1 C.2.2.2.2.2.1 w eT (g := mkF m pc Ls (.int n :: st)) rfl (hb C.2.1 hd) rfl hn hcap hb8 hc hl
  obtain ⟨s₂, o, st₂, r⟩ := hr h' cA _ rfl E' (Arv.new A' hn) T' X' e'
  exact ⟨s₂, o, q s₂ st₂, r⟩
theorem newR_ (C : Cx p s m meth c Z code maxL ret own nm R FE k0) {K : String} {index : Nat} {n : Int32} {cap : Nat} (w1 : (Cond.classLink own index K).before a0 Z = true) (w2 : (Cond.arrayOver (.object K)).before a0 Z = true) (hd : decode code pc = .ok (.anewarray index, 3)) (hp : pc + 3 = pc') (hn : ¬ n < 0) (hcap : n.toNatClampNeg ≤ cap) (hb8 : cap * 8 ≤ 536870912) (hc : cells + 1 ≤ R.cells) (hl : slots + cap ≤ R.slots)
    (hr : ∀ h' cA a, a = h.size → Ext h h' → Arv Z h' a cA (.object K) n [] (defaultValue (.object K)) → Ovr Z cA K → Wk p l e R s m args below meth c Q FE h' locs (cells + 1) (slots + cap) (mkF m pc' Ls (.ref a :: st))) : Wk p l e R s m args below meth c Q FE h locs cells slots (mkF m pc Ls (.int n :: st)) := fun T X eT => by
  subst hp
  obtain ⟨T', h', cA, X', e', E', A', O', q⟩ := RoadKit.newR X C.1 C.2.2.2.2.2.1 C.2.2.2.2.1 w1 w2 eT (g := mkF m pc Ls (.int n :: st)) rfl (hb C.2.1 hd) rfl hn hcap hb8 hc hl
  obtain ⟨s₂, o, st₂, r⟩ := hr h' cA _ rfl E' (Arv.new A' hn) O' T' X' e'
  exact ⟨s₂, o, q s₂ st₂, r⟩
theorem stI_ (C : Cx p s m meth c Z code maxL ret own nm R FE k0) {a : Addr} {k : ClassId} {n j x : Int32} {vs : List Value} {dv : Value} (A : Arv Z h a k .int n vs dv) (hj : ¬ j < 0 ∧ j < n) (i : Nat) (hi : j.toNatClampNeg = i) (hlen : i < vs.length) (hd : decode code pc = .ok (.iastore, 1)) (hp : pc + 1 = pc')
    (hr : ∀ h', Wr h h' a j.toNatClampNeg (.int x) → Arv Z h' a k .int n (vs.set i (.int x)) dv → Wk p l e R s m args below meth c Q FE h' (locs ++ [⟨a, j.toNatClampNeg⟩]) cells slots (mkF m pc' Ls st)) : Wk p l e R s m args below meth c Q FE h locs cells slots (mkF m pc Ls (.int x :: .int j :: .ref a :: st)) := fun T X eT => by
  subst hp
  obtain ⟨cl, A1, q1, S1, N1, H1, G1⟩ := A
  obtain ⟨T', h', X', e', W', q⟩ := RoadKit.stI X C.1 C.2.2.2.2.2.1 eT A1 (inb_of S1 hj) (g := mkF m pc Ls (.int x :: .int j :: .ref a :: st)) rfl rfl (hb C.2.1 hd)
  obtain ⟨s₂, o, st₂, r⟩ := hr h' W' (Arv.set A1 q1 S1 N1 H1 G1 rfl W' i hi hlen) T' X' e'
  exact ⟨s₂, o, q s₂ st₂, r⟩
theorem stR_ (C : Cx p s m meth c Z code maxL ret own nm R FE k0) {a b : Addr} {k : ClassId} {K : String} {n j : Int32} {vs : List Value} {dv : Value} (A : Arv Z h a k (.object K) n vs dv) (O : Ovr Z k K) (I : Ins Z h b K true) (hj : ¬ j < 0 ∧ j < n) (i : Nat) (hi : j.toNatClampNeg = i) (hlen : i < vs.length) (hd : decode code pc = .ok (.aastore, 1)) (hp : pc + 1 = pc')
    (hr : ∀ h', Wr h h' a j.toNatClampNeg (.ref b) → Arv Z h' a k (.object K) n (vs.set i (.ref b)) dv → Wk p l e R s m args below meth c Q FE h' (locs ++ [⟨a, j.toNatClampNeg⟩]) cells slots (mkF m pc' Ls st)) : Wk p l e R s m args below meth c Q FE h locs cells slots (mkF m pc Ls (.ref b :: .int j :: .ref a :: st)) := fun T X eT => by
  subst hp
  obtain ⟨cl, A1, q1, S1, N1, H1, G1⟩ := A
  obtain ⟨T', h', X', e', W', q⟩ := RoadKit.stR X C.1 C.2.2.2.2.2.1 eT A1 (inb_of S1 hj) rfl (Sto.ofV A1 q1 O I) (g := mkF m pc Ls (.ref b :: .int j :: .ref a :: st)) rfl rfl (hb C.2.1 hd)
  obtain ⟨s₂, o, st₂, r⟩ := hr h' W' (Arv.set A1 q1 S1 N1 H1 G1 rfl W' i hi hlen) T' X' e'
  exact ⟨s₂, o, q s₂ st₂, r⟩
theorem ldI_ (C : Cx p s m meth c Z code maxL ret own nm R FE k0) {a : Addr} {cl : Cell} {j : Int32} {v : Value} (A : Arr Z h a cl .int) (hin : ¬ (j < 0 ∨ cl.slots.size ≤ j.toNatClampNeg)) (hv : cl.slots[j.toNatClampNeg]? = some v) (hd : decode code pc = .ok (.iaload, 1)) (hp : pc + 1 = pc')
    (hr : Wk p l e R s m args below meth c Q FE h locs cells slots (mkF m pc' Ls (v :: st))) : Wk p l e R s m args below meth c Q FE h locs cells slots (mkF m pc Ls (.int j :: .ref a :: st)) := by
  subst hp
  exact Wk.step (fun T t X eT q => X.iaload C.1 (j := j) (v := v) (by rw [eT]; exact A.1) (State.isArrayOf_alike C.2.2.2.2.2.1.alike A.2.1) A.2.2 hin hv (g := mkF m pc Ls (.int j :: .ref a :: st)) rfl rfl (hb C.2.1 hd) t q) hr
theorem ldA_ (C : Cx p s m meth c Z code maxL ret own nm R FE k0) {a : Addr} {cl : Cell} {ty : FieldType} {j : Int32} {v : Value} (A : Arr Z h a cl ty) (hty : ty.isReference = true) (hin : ¬ (j < 0 ∨ cl.slots.size ≤ j.toNatClampNeg)) (hv : cl.slots[j.toNatClampNeg]? = some v) (hd : decode code pc = .ok (.aaload, 1)) (hp : pc + 1 = pc')
    (hr : Wk p l e R s m args below meth c Q FE h locs cells slots (mkF m pc' Ls (v :: st))) : Wk p l e R s m args below meth c Q FE h locs cells slots (mkF m pc Ls (.int j :: .ref a :: st)) := by
  subst hp
  exact Wk.step (fun T t X eT q => X.aaload C.1 (j := j) (v := v) (by rw [eT]; exact A.1) (State.isArrayOf_alike C.2.2.2.2.2.1.alike A.2.1) hty A.2.2 hin hv (g := mkF m pc Ls (.int j :: .ref a :: st)) rfl rfl (hb C.2.1 hd) t q) hr
theorem Fr.put {k : Nat} {L : List Loc} {a : Addr} {i : Nat} (N : Fr k L) (q : k ≤ a) : Fr k (L ++ [⟨a, i⟩]) := N.app fun y hy => by cases List.mem_singleton.mp hy; exact q
theorem ldcS_ {vm0 : Vm} (C : Cx p (s.setVm vm0) m meth c Z code maxL ret own nm R (FEw s R) k0) (hS : s.Since vm0 k0) (hk : k0 ≤ h.size) {text : String} {index n : Nat} (w : (Cond.stringLink own index text).before a0 Z = true) (wS : ∀ a ∈ Bundle.stringAtoms, a.before a0 Z = true) (hd : decode code pc = .ok (.ldc index, 2)) (hp : pc + 2 = pc') (hn : 4 * text.toList.length ≤ n) (hbig : n ≤ 536870912) (hc : cells + 2 ≤ R.cells) (hl : slots + (n + 4) ≤ R.slots)
    (hr : ∀ vm1 k1 a h', Cx p (s.setVm vm1) m meth c Z code maxL ret own nm R (FEw s R) k1 → s.Since vm1 k1 → k1 ≤ h'.size → Ext h h' → Wk p l e R (s.setVm vm1) m args below meth c Q (FEw s R) h' locs (cells + 2) (slots + (n + 4)) (mkF m pc' Ls (.ref a :: st))) : Wk p l e R (s.setVm vm0) m args below meth c Q (FEw s R) h locs cells slots (mkF m pc Ls st) := fun T X eT => by
  subst hp
  obtain ⟨a, T', h', k1, X', e', E', hS', hk', hZ', ho', q⟩ := RoadKit.ldcS X C.1 C.2.2.2.2.2.1 C.2.2.2.2.1 w wS eT hS hk (g := mkF m pc Ls st) rfl (hb C.2.1 hd) hn hbig hc hl
  obtain ⟨s₂, o, st₂, r⟩ := hr T'.vm k1 a h' ⟨C.1, C.2.1, C.2.2.1, C.2.2.2.1, ho', hZ', C.2.2.2.2.2.2.1, C.2.2.2.2.2.2.2.1, fe_since hS'⟩ hS' hk' E' T' X' e'
  exact ⟨s₂, o, q s₂ st₂, r⟩
theorem callCS_ {vm0 : Vm} (C : Cx p (s.setVm vm0) m meth c Z code maxL ret own nm R (FEw s R) k0) (hS : s.Since vm0 k0) (hk : k0 ≤ h.size) {y : MethodName} {bytes : ByteArray} {maxL' index : Nat} {rm : Room} {Qc : Option Value → Heap → List Loc → Prop} {ps : List FieldType} {rt : Option FieldType} {W : Nat} {a : Addr} (hy1 : y.name = "<init>") (wl : (Cond.methodLink own index y).before a0 Z = true) (win : (Cond.instanceMethod y).before a0 Z = true) (wi : (Cond.initialized y.cls).before a0 Z = true) (wc : (Cond.code y bytes maxL' none).before a0 Z = true) (hy : y.cls ≠ "java/lang/invoke/MethodHandle" ∧ y.cls ≠ "java/lang/invoke/VarHandle")
    (hpd : parseMethodDescriptor y.desc = some ⟨ps, rt⟩) (argsL rest : List Value) (hlen : argsL.length = ps.length) (hsz : Ls.size = maxL) (hW : (rest.map fun v => v.category).sum = W) (hfr : rm.frames + 1 ≤ R.frames) (hlo : W + (maxL' + 11) + rm.locals ≤ R.locals) (hce : cells + rm.cells ≤ R.cells) (hsl : slots + rm.slots ≤ R.slots) (hM : MetS l Z y [] bytes maxL' none rm (.ref a :: argsL).toArray h Qc) (hst : st = argsL.reverse ++ .ref a :: rest) (hd : decode code pc = .ok (.invokespecial index, 3)) (hp : pc + 3 = pc')
    (hr : ∀ vm1 k1 v h' L, Qc v h' L → Cx p (s.setVm vm1) m meth c Z code maxL ret own nm R (FEw s R) k1 → s.Since vm1 k1 → k1 ≤ h'.size → h.size ≤ h'.size → Wk p l e R (s.setVm vm1) m args below meth c Q (FEw s R) h' (locs ++ L) (cells + rm.cells) (slots + rm.slots) (mkF m pc' Ls (v.toList ++ rest))) : Wk p l e R (s.setVm vm0) m args below meth c Q (FEw s R) h locs cells slots (mkF m pc Ls st) := fun T X eT => by
  subst hp hW hst
  have hZ : Z.Warmed39 (s.setVm vm0).vm := C.2.2.2.2.2.1
  obtain ⟨v, vm₁, ⟨T', L', k', n'⟩, -, X', hS', hgr, ⟨L, hq, q1, q2, q3⟩, st'⟩ := X.specialBackS C.1 (y := y) hy1 C.2.2.2.2.1 (mvT hZ wl) (mvT hZ win) (mvT hZ wc) hy (backOfS hM hZ wc wi hfr hlo) (g := mkF m pc Ls (argsL.reverse ++ .ref a :: rest)) rfl (by show Ls.size = _; rw [hsz, C.2.2.1]) (Steps.refl _) (a := a) (argsL := argsL) (rest := rest) (lenOf hpd hlen) rfl (by show 2 * 0 + _ ≤ _; omega) (hb C.2.1 hd) (fun _ _ => ⟨rfl, eT, hce, hsl⟩)
  dsimp only [Pt.U, Pt.locs, Pt.cells, Pt.slots] at X' q1 q2 q3 hq hgr hS' st'
  subst q1 q2 q3
  have hS1 : s.Since T'.vm T'.heap.size := foldS hS (by rw [eT]; exact hk) hS' hgr
  obtain ⟨s₂, o, st₂, r⟩ := hr T'.vm T'.heap.size v _ L hq ⟨C.1, C.2.1, C.2.2.1, C.2.2.2.1, by rw [show (s.setVm T'.vm).vm = T'.vm from rfl, hS'.1.alike.findClass]; exact C.2.2.2.2.1, State.Warmed39.trans (t := s.setVm vm0) C.2.2.2.2.2.1 hS'.1, C.2.2.2.2.2.2.1, C.2.2.2.2.2.2.2.1, fe_since hS1⟩ hS1 (Nat.le_refl _) (by rw [← eT]; exact hgr) T' X' rfl
  exact ⟨s₂, o, st'.trans st₂, r⟩
theorem callVS_ {vm0 : Vm} (C : Cx p (s.setVm vm0) m meth c Z code maxL ret own nm R (FEw s R) k0) (hS : s.Since vm0 k0) (hk : k0 ≤ h.size) {y : MethodName} {bytes : ByteArray} {maxL' index : Nat} {ret' : Option FieldType} {rm : Room} {Qc : Option Value → Heap → List Loc → Prop} {ps : List FieldType} {rt : Option FieldType} {W : Nat} {z : MethodName} {K : String} {b : Addr} (wl : (Cond.methodLink own index y).before a0 Z = true) (wd : (Cond.declares y).before a0 Z = true) (hnf : ∀ U : State, Z.Warmed39 U.vm → NotFace U y) (wse : (Cond.selects K y z).before a0 Z = true) (win : (Cond.instanceMethod z).before a0 Z = true) (wi : (Cond.initialized z.cls).before a0 Z = true) (wc : (Cond.code z bytes maxL' ret').before a0 Z = true) (hy : y.cls ≠ "java/lang/invoke/MethodHandle" ∧ y.cls ≠ "java/lang/invoke/VarHandle") (E : Exa Z h b K)
    (hpd : parseMethodDescriptor y.desc = some ⟨ps, rt⟩) (argsL rest : List Value) (hlen : argsL.length = ps.length) (hsz : Ls.size = maxL) (hW : (rest.map fun v => v.category).sum = W) (hfr : rm.frames + 1 ≤ R.frames) (hlo : W + (maxL' + 11) + rm.locals ≤ R.locals) (hce : cells + rm.cells ≤ R.cells) (hsl : slots + rm.slots ≤ R.slots) (hM : MetS l Z z [] bytes maxL' ret' rm (.ref b :: argsL).toArray h Qc) (hst : st = argsL.reverse ++ .ref b :: rest) (hd : decode code pc = .ok (.invokevirtual index, 3)) (hp : pc + 3 = pc')
    (hr : ∀ vm1 k1 v h' L, Qc v h' L → Cx p (s.setVm vm1) m meth c Z code maxL ret own nm R (FEw s R) k1 → s.Since vm1 k1 → k1 ≤ h'.size → h.size ≤ h'.size → Wk p l e R (s.setVm vm1) m args below meth c Q (FEw s R) h' (locs ++ L) (cells + rm.cells) (slots + rm.slots) (mkF m pc' Ls (v.toList ++ rest))) : Wk p l e R (s.setVm vm0) m args below meth c Q (FEw s R) h locs cells slots (mkF m pc Ls st) := fun T X eT => by
  subst hp hW hst
  have hZ : Z.Warmed39 (s.setVm vm0).vm := C.2.2.2.2.2.1
  obtain ⟨cq, kq, qa, qb, qc⟩ := isOf (s := s.setVm vm0) hZ eT E
  obtain ⟨v, vm₁, ⟨T', L', k', n'⟩, -, X', hS', hgr, ⟨L, hq, q1, q2, q3⟩, st'⟩ := X.virtualBackS C.1 (y := y) (z := z) C.2.2.2.2.1 (mvT hZ wl) (mvT hZ wd) (hnf _ hZ) (mvT hZ wse) (mvT hZ win) hy (backOfS hM hZ wc wi hfr hlo) qa qc (g := mkF m pc Ls (argsL.reverse ++ .ref b :: rest)) rfl (by show Ls.size = _; rw [hsz, C.2.2.1]) (Steps.refl _) (argsL := argsL) (rest := rest) (lenOf hpd hlen) rfl (by show 2 * 0 + _ ≤ _; omega) (hb C.2.1 hd) (fun _ _ => ⟨rfl, eT, hce, hsl⟩)
  dsimp only [Pt.U, Pt.locs, Pt.cells, Pt.slots] at X' q1 q2 q3 hq hgr hS' st'
  subst q1 q2 q3
  have hS1 : s.Since T'.vm T'.heap.size := foldS hS (by rw [eT]; exact hk) hS' hgr
  obtain ⟨s₂, o, st₂, r⟩ := hr T'.vm T'.heap.size v _ L hq ⟨C.1, C.2.1, C.2.2.1, C.2.2.2.1, by rw [show (s.setVm T'.vm).vm = T'.vm from rfl, hS'.1.alike.findClass]; exact C.2.2.2.2.1, State.Warmed39.trans (t := s.setVm vm0) C.2.2.2.2.2.1 hS'.1, C.2.2.2.2.2.2.1, C.2.2.2.2.2.2.2.1, fe_since hS1⟩ hS1 (Nat.le_refl _) (by rw [← eT]; exact hgr) T' X' rfl
  exact ⟨s₂, o, st'.trans st₂, r⟩
end Steps
/-! ## what the case says of a constant -/
theorem Ext.refl (h : Heap) : Ext h h := ⟨Nat.le_refl _, fun _ _ q => q⟩
theorem sta_of {s : State} {args : Array Value} {C n d K : String} (hx : (Cond.exactly (.static C n d) K).value args s none s [] = some true) (wi : (Cond.initialized C).before args s = true) (wl : (Cond.laysStatic C n d).before args s = true) : ∃ a, (Term.static C n d).eval args s none [] s = some (.ref a) ∧ Sta s s.heap C n d (.ref a) ∧ Exa s s.heap a K := by
  obtain ⟨a, ev⟩ := exa_v hx
  exact ⟨a, ev, Sta.start ev (Or.inr ⟨wi, wl⟩), Exa.start ev hx⟩
theorem fld_of {s : State} {args : Array Value} {t : Term} {a : Addr} {C n d : String} {k : Int32} (ev : t.eval args s none [] s = some (.ref a)) (hx : (Cond.eq (.field t C n d) (.int k)).value args s none s [] = some true) : Fld s s.heap a C n d (.int k) := by
  obtain ⟨x, y, h1, h2, -, -⟩ := cmp_v (Or.inl hx)
  have h2' : y = .int k := (Option.some.inj h2).symm
  subst h2'
  have h3 : x = .int k := by
    cases x <;> simp [Cond.value, h1, h2] at hx
    · rw [hx]
  subst h3
  rw [fld_at ev] at h1
  exact Fld.start h1
theorem eq_int {s : State} {args : Array Value} {t : Term} {k : Int32} (hx : (Cond.eq t (.int k)).value args s none s [] = some true) : t.eval args s none [] s = some (.int k) := by
  obtain ⟨x, y, h1, h2, -, -⟩ := cmp_v (Or.inl hx)
  have h2' : y = .int k := (Option.some.inj h2).symm
  subst h2'
  have h3 : x = .int k := by
    cases x <;> simp [Cond.value, h1, h2] at hx
    · rw [hx]
  rw [h1, h3]
theorem sta_arr {s : State} {args : Array Value} {C n d : String} {ty : FieldType} (hx : (Cond.arrayOf (.static C n d) ty).value args s none s [] = some true) (wi : (Cond.initialized C).before args s = true) (wl : (Cond.laysStatic C n d).before args s = true) : ∃ a cl, (Term.static C n d).eval args s none [] s = some (.ref a) ∧ Sta s s.heap C n d (.ref a) ∧ Arr s s.heap a cl ty := by
  obtain ⟨a, ev⟩ := arr_v hx
  obtain ⟨cl, A⟩ := Arr.start ev hx
  exact ⟨a, cl, ev, Sta.start ev (Or.inr ⟨wi, wl⟩), A⟩
theorem arr_len {s : State} {args : Array Value} {t : Term} {a : Addr} {cl : Cell} {ty : FieldType} {n : Nat} (hn : n < 2 ^ 31) (ev : t.eval args s none [] s = some (.ref a)) (A : Arr s s.heap a cl ty) (hx : (Cond.eq (.length t) (.int (Int32.ofNat n))).value args s none s [] = some true) : cl.slots.size = n := by
  have h5 := A.fin (Vm.Alike.refl _)
  have h7 := eq_int hx
  have h3 : cl.slots.size < 2 ^ 31 := by
    by_cases q : cl.slots.size < 2 ^ 31
    · exact q
    · simp [Term.eval, ev, h5, q] at h7
  rw [len_f ev h5 h3] at h7
  have h6 := congrArg Int32.toInt (Value.int.inj (Option.some.inj h7))
  rw [show (Int32.ofNat n).toInt = n from len_toInt hn, len_toInt h3] at h6
  omega
theorem arr_at {s : State} {args : Array Value} {t : Term} {a : Addr} {cl : Cell} {ty : FieldType} {j v : Int32} (ev : t.eval args s none [] s = some (.ref a)) (A : Arr s s.heap a cl ty) (hx : (Cond.eq (.elem t (.int j)) (.int v)).value args s none s [] = some true) : cl.slots[j.toNatClampNeg]? = some (.int v) :=
  (elem_in (eq_int hx) ev rfl A.1).2
theorem lc_self (x : Int64) : (if x < x then 1 else if x = x then 0 else -1 : Int32) = 0 := by simp
theorem lc_ge0 {x : Int64} (h : 0 ≤ x) : ¬ (if 0 < x then 1 else if x = 0 then 0 else -1 : Int32) < 0 := by
  by_cases a : 0 < x
  · rw [if_pos a]; decide
  · rw [if_neg a]
    have e : x = 0 := by
      rw [Int64.lt_iff_toInt_lt] at a; rw [Int64.le_iff_toInt_le] at h
      apply Int64.toInt_inj.mp; omega
    rw [if_pos e]; decide
end Jvm.Own
namespace Jvm.Own
open Jvm.RoadKit
theorem ofNat_inj {i j : Nat} (hi : i < 2 ^ 31) (hj : j < 2 ^ 31) (h : Int32.ofNat i = Int32.ofNat j) : i = j := by
  have q := congrArg Int32.toInt h
  rw [show (Int32.ofNat i).toInt = i from len_toInt hi, show (Int32.ofNat j).toInt = j from len_toInt hj] at q
  exact Int.ofNat.inj q
theorem rem_nat (x : Int32) (n : Nat) (h0 : 0 < n) (h1 : n < 2 ^ 31) : ∃ k : Nat, k < n ∧ (x &&& 2147483647) % (Int32.ofNat n) = Int32.ofNat k := by
  have e1 : (x &&& 2147483647).toInt = x.toInt % 2 ^ 31 := Jvm.Kit.i32_mask x 2147483647 (k := 31) (by decide) (by decide)
  have e2 : (Int32.ofNat n).toInt = n := len_toInt h1
  have e3 : ((x &&& 2147483647) % Int32.ofNat n).toInt = (x.toInt % 2 ^ 31) % n := by rw [Jvm.Kit.i32_rem_nonneg (by rw [e1]; omega), e1, e2]
  have p0 : 0 ≤ (x.toInt % 2 ^ 31) % (n : Int) := Int.emod_nonneg _ (by omega)
  have p1 : (x.toInt % 2 ^ 31) % (n : Int) < n := Int.emod_lt_of_pos _ (by omega)
  generalize (x.toInt % 2 ^ 31) % (n : Int) = z at *
  refine ⟨z.toNat, by omega, ?_⟩
  apply Int32.toInt_inj.mp
  rw [e3, show (Int32.ofNat z.toNat).toInt = (z.toNat : Int) from len_toInt (by omega)]
  omega
end Jvm.Own
namespace Jvm.Pilot.@@N@@
open Jvm Jvm.ClassFile Sem Op Lib Jvm.Free Jvm.Stand Jvm.LawKit Jvm.RoadKit Bundle Jvm.Own Jvm.Pilot.@@N@@.Jvm.D
def nmsK (k : Nat) : String := ["SERVED", "DROPPED", "TIMED_OUT", "FAILED"].getD k ""
def KsK (Z : State) (ad : Nat → Addr) : Prop := ∀ k, k < 4 → Sta Z Z.heap "com/example/queue_tier_scaler/queuetierscaler/core/accounting/Outcome" (nmsK k) "Lcom/example/queue_tier_scaler/queuetierscaler/core/accounting/Outcome;" (.ref (ad k)) ∧ Exa Z Z.heap (ad k) "com/example/queue_tier_scaler/queuetierscaler/core/accounting/Outcome" ∧ Fld Z Z.heap (ad k) "java/lang/Enum" "ordinal" "I" (.int (Int32.ofNat k))
theorem KsK.inj {Z : State} {ad : Nat → Addr} (K : KsK Z ad) (i j : Nat) (hi : i < 4) (hj : j < 4) : ad i = ad j ↔ i = j := by
  refine ⟨fun q => ?_, fun q => by rw [q]⟩
  by_cases u : i = j
  · exact u
  · exact absurd q (Fld.ne (K i hi).2.2 (K j hj).2.2 fun w => u (ofNat_inj (by omega) (by omega) (Value.int.inj w)))
def SM (Z : State) (sm : Addr) (cl : Cell) : Prop := Sta Z Z.heap "com/example/queue_tier_scaler/queuetierscaler/core/accounting/OutcomeCounts$1" "$SwitchMap$com$example$queue_tier_scaler$queuetierscaler$core$accounting$Outcome" "[I" (.ref sm) ∧ Arr Z Z.heap sm cl .int ∧ cl.slots.size = 4 ∧ cl.slots[0]? = some (.int 1) ∧ cl.slots[1]? = some (.int 2) ∧ cl.slots[2]? = some (.int 3) ∧ cl.slots[3]? = some (.int 4)
theorem rm_init_Record_d0 : decode jdk_30_method_1_code 0 = .ok (.aload_n 0, 1) := by decide +kernel
theorem rm_init_Record_d1 : decode jdk_30_method_1_code 1 = .ok (.invokespecial 1, 3) := by decide +kernel
theorem rm_init_Record_d4 : decode jdk_30_method_1_code 4 = .ok (.return_, 1) := by decide +kernel
theorem pn_java_lang_Record : plainName "java/lang/Record" = true := by first | (simp [plainName, overriddenIn]; done) | decide +kernel
set_option maxRecDepth 65536 in
set_option maxHeartbeats 40000000 in
theorem rm_init_Record (l : Launch) (Z : State) (a0 : Array Value) (hw : ∀ d ∈ tables_1, d.before a0 Z = true) (a : Addr) (h0 : Heap)  :
    Met0 l Z (⟨"java/lang/Record", "<init>", "()V"⟩ : MethodName) [] jdk_30_method_1_code 1 none ({ frames := 1, cells := 0, slots := 0, locals := 12 } : Room) #[(.ref a)] h0 (fun v h L => v = none ∧ h0 = h ∧ L = []) := by
  refine Met0.of_walk (plainFor_of_name pn_java_lang_Record) (Ls := #[.val (.ref a)]) (fun m => by first | rfl | (simp [entryFrame, mkF, argsToLocals, Value.category]; done)) ?_
  intro p e s m below meth c C
  refine aloadN C rm_init_Record_d0 (pc' := 1) rfl rfl rfl ?_
  refine initO_ C (hw _ (List.mem_of_getElem? (i := 12) rfl)) (hw _ (List.mem_of_getElem? (i := 13) rfl)) (hw _ (List.mem_of_getElem? (i := 14) rfl)) rfl rm_init_Record_d1 (by decide) (W := 0) rfl (by decide) (pc' := 4) rfl ?_
  exact ret_V C rm_init_Record_d4 rfl (by decide) (by decide) ⟨rfl, rfl, rfl⟩
theorem rm_requireCount_d0 : decode prog_3_method_6_code 0 = .ok (.lload_n 1, 1) := by decide +kernel
theorem rm_requireCount_d1 : decode prog_3_method_6_code 1 = .ok (.lconst 0, 1) := by decide +kernel
theorem rm_requireCount_d2 : decode prog_3_method_6_code 2 = .ok (.lcmp, 1) := by decide +kernel
theorem rm_requireCount_d3 : decode prog_3_method_6_code 3 = .ok (.ifCond .ge 21, 3) := by decide +kernel
theorem rm_requireCount_d24 : decode prog_3_method_6_code 24 = .ok (.return_, 1) := by decide +kernel
theorem pn_com_example_queue_tier_scaler_queuetierscaler_core_accounting_OutcomeCounts : plainName "com/example/queue_tier_scaler/queuetierscaler/core/accounting/OutcomeCounts" = true := by first | (simp [plainName, overriddenIn]; done) | decide +kernel
set_option maxRecDepth 65536 in
set_option maxHeartbeats 40000000 in
theorem rm_requireCount (l : Launch) (Z : State) (a0 : Array Value) (hw : ∀ d ∈ tables_1, d.before a0 Z = true) (a : Addr) (n : Int64) (hn : 0 ≤ n) (h0 : Heap)  :
    Met0 l Z (⟨"com/example/queue_tier_scaler/queuetierscaler/core/accounting/OutcomeCounts", "requireCount", "(Lcom/example/queue_tier_scaler/queuetierscaler/core/accounting/Outcome;J)V"⟩ : MethodName) [] prog_3_method_6_code 3 none ({ frames := 0, cells := 0, slots := 0, locals := 0 } : Room) #[(.ref a), (.long n)] h0 (fun v h L => v = none ∧ h0 = h ∧ L = []) := by
  refine Met0.of_walk (plainFor_of_name pn_com_example_queue_tier_scaler_queuetierscaler_core_accounting_OutcomeCounts) (Ls := #[.val (.ref a), .val (.long n), .second]) (fun m => by first | (simp [entryFrame, mkF, argsToLocals, Value.category]; done) | rfl) ?_
  intro p e s m below meth c C
  refine lloadN C rm_requireCount_d0 (pc' := 1) rfl rfl ?_
  refine lconst C rm_requireCount_d1 (pc' := 2) rfl (v := 0) rfl ?_
  refine lcmp C rm_requireCount_d2 (pc' := 3) rfl ?_
  refine if_ge C 24 6 rm_requireCount_d3 (by decide) rfl rfl (fun q3 => ?_) (fun q3 => ?_)
  · skip
    exact ret_V C rm_requireCount_d24 rfl (by decide) (by decide) ⟨rfl, rfl, rfl⟩
  · exact absurd q3 (lc_ge0 hn)
theorem pd_0 : parseMethodDescriptor "()V" = some ⟨[], none⟩ := by decide +kernel
theorem pd_1 : parseMethodDescriptor "(Lcom/example/queue_tier_scaler/queuetierscaler/core/accounting/Outcome;J)V" = some ⟨[(.object "com/example/queue_tier_scaler/queuetierscaler/core/accounting/Outcome"), .long], none⟩ := by decide +kernel
theorem rm_init_d0 : decode prog_3_method_1_code 0 = .ok (.aload_n 0, 1) := by decide +kernel
theorem rm_init_d1 : decode prog_3_method_1_code 1 = .ok (.invokespecial 1, 3) := by decide +kernel
theorem rm_init_d4 : decode prog_3_method_1_code 4 = .ok (.getstatic 7, 3) := by decide +kernel
theorem rm_init_d7 : decode prog_3_method_1_code 7 = .ok (.lload_n 1, 1) := by decide +kernel
theorem rm_init_d8 : decode prog_3_method_1_code 8 = .ok (.invokestatic 13, 3) := by decide +kernel
theorem rm_init_d11 : decode prog_3_method_1_code 11 = .ok (.getstatic 19, 3) := by decide +kernel
theorem rm_init_d14 : decode prog_3_method_1_code 14 = .ok (.lload_n 3, 1) := by decide +kernel
theorem rm_init_d15 : decode prog_3_method_1_code 15 = .ok (.invokestatic 13, 3) := by decide +kernel
theorem rm_init_d18 : decode prog_3_method_1_code 18 = .ok (.getstatic 22, 3) := by decide +kernel
theorem rm_init_d21 : decode prog_3_method_1_code 21 = .ok (.lload 5, 2) := by decide +kernel
theorem rm_init_d23 : decode prog_3_method_1_code 23 = .ok (.invokestatic 13, 3) := by decide +kernel
theorem rm_init_d26 : decode prog_3_method_1_code 26 = .ok (.getstatic 25, 3) := by decide +kernel
theorem rm_init_d29 : decode prog_3_method_1_code 29 = .ok (.lload 7, 2) := by decide +kernel
theorem rm_init_d31 : decode prog_3_method_1_code 31 = .ok (.invokestatic 13, 3) := by decide +kernel
theorem rm_init_d34 : decode prog_3_method_1_code 34 = .ok (.aload_n 0, 1) := by decide +kernel
theorem rm_init_d35 : decode prog_3_method_1_code 35 = .ok (.lload_n 1, 1) := by decide +kernel
theorem rm_init_d36 : decode prog_3_method_1_code 36 = .ok (.putfield 28, 3) := by decide +kernel
theorem rm_init_d39 : decode prog_3_method_1_code 39 = .ok (.aload_n 0, 1) := by decide +kernel
theorem rm_init_d40 : decode prog_3_method_1_code 40 = .ok (.lload_n 3, 1) := by decide +kernel
theorem rm_init_d41 : decode prog_3_method_1_code 41 = .ok (.putfield 32, 3) := by decide +kernel
theorem rm_init_d44 : decode prog_3_method_1_code 44 = .ok (.aload_n 0, 1) := by decide +kernel
theorem rm_init_d45 : decode prog_3_method_1_code 45 = .ok (.lload 5, 2) := by decide +kernel
theorem rm_init_d47 : decode prog_3_method_1_code 47 = .ok (.putfield 35, 3) := by decide +kernel
theorem rm_init_d50 : decode prog_3_method_1_code 50 = .ok (.aload_n 0, 1) := by decide +kernel
theorem rm_init_d51 : decode prog_3_method_1_code 51 = .ok (.lload 7, 2) := by decide +kernel
theorem rm_init_d53 : decode prog_3_method_1_code 53 = .ok (.putfield 38, 3) := by decide +kernel
theorem rm_init_d56 : decode prog_3_method_1_code 56 = .ok (.return_, 1) := by decide +kernel
set_option maxRecDepth 65536 in
set_option maxHeartbeats 40000000 in
theorem rm_init (l : Launch) (Z : State) (a0 : Array Value) (hw : ∀ d ∈ tables_1, d.before a0 Z = true) (ad : Nat → Addr) (K : KsK Z ad) (a : Addr) (p0 p1 p2 p3 : Int64) (hp0 : 0 ≤ p0) (hp1 : 0 ≤ p1) (hp2 : 0 ≤ p2) (hp3 : 0 ≤ p3) (h0 : Heap) (O : Old Z Z.heap.size h0) (ge : Z.heap.size ≤ a) (X : Exa Z h0 a "com/example/queue_tier_scaler/queuetierscaler/core/accounting/OutcomeCounts") (F_served : Fld Z h0 a "com/example/queue_tier_scaler/queuetierscaler/core/accounting/OutcomeCounts" "served" "J" (.long 0)) (F_dropped : Fld Z h0 a "com/example/queue_tier_scaler/queuetierscaler/core/accounting/OutcomeCounts" "dropped" "J" (.long 0)) (F_timedOut : Fld Z h0 a "com/example/queue_tier_scaler/queuetierscaler/core/accounting/OutcomeCounts" "timedOut" "J" (.long 0)) (F_failed : Fld Z h0 a "com/example/queue_tier_scaler/queuetierscaler/core/accounting/OutcomeCounts" "failed" "J" (.long 0))  :
    Met0 l Z (⟨"com/example/queue_tier_scaler/queuetierscaler/core/accounting/OutcomeCounts", "<init>", "(JJJJ)V"⟩ : MethodName) [] prog_3_method_1_code 9 none ({ frames := 2, cells := 0, slots := 0, locals := 40 } : Room) #[(.ref a), (.long p0), (.long p1), (.long p2), (.long p3)] h0 (fun v h L => v = none ∧ Fr Z.heap.size L ∧ Keep h0 h [a] ∧ Exa Z h a "com/example/queue_tier_scaler/queuetierscaler/core/accounting/OutcomeCounts" ∧ Fld Z h a "com/example/queue_tier_scaler/queuetierscaler/core/accounting/OutcomeCounts" "served" "J" (.long p0) ∧ Fld Z h a "com/example/queue_tier_scaler/queuetierscaler/core/accounting/OutcomeCounts" "dropped" "J" (.long p1) ∧ Fld Z h a "com/example/queue_tier_scaler/queuetierscaler/core/accounting/OutcomeCounts" "timedOut" "J" (.long p2) ∧ Fld Z h a "com/example/queue_tier_scaler/queuetierscaler/core/accounting/OutcomeCounts" "failed" "J" (.long p3)) := by
  have N := Fr.nil Z.heap.size
  have P := Keep.refl h0 [a]
  refine Met0.of_walk (plainFor_of_name pn_com_example_queue_tier_scaler_queuetierscaler_core_accounting_OutcomeCounts) (Ls := #[.val (.ref a), .val (.long p0), .second, .val (.long p1), .second, .val (.long p2), .second, .val (.long p3), .second]) (fun m => by first | (simp [entryFrame, mkF, argsToLocals, Value.category]; done) | rfl) ?_
  intro p e s m below meth c C
  refine aloadN C rm_init_d0 (pc' := 1) rfl rfl rfl ?_
  refine callC_ C (y := (⟨"java/lang/Record", "<init>", "()V"⟩ : MethodName)) rfl (hw _ (List.mem_of_getElem? (i := 7) rfl)) (hw _ (List.mem_of_getElem? (i := 8) rfl)) (hw _ (List.mem_of_getElem? (i := 10) rfl)) (hw _ (List.mem_of_getElem? (i := 11) rfl)) (by decide) pd_0 [] [] rfl rfl (W := 0) rfl (by decide) (by decide) (by decide) (by decide) (rm_init_Record l Z a0 hw a h0) rfl rm_init_d1 (pc' := 4) rfl ?_
  rintro _ _ _ ⟨rfl, rfl, rfl⟩
  show Wk p l e _ _ m _ below meth c _ _ _ _ _ _ (mkF m 4 #[.val (.ref a), .val (.long p0), .second, .val (.long p1), .second, .val (.long p2), .second, .val (.long p3), .second] [])
  rw [List.append_nil]
  refine getS_ C (hw _ (List.mem_of_getElem? (i := 15) rfl)) ((K 0 (by decide)).1.ext O.2) rm_init_d4 (pc' := 7) rfl ?_
  refine lloadN C rm_init_d7 (pc' := 8) rfl rfl ?_
  refine callS_ C (y := (⟨"com/example/queue_tier_scaler/queuetierscaler/core/accounting/OutcomeCounts", "requireCount", "(Lcom/example/queue_tier_scaler/queuetierscaler/core/accounting/Outcome;J)V"⟩ : MethodName)) (hw _ (List.mem_of_getElem? (i := 18) rfl)) (hw _ (List.mem_of_getElem? (i := 19) rfl)) (hw _ (List.mem_of_getElem? (i := 3) rfl)) (hw _ (List.mem_of_getElem? (i := 20) rfl)) (by decide) pd_1 [(.ref (ad 0)), (.long p0)] [] rfl rfl (W := 0) rfl (by decide) (by decide) (by decide) (by decide) (rm_requireCount l Z a0 hw (ad 0) p0 hp0 h0) rfl rm_init_d8 (pc' := 11) rfl ?_
  rintro _ _ _ ⟨rfl, rfl, rfl⟩
  show Wk p l e _ _ m _ below meth c _ _ _ _ _ _ (mkF m 11 #[.val (.ref a), .val (.long p0), .second, .val (.long p1), .second, .val (.long p2), .second, .val (.long p3), .second] [])
  rw [List.append_nil]
  refine getS_ C (hw _ (List.mem_of_getElem? (i := 21) rfl)) ((K 1 (by decide)).1.ext O.2) rm_init_d11 (pc' := 14) rfl ?_
  refine lloadN C rm_init_d14 (pc' := 15) rfl rfl ?_
  refine callS_ C (y := (⟨"com/example/queue_tier_scaler/queuetierscaler/core/accounting/OutcomeCounts", "requireCount", "(Lcom/example/queue_tier_scaler/queuetierscaler/core/accounting/Outcome;J)V"⟩ : MethodName)) (hw _ (List.mem_of_getElem? (i := 18) rfl)) (hw _ (List.mem_of_getElem? (i := 19) rfl)) (hw _ (List.mem_of_getElem? (i := 3) rfl)) (hw _ (List.mem_of_getElem? (i := 20) rfl)) (by decide) pd_1 [(.ref (ad 1)), (.long p1)] [] rfl rfl (W := 0) rfl (by decide) (by decide) (by decide) (by decide) (rm_requireCount l Z a0 hw (ad 1) p1 hp1 h0) rfl rm_init_d15 (pc' := 18) rfl ?_
  rintro _ _ _ ⟨rfl, rfl, rfl⟩
  show Wk p l e _ _ m _ below meth c _ _ _ _ _ _ (mkF m 18 #[.val (.ref a), .val (.long p0), .second, .val (.long p1), .second, .val (.long p2), .second, .val (.long p3), .second] [])
  rw [List.append_nil]
  refine getS_ C (hw _ (List.mem_of_getElem? (i := 23) rfl)) ((K 2 (by decide)).1.ext O.2) rm_init_d18 (pc' := 21) rfl ?_
  refine lload C rm_init_d21 (pc' := 23) rfl rfl ?_
  refine callS_ C (y := (⟨"com/example/queue_tier_scaler/queuetierscaler/core/accounting/OutcomeCounts", "requireCount", "(Lcom/example/queue_tier_scaler/queuetierscaler/core/accounting/Outcome;J)V"⟩ : MethodName)) (hw _ (List.mem_of_getElem? (i := 18) rfl)) (hw _ (List.mem_of_getElem? (i := 19) rfl)) (hw _ (List.mem_of_getElem? (i := 3) rfl)) (hw _ (List.mem_of_getElem? (i := 20) rfl)) (by decide) pd_1 [(.ref (ad 2)), (.long p2)] [] rfl rfl (W := 0) rfl (by decide) (by decide) (by decide) (by decide) (rm_requireCount l Z a0 hw (ad 2) p2 hp2 h0) rfl rm_init_d23 (pc' := 26) rfl ?_
  rintro _ _ _ ⟨rfl, rfl, rfl⟩
  show Wk p l e _ _ m _ below meth c _ _ _ _ _ _ (mkF m 26 #[.val (.ref a), .val (.long p0), .second, .val (.long p1), .second, .val (.long p2), .second, .val (.long p3), .second] [])
  rw [List.append_nil]
  refine getS_ C (hw _ (List.mem_of_getElem? (i := 25) rfl)) ((K 3 (by decide)).1.ext O.2) rm_init_d26 (pc' := 29) rfl ?_
  refine lload C rm_init_d29 (pc' := 31) rfl rfl ?_
  refine callS_ C (y := (⟨"com/example/queue_tier_scaler/queuetierscaler/core/accounting/OutcomeCounts", "requireCount", "(Lcom/example/queue_tier_scaler/queuetierscaler/core/accounting/Outcome;J)V"⟩ : MethodName)) (hw _ (List.mem_of_getElem? (i := 18) rfl)) (hw _ (List.mem_of_getElem? (i := 19) rfl)) (hw _ (List.mem_of_getElem? (i := 3) rfl)) (hw _ (List.mem_of_getElem? (i := 20) rfl)) (by decide) pd_1 [(.ref (ad 3)), (.long p3)] [] rfl rfl (W := 0) rfl (by decide) (by decide) (by decide) (by decide) (rm_requireCount l Z a0 hw (ad 3) p3 hp3 h0) rfl rm_init_d31 (pc' := 34) rfl ?_
  rintro _ _ _ ⟨rfl, rfl, rfl⟩
  show Wk p l e _ _ m _ below meth c _ _ _ _ _ _ (mkF m 34 #[.val (.ref a), .val (.long p0), .second, .val (.long p1), .second, .val (.long p2), .second, .val (.long p3), .second] [])
  rw [List.append_nil]
  refine aloadN C rm_init_d34 (pc' := 35) rfl rfl rfl ?_
  refine lloadN C rm_init_d35 (pc' := 36) rfl rfl ?_
  refine putF_ C (hw _ (List.mem_of_getElem? (i := 27) rfl)) Via.refl F_served X (Or.inr ⟨(hw _ (List.mem_of_getElem? (i := 28) rfl)), rfl, rfl⟩) (hw _ (List.mem_of_getElem? (i := 2) rfl)) (ty := .long) (by decide) rfl rfl rm_init_d36 (pc' := 39) rfl ?_
  intro h1 W1
  have O1 := O.wr W1 ge
  have N1 := Fr.put (i := Jvm.RoadKit.slotOf Z "com/example/queue_tier_scaler/queuetierscaler/core/accounting/OutcomeCounts" "served" "J") N ge
  have X1 := X.wr W1
  have P1 := P.wr W1 (Or.inl (List.mem_cons_self ..))
  have F1_served := F_served.same W1
  have F1_dropped := F_dropped.other W1 (Or.inr (slot_ne (Or.inr (hw _ (List.mem_of_getElem? (i := 30) rfl))) (Or.inr (hw _ (List.mem_of_getElem? (i := 28) rfl))) (by decide) (t := .long) (t' := .long) (by decide) (by decide)))
  have F1_timedOut := F_timedOut.other W1 (Or.inr (slot_ne (Or.inr (hw _ (List.mem_of_getElem? (i := 32) rfl))) (Or.inr (hw _ (List.mem_of_getElem? (i := 28) rfl))) (by decide) (t := .long) (t' := .long) (by decide) (by decide)))
  have F1_failed := F_failed.other W1 (Or.inr (slot_ne (Or.inr (hw _ (List.mem_of_getElem? (i := 34) rfl))) (Or.inr (hw _ (List.mem_of_getElem? (i := 28) rfl))) (by decide) (t := .long) (t' := .long) (by decide) (by decide)))
  refine aloadN C rm_init_d39 (pc' := 40) rfl rfl rfl ?_
  refine lloadN C rm_init_d40 (pc' := 41) rfl rfl ?_
  refine putF_ C (hw _ (List.mem_of_getElem? (i := 29) rfl)) Via.refl F1_dropped X1 (Or.inr ⟨(hw _ (List.mem_of_getElem? (i := 30) rfl)), rfl, rfl⟩) (hw _ (List.mem_of_getElem? (i := 2) rfl)) (ty := .long) (by decide) rfl rfl rm_init_d41 (pc' := 44) rfl ?_
  intro h2 W2
  have O2 := O1.wr W2 ge
  have N2 := Fr.put (i := Jvm.RoadKit.slotOf Z "com/example/queue_tier_scaler/queuetierscaler/core/accounting/OutcomeCounts" "dropped" "J") N1 ge
  have X2 := X1.wr W2
  have P2 := P1.wr W2 (Or.inl (List.mem_cons_self ..))
  have F2_served := F1_served.other W2 (Or.inr (slot_ne (Or.inr (hw _ (List.mem_of_getElem? (i := 28) rfl))) (Or.inr (hw _ (List.mem_of_getElem? (i := 30) rfl))) (by decide) (t := .long) (t' := .long) (by decide) (by decide)))
  have F2_dropped := F1_dropped.same W2
  have F2_timedOut := F1_timedOut.other W2 (Or.inr (slot_ne (Or.inr (hw _ (List.mem_of_getElem? (i := 32) rfl))) (Or.inr (hw _ (List.mem_of_getElem? (i := 30) rfl))) (by decide) (t := .long) (t' := .long) (by decide) (by decide)))
  have F2_failed := F1_failed.other W2 (Or.inr (slot_ne (Or.inr (hw _ (List.mem_of_getElem? (i := 34) rfl))) (Or.inr (hw _ (List.mem_of_getElem? (i := 30) rfl))) (by decide) (t := .long) (t' := .long) (by decide) (by decide)))
  refine aloadN C rm_init_d44 (pc' := 45) rfl rfl rfl ?_
  refine lload C rm_init_d45 (pc' := 47) rfl rfl ?_
  refine putF_ C (hw _ (List.mem_of_getElem? (i := 31) rfl)) Via.refl F2_timedOut X2 (Or.inr ⟨(hw _ (List.mem_of_getElem? (i := 32) rfl)), rfl, rfl⟩) (hw _ (List.mem_of_getElem? (i := 2) rfl)) (ty := .long) (by decide) rfl rfl rm_init_d47 (pc' := 50) rfl ?_
  intro h3 W3
  have O3 := O2.wr W3 ge
  have N3 := Fr.put (i := Jvm.RoadKit.slotOf Z "com/example/queue_tier_scaler/queuetierscaler/core/accounting/OutcomeCounts" "timedOut" "J") N2 ge
  have X3 := X2.wr W3
  have P3 := P2.wr W3 (Or.inl (List.mem_cons_self ..))
  have F3_served := F2_served.other W3 (Or.inr (slot_ne (Or.inr (hw _ (List.mem_of_getElem? (i := 28) rfl))) (Or.inr (hw _ (List.mem_of_getElem? (i := 32) rfl))) (by decide) (t := .long) (t' := .long) (by decide) (by decide)))
  have F3_dropped := F2_dropped.other W3 (Or.inr (slot_ne (Or.inr (hw _ (List.mem_of_getElem? (i := 30) rfl))) (Or.inr (hw _ (List.mem_of_getElem? (i := 32) rfl))) (by decide) (t := .long) (t' := .long) (by decide) (by decide)))
  have F3_timedOut := F2_timedOut.same W3
  have F3_failed := F2_failed.other W3 (Or.inr (slot_ne (Or.inr (hw _ (List.mem_of_getElem? (i := 34) rfl))) (Or.inr (hw _ (List.mem_of_getElem? (i := 32) rfl))) (by decide) (t := .long) (t' := .long) (by decide) (by decide)))
  refine aloadN C rm_init_d50 (pc' := 51) rfl rfl rfl ?_
  refine lload C rm_init_d51 (pc' := 53) rfl rfl ?_
  refine putF_ C (hw _ (List.mem_of_getElem? (i := 33) rfl)) Via.refl F3_failed X3 (Or.inr ⟨(hw _ (List.mem_of_getElem? (i := 34) rfl)), rfl, rfl⟩) (hw _ (List.mem_of_getElem? (i := 2) rfl)) (ty := .long) (by decide) rfl rfl rm_init_d53 (pc' := 56) rfl ?_
  intro h4 W4
  have O4 := O3.wr W4 ge
  have N4 := Fr.put (i := Jvm.RoadKit.slotOf Z "com/example/queue_tier_scaler/queuetierscaler/core/accounting/OutcomeCounts" "failed" "J") N3 ge
  have X4 := X3.wr W4
  have P4 := P3.wr W4 (Or.inl (List.mem_cons_self ..))
  have F4_served := F3_served.other W4 (Or.inr (slot_ne (Or.inr (hw _ (List.mem_of_getElem? (i := 28) rfl))) (Or.inr (hw _ (List.mem_of_getElem? (i := 34) rfl))) (by decide) (t := .long) (t' := .long) (by decide) (by decide)))
  have F4_dropped := F3_dropped.other W4 (Or.inr (slot_ne (Or.inr (hw _ (List.mem_of_getElem? (i := 30) rfl))) (Or.inr (hw _ (List.mem_of_getElem? (i := 34) rfl))) (by decide) (t := .long) (t' := .long) (by decide) (by decide)))
  have F4_timedOut := F3_timedOut.other W4 (Or.inr (slot_ne (Or.inr (hw _ (List.mem_of_getElem? (i := 32) rfl))) (Or.inr (hw _ (List.mem_of_getElem? (i := 34) rfl))) (by decide) (t := .long) (t' := .long) (by decide) (by decide)))
  have F4_failed := F3_failed.same W4
  exact ret_V C rm_init_d56 rfl (by decide) (by decide) ⟨rfl, N4, P4, X4, F4_served, F4_dropped, F4_timedOut, F4_failed⟩
theorem rm_ordinal_d0 : decode jdk_37_method_2_code 0 = .ok (.aload_n 0, 1) := by decide +kernel
theorem rm_ordinal_d1 : decode jdk_37_method_2_code 1 = .ok (.getfield 7, 3) := by decide +kernel
theorem rm_ordinal_d4 : decode jdk_37_method_2_code 4 = .ok (.ireturn, 1) := by decide +kernel
theorem pn_java_lang_Enum : plainName "java/lang/Enum" = true := by first | (simp [plainName, overriddenIn]; done) | decide +kernel
set_option maxRecDepth 65536 in
set_option maxHeartbeats 40000000 in
theorem rm_ordinal (l : Launch) (Z : State) (a0 : Array Value) (hw : ∀ d ∈ tables_1, d.before a0 Z = true) (ad : Nat → Addr) (K : KsK Z ad) (j : Nat) (hj : j < 4) (h0 : Heap) (E : Ext Z.heap h0) :
    Met0 l Z (⟨"java/lang/Enum", "ordinal", "()I"⟩ : MethodName) [] jdk_37_method_2_code 1 (some .int) ({ frames := 0, cells := 0, slots := 0, locals := 0 } : Room) #[(.ref (ad j))] h0 (fun v h L => v = some (.int (Int32.ofNat j)) ∧ h0 = h ∧ L = []) := by
  refine Met0.of_walk (plainFor_of_name pn_java_lang_Enum) (Ls := #[.val (.ref (ad j))]) (fun m => by first | rfl | (simp [entryFrame, mkF, argsToLocals, Value.category]; done)) ?_
  intro p e s m below meth c C
  refine aloadN C rm_ordinal_d0 (pc' := 1) rfl rfl rfl ?_
  refine getF_ C (hw _ (List.mem_of_getElem? (i := 51) rfl)) Via.refl ((K j hj).2.2.ext E) rm_ordinal_d1 (pc' := 4) rfl ?_
  exact ret_I C rm_ordinal_d4 rfl (by decide) (by decide) ⟨rfl, rfl, rfl⟩
theorem pd_2 : parseMethodDescriptor "()I" = some ⟨[], some .int⟩ := by decide +kernel
theorem rm_count0_d0 : decode prog_3_method_2_code 0 = .ok (.getstatic 41, 3) := by decide +kernel
theorem rm_count0_d3 : decode prog_3_method_2_code 3 = .ok (.aload_n 1, 1) := by decide +kernel
theorem rm_count0_d4 : decode prog_3_method_2_code 4 = .ok (.invokevirtual 47, 3) := by decide +kernel
theorem rm_count0_d7 : decode prog_3_method_2_code 7 = .ok (.iaload, 1) := by decide +kernel
theorem rm_count0_d8 : decode prog_3_method_2_code 8 = .ok (.tableswitch 32 1 4 #[42, 49, 56, 63], 32) := by decide +kernel
theorem rm_count0_d50 : decode prog_3_method_2_code 50 = .ok (.aload_n 0, 1) := by decide +kernel
theorem rm_count0_d51 : decode prog_3_method_2_code 51 = .ok (.getfield 28, 3) := by decide +kernel
theorem rm_count0_d54 : decode prog_3_method_2_code 54 = .ok (.goto 21, 3) := by decide +kernel
theorem rm_count0_d75 : decode prog_3_method_2_code 75 = .ok (.lstore_n 2, 1) := by decide +kernel
theorem rm_count0_d76 : decode prog_3_method_2_code 76 = .ok (.lload_n 2, 1) := by decide +kernel
theorem rm_count0_d77 : decode prog_3_method_2_code 77 = .ok (.lreturn, 1) := by decide +kernel
set_option maxRecDepth 65536 in
set_option maxHeartbeats 40000000 in
theorem rm_count0 (l : Launch) (Z : State) (a0 : Array Value) (hw : ∀ d ∈ tables_1, d.before a0 Z = true) (ad : Nat → Addr) (K : KsK Z ad) (sm : Addr) (cl : Cell) (M : SM Z sm cl) (a : Addr) (pv : Int64) (h0 : Heap) (E : Ext Z.heap h0) (F : Fld Z h0 a "com/example/queue_tier_scaler/queuetierscaler/core/accounting/OutcomeCounts" "served" "J" (.long pv)) :
    Met0 l Z (⟨"com/example/queue_tier_scaler/queuetierscaler/core/accounting/OutcomeCounts", "count", "(Lcom/example/queue_tier_scaler/queuetierscaler/core/accounting/Outcome;)J"⟩ : MethodName) [] prog_3_method_2_code 4 (some .long) ({ frames := 1, cells := 0, slots := 0, locals := 14 } : Room) #[(.ref a), (.ref (ad 0))] h0 (fun v h L => v = some (.long pv) ∧ h0 = h ∧ L = []) := by
  refine Met0.of_walk (plainFor_of_name pn_com_example_queue_tier_scaler_queuetierscaler_core_accounting_OutcomeCounts) (Ls := #[.val (.ref a), .val (.ref (ad 0)), .unset, .unset]) (fun m => by first | rfl | (simp [entryFrame, mkF, argsToLocals, Value.category]; done)) ?_
  intro p e s m below meth c C
  refine getS_ C (hw _ (List.mem_of_getElem? (i := 41) rfl)) (M.1.ext E) rm_count0_d0 (pc' := 3) rfl ?_
  refine aloadN C rm_count0_d3 (pc' := 4) rfl rfl rfl ?_
  refine callUp_ C (y := (⟨"com/example/queue_tier_scaler/queuetierscaler/core/accounting/Outcome", "ordinal", "()I"⟩ : MethodName)) (z := (⟨"java/lang/Enum", "ordinal", "()I"⟩ : MethodName)) (owner := "java/lang/Enum") (hw _ (List.mem_of_getElem? (i := 44) rfl)) (hw _ (List.mem_of_getElem? (i := 45) rfl)) (hw _ (List.mem_of_getElem? (i := 46) rfl)) (hw _ (List.mem_of_getElem? (i := 48) rfl)) (hw _ (List.mem_of_getElem? (i := 47) rfl)) (hw _ (List.mem_of_getElem? (i := 49) rfl)) (hw _ (List.mem_of_getElem? (i := 50) rfl)) (by decide) ((K 0 (by decide)).2.1.ext E) pd_2 [] [(.ref sm)] rfl rfl (W := 1) rfl (by decide) (by decide) (by decide) (by decide) (rm_ordinal l Z a0 hw ad K 0 (by decide) h0 E) rfl rm_count0_d4 (pc' := 7) rfl ?_
  rintro _ _ _ ⟨rfl, rfl, rfl⟩
  show Wk p l e _ _ m _ below meth c _ _ _ _ _ _ (mkF m 7 #[.val (.ref a), .val (.ref (ad 0)), .unset, .unset] [(.int 0), (.ref sm)])
  refine ldI_ C (j := 0) (v := .int 1) (M.2.1.ext E) (by rw [M.2.2.1]; decide) M.2.2.2.1 rm_count0_d7 (pc' := 8) rfl ?_
  skip
  · skip
    refine tswIn C rm_count0_d8 (by decide) (o := 42) rfl (by decide) (pc' := 50) rfl ?_
    refine aloadN C rm_count0_d50 (pc' := 51) rfl rfl rfl ?_
    refine getF_ C (hw _ (List.mem_of_getElem? (i := 27) rfl)) Via.refl F rm_count0_d51 (pc' := 54) rfl ?_
    refine goto_ C rm_count0_d54 (by decide) (pc' := 75) rfl ?_
    refine lstoreN C rm_count0_d75 (pc' := 76) rfl (Ls' := #[.val (.ref a), .val (.ref (ad 0)), .val (.long pv), .second]) rfl ?_
    refine lloadN C rm_count0_d76 (pc' := 77) rfl rfl ?_
    exact ret_J C rm_count0_d77 rfl (by decide) (by decide) ⟨rfl, rfl, rfl⟩
theorem rm_count1_d0 : decode prog_3_method_2_code 0 = .ok (.getstatic 41, 3) := by decide +kernel
theorem rm_count1_d3 : decode prog_3_method_2_code 3 = .ok (.aload_n 1, 1) := by decide +kernel
theorem rm_count1_d4 : decode prog_3_method_2_code 4 = .ok (.invokevirtual 47, 3) := by decide +kernel
theorem rm_count1_d7 : decode prog_3_method_2_code 7 = .ok (.iaload, 1) := by decide +kernel
theorem rm_count1_d8 : decode prog_3_method_2_code 8 = .ok (.tableswitch 32 1 4 #[42, 49, 56, 63], 32) := by decide +kernel
theorem rm_count1_d57 : decode prog_3_method_2_code 57 = .ok (.aload_n 0, 1) := by decide +kernel
theorem rm_count1_d58 : decode prog_3_method_2_code 58 = .ok (.getfield 32, 3) := by decide +kernel
theorem rm_count1_d61 : decode prog_3_method_2_code 61 = .ok (.goto 14, 3) := by decide +kernel
theorem rm_count1_d75 : decode prog_3_method_2_code 75 = .ok (.lstore_n 2, 1) := by decide +kernel
theorem rm_count1_d76 : decode prog_3_method_2_code 76 = .ok (.lload_n 2, 1) := by decide +kernel
theorem rm_count1_d77 : decode prog_3_method_2_code 77 = .ok (.lreturn, 1) := by decide +kernel
set_option maxRecDepth 65536 in
set_option maxHeartbeats 40000000 in
theorem rm_count1 (l : Launch) (Z : State) (a0 : Array Value) (hw : ∀ d ∈ tables_1, d.before a0 Z = true) (ad : Nat → Addr) (K : KsK Z ad) (sm : Addr) (cl : Cell) (M : SM Z sm cl) (a : Addr) (pv : Int64) (h0 : Heap) (E : Ext Z.heap h0) (F : Fld Z h0 a "com/example/queue_tier_scaler/queuetierscaler/core/accounting/OutcomeCounts" "dropped" "J" (.long pv)) :
    Met0 l Z (⟨"com/example/queue_tier_scaler/queuetierscaler/core/accounting/OutcomeCounts", "count", "(Lcom/example/queue_tier_scaler/queuetierscaler/core/accounting/Outcome;)J"⟩ : MethodName) [] prog_3_method_2_code 4 (some .long) ({ frames := 1, cells := 0, slots := 0, locals := 14 } : Room) #[(.ref a), (.ref (ad 1))] h0 (fun v h L => v = some (.long pv) ∧ h0 = h ∧ L = []) := by
  refine Met0.of_walk (plainFor_of_name pn_com_example_queue_tier_scaler_queuetierscaler_core_accounting_OutcomeCounts) (Ls := #[.val (.ref a), .val (.ref (ad 1)), .unset, .unset]) (fun m => by first | rfl | (simp [entryFrame, mkF, argsToLocals, Value.category]; done)) ?_
  intro p e s m below meth c C
  refine getS_ C (hw _ (List.mem_of_getElem? (i := 41) rfl)) (M.1.ext E) rm_count1_d0 (pc' := 3) rfl ?_
  refine aloadN C rm_count1_d3 (pc' := 4) rfl rfl rfl ?_
  refine callUp_ C (y := (⟨"com/example/queue_tier_scaler/queuetierscaler/core/accounting/Outcome", "ordinal", "()I"⟩ : MethodName)) (z := (⟨"java/lang/Enum", "ordinal", "()I"⟩ : MethodName)) (owner := "java/lang/Enum") (hw _ (List.mem_of_getElem? (i := 44) rfl)) (hw _ (List.mem_of_getElem? (i := 45) rfl)) (hw _ (List.mem_of_getElem? (i := 46) rfl)) (hw _ (List.mem_of_getElem? (i := 48) rfl)) (hw _ (List.mem_of_getElem? (i := 47) rfl)) (hw _ (List.mem_of_getElem? (i := 49) rfl)) (hw _ (List.mem_of_getElem? (i := 50) rfl)) (by decide) ((K 1 (by decide)).2.1.ext E) pd_2 [] [(.ref sm)] rfl rfl (W := 1) rfl (by decide) (by decide) (by decide) (by decide) (rm_ordinal l Z a0 hw ad K 1 (by decide) h0 E) rfl rm_count1_d4 (pc' := 7) rfl ?_
  rintro _ _ _ ⟨rfl, rfl, rfl⟩
  show Wk p l e _ _ m _ below meth c _ _ _ _ _ _ (mkF m 7 #[.val (.ref a), .val (.ref (ad 1)), .unset, .unset] [(.int 1), (.ref sm)])
  refine ldI_ C (j := 1) (v := .int 2) (M.2.1.ext E) (by rw [M.2.2.1]; decide) M.2.2.2.2.1 rm_count1_d7 (pc' := 8) rfl ?_
  skip
  · skip
    refine tswIn C rm_count1_d8 (by decide) (o := 49) rfl (by decide) (pc' := 57) rfl ?_
    refine aloadN C rm_count1_d57 (pc' := 58) rfl rfl rfl ?_
    refine getF_ C (hw _ (List.mem_of_getElem? (i := 29) rfl)) Via.refl F rm_count1_d58 (pc' := 61) rfl ?_
    refine goto_ C rm_count1_d61 (by decide) (pc' := 75) rfl ?_
    refine lstoreN C rm_count1_d75 (pc' := 76) rfl (Ls' := #[.val (.ref a), .val (.ref (ad 1)), .val (.long pv), .second]) rfl ?_
    refine lloadN C rm_count1_d76 (pc' := 77) rfl rfl ?_
    exact ret_J C rm_count1_d77 rfl (by decide) (by decide) ⟨rfl, rfl, rfl⟩
theorem rm_count2_d0 : decode prog_3_method_2_code 0 = .ok (.getstatic 41, 3) := by decide +kernel
theorem rm_count2_d3 : decode prog_3_method_2_code 3 = .ok (.aload_n 1, 1) := by decide +kernel
theorem rm_count2_d4 : decode prog_3_method_2_code 4 = .ok (.invokevirtual 47, 3) := by decide +kernel
theorem rm_count2_d7 : decode prog_3_method_2_code 7 = .ok (.iaload, 1) := by decide +kernel
theorem rm_count2_d8 : decode prog_3_method_2_code 8 = .ok (.tableswitch 32 1 4 #[42, 49, 56, 63], 32) := by decide +kernel
theorem rm_count2_d64 : decode prog_3_method_2_code 64 = .ok (.aload_n 0, 1) := by decide +kernel
theorem rm_count2_d65 : decode prog_3_method_2_code 65 = .ok (.getfield 35, 3) := by decide +kernel
theorem rm_count2_d68 : decode prog_3_method_2_code 68 = .ok (.goto 7, 3) := by decide +kernel
theorem rm_count2_d75 : decode prog_3_method_2_code 75 = .ok (.lstore_n 2, 1) := by decide +kernel
theorem rm_count2_d76 : decode prog_3_method_2_code 76 = .ok (.lload_n 2, 1) := by decide +kernel
theorem rm_count2_d77 : decode prog_3_method_2_code 77 = .ok (.lreturn, 1) := by decide +kernel
set_option maxRecDepth 65536 in
set_option maxHeartbeats 40000000 in
theorem rm_count2 (l : Launch) (Z : State) (a0 : Array Value) (hw : ∀ d ∈ tables_1, d.before a0 Z = true) (ad : Nat → Addr) (K : KsK Z ad) (sm : Addr) (cl : Cell) (M : SM Z sm cl) (a : Addr) (pv : Int64) (h0 : Heap) (E : Ext Z.heap h0) (F : Fld Z h0 a "com/example/queue_tier_scaler/queuetierscaler/core/accounting/OutcomeCounts" "timedOut" "J" (.long pv)) :
    Met0 l Z (⟨"com/example/queue_tier_scaler/queuetierscaler/core/accounting/OutcomeCounts", "count", "(Lcom/example/queue_tier_scaler/queuetierscaler/core/accounting/Outcome;)J"⟩ : MethodName) [] prog_3_method_2_code 4 (some .long) ({ frames := 1, cells := 0, slots := 0, locals := 14 } : Room) #[(.ref a), (.ref (ad 2))] h0 (fun v h L => v = some (.long pv) ∧ h0 = h ∧ L = []) := by
  refine Met0.of_walk (plainFor_of_name pn_com_example_queue_tier_scaler_queuetierscaler_core_accounting_OutcomeCounts) (Ls := #[.val (.ref a), .val (.ref (ad 2)), .unset, .unset]) (fun m => by first | rfl | (simp [entryFrame, mkF, argsToLocals, Value.category]; done)) ?_
  intro p e s m below meth c C
  refine getS_ C (hw _ (List.mem_of_getElem? (i := 41) rfl)) (M.1.ext E) rm_count2_d0 (pc' := 3) rfl ?_
  refine aloadN C rm_count2_d3 (pc' := 4) rfl rfl rfl ?_
  refine callUp_ C (y := (⟨"com/example/queue_tier_scaler/queuetierscaler/core/accounting/Outcome", "ordinal", "()I"⟩ : MethodName)) (z := (⟨"java/lang/Enum", "ordinal", "()I"⟩ : MethodName)) (owner := "java/lang/Enum") (hw _ (List.mem_of_getElem? (i := 44) rfl)) (hw _ (List.mem_of_getElem? (i := 45) rfl)) (hw _ (List.mem_of_getElem? (i := 46) rfl)) (hw _ (List.mem_of_getElem? (i := 48) rfl)) (hw _ (List.mem_of_getElem? (i := 47) rfl)) (hw _ (List.mem_of_getElem? (i := 49) rfl)) (hw _ (List.mem_of_getElem? (i := 50) rfl)) (by decide) ((K 2 (by decide)).2.1.ext E) pd_2 [] [(.ref sm)] rfl rfl (W := 1) rfl (by decide) (by decide) (by decide) (by decide) (rm_ordinal l Z a0 hw ad K 2 (by decide) h0 E) rfl rm_count2_d4 (pc' := 7) rfl ?_
  rintro _ _ _ ⟨rfl, rfl, rfl⟩
  show Wk p l e _ _ m _ below meth c _ _ _ _ _ _ (mkF m 7 #[.val (.ref a), .val (.ref (ad 2)), .unset, .unset] [(.int 2), (.ref sm)])
  refine ldI_ C (j := 2) (v := .int 3) (M.2.1.ext E) (by rw [M.2.2.1]; decide) M.2.2.2.2.2.1 rm_count2_d7 (pc' := 8) rfl ?_
  skip
  · skip
    refine tswIn C rm_count2_d8 (by decide) (o := 56) rfl (by decide) (pc' := 64) rfl ?_
    refine aloadN C rm_count2_d64 (pc' := 65) rfl rfl rfl ?_
    refine getF_ C (hw _ (List.mem_of_getElem? (i := 31) rfl)) Via.refl F rm_count2_d65 (pc' := 68) rfl ?_
    refine goto_ C rm_count2_d68 (by decide) (pc' := 75) rfl ?_
    refine lstoreN C rm_count2_d75 (pc' := 76) rfl (Ls' := #[.val (.ref a), .val (.ref (ad 2)), .val (.long pv), .second]) rfl ?_
    refine lloadN C rm_count2_d76 (pc' := 77) rfl rfl ?_
    exact ret_J C rm_count2_d77 rfl (by decide) (by decide) ⟨rfl, rfl, rfl⟩
theorem rm_count3_d0 : decode prog_3_method_2_code 0 = .ok (.getstatic 41, 3) := by decide +kernel
theorem rm_count3_d3 : decode prog_3_method_2_code 3 = .ok (.aload_n 1, 1) := by decide +kernel
theorem rm_count3_d4 : decode prog_3_method_2_code 4 = .ok (.invokevirtual 47, 3) := by decide +kernel
theorem rm_count3_d7 : decode prog_3_method_2_code 7 = .ok (.iaload, 1) := by decide +kernel
theorem rm_count3_d8 : decode prog_3_method_2_code 8 = .ok (.tableswitch 32 1 4 #[42, 49, 56, 63], 32) := by decide +kernel
theorem rm_count3_d71 : decode prog_3_method_2_code 71 = .ok (.aload_n 0, 1) := by decide +kernel
theorem rm_count3_d72 : decode prog_3_method_2_code 72 = .ok (.getfield 38, 3) := by decide +kernel
theorem rm_count3_d75 : decode prog_3_method_2_code 75 = .ok (.lstore_n 2, 1) := by decide +kernel
theorem rm_count3_d76 : decode prog_3_method_2_code 76 = .ok (.lload_n 2, 1) := by decide +kernel
theorem rm_count3_d77 : decode prog_3_method_2_code 77 = .ok (.lreturn, 1) := by decide +kernel
set_option maxRecDepth 65536 in
set_option maxHeartbeats 40000000 in
theorem rm_count3 (l : Launch) (Z : State) (a0 : Array Value) (hw : ∀ d ∈ tables_1, d.before a0 Z = true) (ad : Nat → Addr) (K : KsK Z ad) (sm : Addr) (cl : Cell) (M : SM Z sm cl) (a : Addr) (pv : Int64) (h0 : Heap) (E : Ext Z.heap h0) (F : Fld Z h0 a "com/example/queue_tier_scaler/queuetierscaler/core/accounting/OutcomeCounts" "failed" "J" (.long pv)) :
    Met0 l Z (⟨"com/example/queue_tier_scaler/queuetierscaler/core/accounting/OutcomeCounts", "count", "(Lcom/example/queue_tier_scaler/queuetierscaler/core/accounting/Outcome;)J"⟩ : MethodName) [] prog_3_method_2_code 4 (some .long) ({ frames := 1, cells := 0, slots := 0, locals := 14 } : Room) #[(.ref a), (.ref (ad 3))] h0 (fun v h L => v = some (.long pv) ∧ h0 = h ∧ L = []) := by
  refine Met0.of_walk (plainFor_of_name pn_com_example_queue_tier_scaler_queuetierscaler_core_accounting_OutcomeCounts) (Ls := #[.val (.ref a), .val (.ref (ad 3)), .unset, .unset]) (fun m => by first | rfl | (simp [entryFrame, mkF, argsToLocals, Value.category]; done)) ?_
  intro p e s m below meth c C
  refine getS_ C (hw _ (List.mem_of_getElem? (i := 41) rfl)) (M.1.ext E) rm_count3_d0 (pc' := 3) rfl ?_
  refine aloadN C rm_count3_d3 (pc' := 4) rfl rfl rfl ?_
  refine callUp_ C (y := (⟨"com/example/queue_tier_scaler/queuetierscaler/core/accounting/Outcome", "ordinal", "()I"⟩ : MethodName)) (z := (⟨"java/lang/Enum", "ordinal", "()I"⟩ : MethodName)) (owner := "java/lang/Enum") (hw _ (List.mem_of_getElem? (i := 44) rfl)) (hw _ (List.mem_of_getElem? (i := 45) rfl)) (hw _ (List.mem_of_getElem? (i := 46) rfl)) (hw _ (List.mem_of_getElem? (i := 48) rfl)) (hw _ (List.mem_of_getElem? (i := 47) rfl)) (hw _ (List.mem_of_getElem? (i := 49) rfl)) (hw _ (List.mem_of_getElem? (i := 50) rfl)) (by decide) ((K 3 (by decide)).2.1.ext E) pd_2 [] [(.ref sm)] rfl rfl (W := 1) rfl (by decide) (by decide) (by decide) (by decide) (rm_ordinal l Z a0 hw ad K 3 (by decide) h0 E) rfl rm_count3_d4 (pc' := 7) rfl ?_
  rintro _ _ _ ⟨rfl, rfl, rfl⟩
  show Wk p l e _ _ m _ below meth c _ _ _ _ _ _ (mkF m 7 #[.val (.ref a), .val (.ref (ad 3)), .unset, .unset] [(.int 3), (.ref sm)])
  refine ldI_ C (j := 3) (v := .int 4) (M.2.1.ext E) (by rw [M.2.2.1]; decide) M.2.2.2.2.2.2 rm_count3_d7 (pc' := 8) rfl ?_
  skip
  · skip
    refine tswIn C rm_count3_d8 (by decide) (o := 63) rfl (by decide) (pc' := 71) rfl ?_
    refine aloadN C rm_count3_d71 (pc' := 72) rfl rfl rfl ?_
    refine getF_ C (hw _ (List.mem_of_getElem? (i := 33) rfl)) Via.refl F rm_count3_d72 (pc' := 75) rfl ?_
    refine lstoreN C rm_count3_d75 (pc' := 76) rfl (Ls' := #[.val (.ref a), .val (.ref (ad 3)), .val (.long pv), .second]) rfl ?_
    refine lloadN C rm_count3_d76 (pc' := 77) rfl rfl ?_
    exact ret_J C rm_count3_d77 rfl (by decide) (by decide) ⟨rfl, rfl, rfl⟩
theorem pd_3 : parseMethodDescriptor "(JJJJ)V" = some ⟨[.long, .long, .long, .long], none⟩ := by decide +kernel
theorem pd_4 : parseMethodDescriptor "(Lcom/example/queue_tier_scaler/queuetierscaler/core/accounting/Outcome;)J" = some ⟨[(.object "com/example/queue_tier_scaler/queuetierscaler/core/accounting/Outcome")], some .long⟩ := by decide +kernel
theorem pn_com_example_queue_tier_scaler_queuetierscaler_core_accounting_OutcomeCountsCountPinLaw : plainName "com/example/queue_tier_scaler/queuetierscaler/core/accounting/OutcomeCountsCountPinLaw" = true := by first | (simp [plainName, overriddenIn]; done) | decide +kernel
set_option maxRecDepth 65536 in
set_option maxHeartbeats 40000000 in
theorem rm0 (l : Launch) (Z : State) (a0 : Array Value) (hw : ∀ d ∈ tables_1, d.before a0 Z = true) (ad : Nat → Addr) (K : KsK Z ad) (sm : Addr) (cl : Cell) (M : SM Z sm cl) (xa xb xc xd p0 p1 p2 p3 : Int64) (e0 : xa &&& 9223372036854775807 = p0) (hp0 : 0 ≤ p0) (e1 : xb &&& 9223372036854775807 = p1) (hp1 : 0 ≤ p1) (e2 : xc &&& 9223372036854775807 = p2) (hp2 : 0 ≤ p2) (e3 : xd &&& 9223372036854775807 = p3) (hp3 : 0 ≤ p3) (h0 : Heap) (eh : h0 = Z.heap) :
    Met0 l Z x tables_1 code maxLocals ret room_1 #[(.long xa), (.long xb), (.long xc), (.long xd)] h0 (fun v _ L => v = some (.int 1) ∧ Fr Z.heap.size L) := by
  subst eh
  have O := Old.start Z
  have N := Fr.nil Z.heap.size
  refine Met0.of_walk (plainFor_of_name pn_com_example_queue_tier_scaler_queuetierscaler_core_accounting_OutcomeCountsCountPinLaw) (Ls := #[.val (.long xa), .second, .val (.long xb), .second, .val (.long xc), .second, .val (.long xd), .second, .unset, .unset, .unset, .unset, .unset, .unset, .unset, .unset, .unset, .unset, .unset, .unset, .unset]) (fun m => by first | (simp [entryFrame, mkF, argsToLocals, Value.category, maxLocals]; done) | rfl) ?_
  intro p e s m below meth c C
  refine lloadN C at_0 (pc' := 1) rfl rfl ?_
  refine ldc2Long C (hw _ (List.mem_of_getElem? (i := 0) rfl)) at_1 (pc' := 4) rfl ?_
  refine land C at_4 (pc' := 5) rfl ?_
  rw [e0]
  refine lstore C at_5 (pc' := 7) rfl (Ls' := #[.val (.long xa), .second, .val (.long xb), .second, .val (.long xc), .second, .val (.long xd), .second, .val (.long p0), .second, .unset, .unset, .unset, .unset, .unset, .unset, .unset, .unset, .unset, .unset, .unset]) rfl ?_
  refine lloadN C at_7 (pc' := 8) rfl rfl ?_
  refine ldc2Long C (hw _ (List.mem_of_getElem? (i := 0) rfl)) at_8 (pc' := 11) rfl ?_
  refine land C at_11 (pc' := 12) rfl ?_
  rw [e1]
  refine lstore C at_12 (pc' := 14) rfl (Ls' := #[.val (.long xa), .second, .val (.long xb), .second, .val (.long xc), .second, .val (.long xd), .second, .val (.long p0), .second, .val (.long p1), .second, .unset, .unset, .unset, .unset, .unset, .unset, .unset, .unset, .unset]) rfl ?_
  refine lload C at_14 (pc' := 16) rfl rfl ?_
  refine ldc2Long C (hw _ (List.mem_of_getElem? (i := 0) rfl)) at_16 (pc' := 19) rfl ?_
  refine land C at_19 (pc' := 20) rfl ?_
  rw [e2]
  refine lstore C at_20 (pc' := 22) rfl (Ls' := #[.val (.long xa), .second, .val (.long xb), .second, .val (.long xc), .second, .val (.long xd), .second, .val (.long p0), .second, .val (.long p1), .second, .val (.long p2), .second, .unset, .unset, .unset, .unset, .unset, .unset, .unset]) rfl ?_
  refine lload C at_22 (pc' := 24) rfl rfl ?_
  refine ldc2Long C (hw _ (List.mem_of_getElem? (i := 0) rfl)) at_24 (pc' := 27) rfl ?_
  refine land C at_27 (pc' := 28) rfl ?_
  rw [e3]
  refine lstore C at_28 (pc' := 30) rfl (Ls' := #[.val (.long xa), .second, .val (.long xb), .second, .val (.long xc), .second, .val (.long xd), .second, .val (.long p0), .second, .val (.long p1), .second, .val (.long p2), .second, .val (.long p3), .second, .unset, .unset, .unset, .unset, .unset]) rfl ?_
  refine newO_ C (hw _ (List.mem_of_getElem? (i := 1) rfl)) (hw _ (List.mem_of_getElem? (i := 2) rfl)) (hw _ (List.mem_of_getElem? (i := 3) rfl)) at_30 (pc' := 33) rfl (by decide) (by decide) ?_
  intro h5 b5 g5 E5 X5 D5
  have O5 := O.ext E5
  have ge5 : Z.heap.size ≤ b5 := by rw [g5]; exact O.2.1
  have F5_served : Fld Z h5 b5 "com/example/queue_tier_scaler/queuetierscaler/core/accounting/OutcomeCounts" "served" "J" (.long 0) := D5 (Or.inr (hw _ (List.mem_of_getElem? (i := 28) rfl))) (ty := .long) (by decide)
  have F5_dropped : Fld Z h5 b5 "com/example/queue_tier_scaler/queuetierscaler/core/accounting/OutcomeCounts" "dropped" "J" (.long 0) := D5 (Or.inr (hw _ (List.mem_of_getElem? (i := 30) rfl))) (ty := .long) (by decide)
  have F5_timedOut : Fld Z h5 b5 "com/example/queue_tier_scaler/queuetierscaler/core/accounting/OutcomeCounts" "timedOut" "J" (.long 0) := D5 (Or.inr (hw _ (List.mem_of_getElem? (i := 32) rfl))) (ty := .long) (by decide)
  have F5_failed : Fld Z h5 b5 "com/example/queue_tier_scaler/queuetierscaler/core/accounting/OutcomeCounts" "failed" "J" (.long 0) := D5 (Or.inr (hw _ (List.mem_of_getElem? (i := 34) rfl))) (ty := .long) (by decide)
  refine dup C at_33 (pc' := 34) rfl rfl ?_
  refine lload C at_34 (pc' := 36) rfl rfl ?_
  refine lload C at_36 (pc' := 38) rfl rfl ?_
  refine lload C at_38 (pc' := 40) rfl rfl ?_
  refine lload C at_40 (pc' := 42) rfl rfl ?_
  refine callC_ C (y := (⟨"com/example/queue_tier_scaler/queuetierscaler/core/accounting/OutcomeCounts", "<init>", "(JJJJ)V"⟩ : MethodName)) rfl (hw _ (List.mem_of_getElem? (i := 4) rfl)) (hw _ (List.mem_of_getElem? (i := 5) rfl)) (hw _ (List.mem_of_getElem? (i := 3) rfl)) (hw _ (List.mem_of_getElem? (i := 6) rfl)) (by decide) pd_3 [(.long p0), (.long p1), (.long p2), (.long p3)] [(.ref b5)] rfl rfl (W := 1) rfl (by decide) (by decide) (by decide) (by decide) (rm_init l Z a0 hw ad K b5 p0 p1 p2 p3 hp0 hp1 hp2 hp3 h5 O5 ge5 X5 F5_served F5_dropped F5_timedOut F5_failed) rfl at_42 (pc' := 45) rfl ?_
  rintro _ h6 L6 ⟨rfl, N6', P6, X6, F6_served, F6_dropped, F6_timedOut, F6_failed⟩
  have N6 := Fr.app N N6'
  have O6 := O5.keep P6 (allS ge5 all0)
  show Wk p l e _ _ m _ below meth c _ _ _ _ _ _ (mkF m 45 #[.val (.long xa), .second, .val (.long xb), .second, .val (.long xc), .second, .val (.long xd), .second, .val (.long p0), .second, .val (.long p1), .second, .val (.long p2), .second, .val (.long p3), .second, .unset, .unset, .unset, .unset, .unset] [(.ref b5)])
  refine astore C at_45 (pc' := 47) rfl rfl (Ls' := #[.val (.long xa), .second, .val (.long xb), .second, .val (.long xc), .second, .val (.long xd), .second, .val (.long p0), .second, .val (.long p1), .second, .val (.long p2), .second, .val (.long p3), .second, .val (.ref b5), .unset, .unset, .unset, .unset]) rfl ?_
  refine aload C at_47 (pc' := 49) rfl rfl rfl ?_
  refine getS_ C (hw _ (List.mem_of_getElem? (i := 35) rfl)) ((K 0 (by decide)).1.ext O6.2) at_49 (pc' := 52) rfl ?_
  refine callV_ C (y := (⟨"com/example/queue_tier_scaler/queuetierscaler/core/accounting/OutcomeCounts", "count", "(Lcom/example/queue_tier_scaler/queuetierscaler/core/accounting/Outcome;)J"⟩ : MethodName)) (z := (⟨"com/example/queue_tier_scaler/queuetierscaler/core/accounting/OutcomeCounts", "count", "(Lcom/example/queue_tier_scaler/queuetierscaler/core/accounting/Outcome;)J"⟩ : MethodName)) (hw _ (List.mem_of_getElem? (i := 36) rfl)) (hw _ (List.mem_of_getElem? (i := 37) rfl)) (nf_sel (hw _ (List.mem_of_getElem? (i := 39) rfl))) (hw _ (List.mem_of_getElem? (i := 39) rfl)) (hw _ (List.mem_of_getElem? (i := 38) rfl)) (hw _ (List.mem_of_getElem? (i := 3) rfl)) (hw _ (List.mem_of_getElem? (i := 40) rfl)) (by decide) X6 pd_4 [(.ref (ad 0))] [] rfl rfl (W := 0) rfl (by decide) (by decide) (by decide) (by decide) (rm_count0 l Z a0 hw ad K sm cl M b5 p0 h6 O6.2 F6_served) rfl at_52 (pc' := 55) rfl ?_
  rintro _ _ _ ⟨rfl, rfl, rfl⟩
  show Wk p l e _ _ m _ below meth c _ _ _ _ _ _ (mkF m 55 #[.val (.long xa), .second, .val (.long xb), .second, .val (.long xc), .second, .val (.long xd), .second, .val (.long p0), .second, .val (.long p1), .second, .val (.long p2), .second, .val (.long p3), .second, .val (.ref b5), .unset, .unset, .unset, .unset] [(.long p0)])
  rw [List.append_nil]
  refine lload C at_55 (pc' := 57) rfl rfl ?_
  refine lcmp C at_57 (pc' := 58) rfl ?_
  refine if_ne C 65 61 at_58 (by decide) rfl rfl (fun q58 => ?_) (fun q58 => ?_)
  · exact absurd (lc_self _) q58
  refine iconst C at_61 (pc' := 62) rfl (v := 1) rfl ?_
  refine goto_ C at_62 (by decide) (pc' := 66) rfl ?_
  refine istore C at_66 (pc' := 68) rfl (Ls' := #[.val (.long xa), .second, .val (.long xb), .second, .val (.long xc), .second, .val (.long xd), .second, .val (.long p0), .second, .val (.long p1), .second, .val (.long p2), .second, .val (.long p3), .second, .val (.ref b5), .val (.int 1), .unset, .unset, .unset]) rfl ?_
  refine aload C at_68 (pc' := 70) rfl rfl rfl ?_
  refine getS_ C (hw _ (List.mem_of_getElem? (i := 53) rfl)) ((K 1 (by decide)).1.ext O6.2) at_70 (pc' := 73) rfl ?_
  refine callV_ C (y := (⟨"com/example/queue_tier_scaler/queuetierscaler/core/accounting/OutcomeCounts", "count", "(Lcom/example/queue_tier_scaler/queuetierscaler/core/accounting/Outcome;)J"⟩ : MethodName)) (z := (⟨"com/example/queue_tier_scaler/queuetierscaler/core/accounting/OutcomeCounts", "count", "(Lcom/example/queue_tier_scaler/queuetierscaler/core/accounting/Outcome;)J"⟩ : MethodName)) (hw _ (List.mem_of_getElem? (i := 36) rfl)) (hw _ (List.mem_of_getElem? (i := 37) rfl)) (nf_sel (hw _ (List.mem_of_getElem? (i := 39) rfl))) (hw _ (List.mem_of_getElem? (i := 39) rfl)) (hw _ (List.mem_of_getElem? (i := 38) rfl)) (hw _ (List.mem_of_getElem? (i := 3) rfl)) (hw _ (List.mem_of_getElem? (i := 40) rfl)) (by decide) X6 pd_4 [(.ref (ad 1))] [] rfl rfl (W := 0) rfl (by decide) (by decide) (by decide) (by decide) (rm_count1 l Z a0 hw ad K sm cl M b5 p1 h6 O6.2 F6_dropped) rfl at_73 (pc' := 76) rfl ?_
  rintro _ _ _ ⟨rfl, rfl, rfl⟩
  show Wk p l e _ _ m _ below meth c _ _ _ _ _ _ (mkF m 76 #[.val (.long xa), .second, .val (.long xb), .second, .val (.long xc), .second, .val (.long xd), .second, .val (.long p0), .second, .val (.long p1), .second, .val (.long p2), .second, .val (.long p3), .second, .val (.ref b5), .val (.int 1), .unset, .unset, .unset] [(.long p1)])
  rw [List.append_nil]
  refine lload C at_76 (pc' := 78) rfl rfl ?_
  refine lcmp C at_78 (pc' := 79) rfl ?_
  refine if_ne C 86 82 at_79 (by decide) rfl rfl (fun q79 => ?_) (fun q79 => ?_)
  · exact absurd (lc_self _) q79
  refine iconst C at_82 (pc' := 83) rfl (v := 1) rfl ?_
  refine goto_ C at_83 (by decide) (pc' := 87) rfl ?_
  refine istore C at_87 (pc' := 89) rfl (Ls' := #[.val (.long xa), .second, .val (.long xb), .second, .val (.long xc), .second, .val (.long xd), .second, .val (.long p0), .second, .val (.long p1), .second, .val (.long p2), .second, .val (.long p3), .second, .val (.ref b5), .val (.int 1), .val (.int 1), .unset, .unset]) rfl ?_
  refine aload C at_89 (pc' := 91) rfl rfl rfl ?_
  refine getS_ C (hw _ (List.mem_of_getElem? (i := 54) rfl)) ((K 2 (by decide)).1.ext O6.2) at_91 (pc' := 94) rfl ?_
  refine callV_ C (y := (⟨"com/example/queue_tier_scaler/queuetierscaler/core/accounting/OutcomeCounts", "count", "(Lcom/example/queue_tier_scaler/queuetierscaler/core/accounting/Outcome;)J"⟩ : MethodName)) (z := (⟨"com/example/queue_tier_scaler/queuetierscaler/core/accounting/OutcomeCounts", "count", "(Lcom/example/queue_tier_scaler/queuetierscaler/core/accounting/Outcome;)J"⟩ : MethodName)) (hw _ (List.mem_of_getElem? (i := 36) rfl)) (hw _ (List.mem_of_getElem? (i := 37) rfl)) (nf_sel (hw _ (List.mem_of_getElem? (i := 39) rfl))) (hw _ (List.mem_of_getElem? (i := 39) rfl)) (hw _ (List.mem_of_getElem? (i := 38) rfl)) (hw _ (List.mem_of_getElem? (i := 3) rfl)) (hw _ (List.mem_of_getElem? (i := 40) rfl)) (by decide) X6 pd_4 [(.ref (ad 2))] [] rfl rfl (W := 0) rfl (by decide) (by decide) (by decide) (by decide) (rm_count2 l Z a0 hw ad K sm cl M b5 p2 h6 O6.2 F6_timedOut) rfl at_94 (pc' := 97) rfl ?_
  rintro _ _ _ ⟨rfl, rfl, rfl⟩
  show Wk p l e _ _ m _ below meth c _ _ _ _ _ _ (mkF m 97 #[.val (.long xa), .second, .val (.long xb), .second, .val (.long xc), .second, .val (.long xd), .second, .val (.long p0), .second, .val (.long p1), .second, .val (.long p2), .second, .val (.long p3), .second, .val (.ref b5), .val (.int 1), .val (.int 1), .unset, .unset] [(.long p2)])
  rw [List.append_nil]
  refine lload C at_97 (pc' := 99) rfl rfl ?_
  refine lcmp C at_99 (pc' := 100) rfl ?_
  refine if_ne C 107 103 at_100 (by decide) rfl rfl (fun q100 => ?_) (fun q100 => ?_)
  · exact absurd (lc_self _) q100
  refine iconst C at_103 (pc' := 104) rfl (v := 1) rfl ?_
  refine goto_ C at_104 (by decide) (pc' := 108) rfl ?_
  refine istore C at_108 (pc' := 110) rfl (Ls' := #[.val (.long xa), .second, .val (.long xb), .second, .val (.long xc), .second, .val (.long xd), .second, .val (.long p0), .second, .val (.long p1), .second, .val (.long p2), .second, .val (.long p3), .second, .val (.ref b5), .val (.int 1), .val (.int 1), .val (.int 1), .unset]) rfl ?_
  refine aload C at_110 (pc' := 112) rfl rfl rfl ?_
  refine getS_ C (hw _ (List.mem_of_getElem? (i := 55) rfl)) ((K 3 (by decide)).1.ext O6.2) at_112 (pc' := 115) rfl ?_
  refine callV_ C (y := (⟨"com/example/queue_tier_scaler/queuetierscaler/core/accounting/OutcomeCounts", "count", "(Lcom/example/queue_tier_scaler/queuetierscaler/core/accounting/Outcome;)J"⟩ : MethodName)) (z := (⟨"com/example/queue_tier_scaler/queuetierscaler/core/accounting/OutcomeCounts", "count", "(Lcom/example/queue_tier_scaler/queuetierscaler/core/accounting/Outcome;)J"⟩ : MethodName)) (hw _ (List.mem_of_getElem? (i := 36) rfl)) (hw _ (List.mem_of_getElem? (i := 37) rfl)) (nf_sel (hw _ (List.mem_of_getElem? (i := 39) rfl))) (hw _ (List.mem_of_getElem? (i := 39) rfl)) (hw _ (List.mem_of_getElem? (i := 38) rfl)) (hw _ (List.mem_of_getElem? (i := 3) rfl)) (hw _ (List.mem_of_getElem? (i := 40) rfl)) (by decide) X6 pd_4 [(.ref (ad 3))] [] rfl rfl (W := 0) rfl (by decide) (by decide) (by decide) (by decide) (rm_count3 l Z a0 hw ad K sm cl M b5 p3 h6 O6.2 F6_failed) rfl at_115 (pc' := 118) rfl ?_
  rintro _ _ _ ⟨rfl, rfl, rfl⟩
  show Wk p l e _ _ m _ below meth c _ _ _ _ _ _ (mkF m 118 #[.val (.long xa), .second, .val (.long xb), .second, .val (.long xc), .second, .val (.long xd), .second, .val (.long p0), .second, .val (.long p1), .second, .val (.long p2), .second, .val (.long p3), .second, .val (.ref b5), .val (.int 1), .val (.int 1), .val (.int 1), .unset] [(.long p3)])
  rw [List.append_nil]
  refine lload C at_118 (pc' := 120) rfl rfl ?_
  refine lcmp C at_120 (pc' := 121) rfl ?_
  refine if_ne C 128 124 at_121 (by decide) rfl rfl (fun q121 => ?_) (fun q121 => ?_)
  · exact absurd (lc_self _) q121
  refine iconst C at_124 (pc' := 125) rfl (v := 1) rfl ?_
  refine goto_ C at_125 (by decide) (pc' := 129) rfl ?_
  refine istore C at_129 (pc' := 131) rfl (Ls' := #[.val (.long xa), .second, .val (.long xb), .second, .val (.long xc), .second, .val (.long xd), .second, .val (.long p0), .second, .val (.long p1), .second, .val (.long p2), .second, .val (.long p3), .second, .val (.ref b5), .val (.int 1), .val (.int 1), .val (.int 1), .val (.int 1)]) rfl ?_
  refine iload C at_131 (pc' := 133) rfl rfl ?_
  refine if_eq C 155 136 at_133 (by decide) rfl rfl (fun q133 => ?_) (fun q133 => ?_)
  · exact absurd q133 (by decide)
  refine iload C at_136 (pc' := 138) rfl rfl ?_
  refine if_eq C 155 141 at_138 (by decide) rfl rfl (fun q138 => ?_) (fun q138 => ?_)
  · exact absurd q138 (by decide)
  refine iload C at_141 (pc' := 143) rfl rfl ?_
  refine if_eq C 155 146 at_143 (by decide) rfl rfl (fun q143 => ?_) (fun q143 => ?_)
  · exact absurd q143 (by decide)
  refine iload C at_146 (pc' := 148) rfl rfl ?_
  refine if_eq C 155 151 at_148 (by decide) rfl rfl (fun q148 => ?_) (fun q148 => ?_)
  · exact absurd q148 (by decide)
  refine iconst C at_151 (pc' := 152) rfl (v := 1) rfl ?_
  refine goto_ C at_152 (by decide) (pc' := 156) rfl ?_
  exact ret_Z C at_156 rfl (by decide) (by decide) (by decide) ⟨rfl, N6⟩
theorem mask63 (x : Int64) : 0 ≤ (x &&& 9223372036854775807) := by
  rw [Jvm.Kit.i64_nonneg, Jvm.Kit.i64_mask x 9223372036854775807 (k := 63) (by decide) (by decide)]; omega
set_option maxRecDepth 65536 in
set_option maxHeartbeats 40000000 in
theorem comes_1 {Post : Tables → Env → Array Value → State → Outcome → State → Prop} (hpost : ∀ tb e args s v u, (limb_1_1.after args s (.returned v) u = true ∧ limb_1_2.after args s (.returned v) u = true ∧ True) → FrameEnd s (.returned v) u (Jvm.fieldLocs frame_1_writes args s ++ Jvm.arrayLocs frame_1_arrays args s ++ Jvm.staticLocs frame_1_statics s) 16 128 → Post tb e args s (.returned v) u) :
    ArmFor flags0 classFile x code maxLocals ret World_1 tables_1 room_1 Calls_1 rest_1 Pre_1 Post := by
  intro l hfl _ _ p e ha hc hk s m args below hf hA hF happ hP
  obtain ⟨hcalls, hrest, hpre⟩ := hP
  obtain ⟨-, -, -, hnamed, -, -, -, hat⟩ := (Spec.applies_iff hf).mp happ
  obtain ⟨hg, hn⟩ := and_e (Cond.before_iff.mp (show (Jvm.Cond.and given_1 narrow_1).before args s = true from hpre))
  obtain ⟨u1, w1_⟩ := and_e hg
  obtain ⟨u2, w2_⟩ := and_e w1_
  obtain ⟨u3, w3_⟩ := and_e w2_
  obtain ⟨u4, w4_⟩ := and_e w3_
  obtain ⟨u5, w5_⟩ := and_e hn
  obtain ⟨u6, w6_⟩ := and_e w5_
  obtain ⟨u7, w7_⟩ := and_e w6_
  obtain ⟨u8, w8_⟩ := and_e w7_
  obtain ⟨u9, w9_⟩ := and_e w8_
  obtain ⟨u10, w10_⟩ := and_e w9_
  obtain ⟨u11, w11_⟩ := and_e w10_
  obtain ⟨u12, w12_⟩ := and_e w11_
  obtain ⟨u13, w13_⟩ := and_e w12_
  obtain ⟨u14, w14_⟩ := and_e w13_
  obtain ⟨u15, w15_⟩ := and_e w14_
  obtain ⟨u16, w16_⟩ := and_e w15_
  obtain ⟨u17, w17_⟩ := and_e w16_
  obtain ⟨v0, v1, v2, v3, rfl⟩ : ∃ v0 v1 v2 v3 : Value, args = #[v0, v1, v2, v3] := by
    have hs : args.size = 4 := by simpa [Cond.value, given_1] using u1
    obtain ⟨L⟩ := args
    match L, hs with
    | [v0, v1, v2, v3], _ => exact ⟨v0, v1, v2, v3, rfl⟩
  have hw := fun d (hd : d ∈ tables_1) => atoms_spec (ws := Jvm.Cond.code x code maxLocals ret :: tables_1) hat d (List.mem_cons_of_mem _ hd)
  have hfit : Fit s := fun {y c} hc i hi => by
    obtain ⟨ha, rfl⟩ := Array.getElem?_eq_some_iff.mp hc
    have q := List.all_eq_true.mp ((Array.all_eq_true_iff_forall_mem.mp hF) _ (Array.getElem_mem ha)) i (List.mem_range.mpr hi)
    simpa [Array.getElem?_eq_getElem hi] using q
  obtain ⟨i0, ei0⟩ := isL_v u2
  obtain rfl : v0 = (.long i0) := Option.some.inj ei0
  obtain ⟨i1, ei1⟩ := isL_v u3
  obtain rfl : v1 = (.long i1) := Option.some.inj ei1
  obtain ⟨i2, ei2⟩ := isL_v u4
  obtain rfl : v2 = (.long i2) := Option.some.inj ei2
  obtain ⟨i3, ei3⟩ := isL_v w4_
  obtain rfl : v3 = (.long i3) := Option.some.inj ei3
  obtain ⟨ad_SERVED, ev_SERVED, S_SERVED, E_SERVED⟩ := sta_of u5 (hw _ (List.mem_of_getElem? (i := 16) rfl)) (hw _ (List.mem_of_getElem? (i := 17) rfl))
  obtain ⟨ad_DROPPED, ev_DROPPED, S_DROPPED, E_DROPPED⟩ := sta_of u6 (hw _ (List.mem_of_getElem? (i := 16) rfl)) (hw _ (List.mem_of_getElem? (i := 22) rfl))
  obtain ⟨ad_TIMED_OUT, ev_TIMED_OUT, S_TIMED_OUT, E_TIMED_OUT⟩ := sta_of u7 (hw _ (List.mem_of_getElem? (i := 16) rfl)) (hw _ (List.mem_of_getElem? (i := 24) rfl))
  obtain ⟨ad_FAILED, ev_FAILED, S_FAILED, E_FAILED⟩ := sta_of u8 (hw _ (List.mem_of_getElem? (i := 16) rfl)) (hw _ (List.mem_of_getElem? (i := 26) rfl))
  have F_ordinal_SERVED := fld_of ev_SERVED u11
  have F_ordinal_DROPPED := fld_of ev_DROPPED u13
  have F_ordinal_TIMED_OUT := fld_of ev_TIMED_OUT u15
  have F_ordinal_FAILED := fld_of ev_FAILED u17
  have K : KsK s (fun k => [ad_SERVED, ad_DROPPED, ad_TIMED_OUT, ad_FAILED].getD k 0) := fun k hk => by
    match k, hk with
    | 0, _ => exact ⟨S_SERVED, E_SERVED, F_ordinal_SERVED⟩
    | 1, _ => exact ⟨S_DROPPED, E_DROPPED, F_ordinal_DROPPED⟩
    | 2, _ => exact ⟨S_TIMED_OUT, E_TIMED_OUT, F_ordinal_TIMED_OUT⟩
    | 3, _ => exact ⟨S_FAILED, E_FAILED, F_ordinal_FAILED⟩
    | k + 4, hk => exact absurd hk (by omega)
  obtain ⟨sm, cl, ev_sm, S_sm, A_sm⟩ := sta_arr u9 (hw _ (List.mem_of_getElem? (i := 42) rfl)) (hw _ (List.mem_of_getElem? (i := 43) rfl))
  have M : SM s sm cl := ⟨S_sm, A_sm, arr_len (n := 4) (by decide) ev_sm A_sm u10, arr_at ev_sm A_sm u12, arr_at ev_sm A_sm u14, arr_at ev_sm A_sm u16, arr_at ev_sm A_sm w17_⟩
  obtain ⟨n, o, h1, h2, h3, _, L, rfl, ⟨rfl, N⟩, hq⟩ := rm0 l s _ hw _ K sm cl M i0 i1 i2 i3 _ _ _ _ rfl (mask63 _) rfl (mask63 _) rfl (mask63 _) rfl (mask63 _) s.heap rfl p e ha hc hk s m _ below hf ((Spec.applies_iff_loose hf).mp happ).1 ⟨rfl, State.Warmed39.refl s, rfl⟩ trivial
  exact ⟨n, _, h1, h2, h3, hpost _ _ _ _ _ _ ⟨Cond.after_iff.mpr rfl, Cond.after_iff.mpr (eq_i res_at (Term.int_eval (1)) rfl), trivial⟩ ⟨hq.1, hq.2.1, (hq.2.2.sift fun y hy => Or.inr (N y hy)).mono (by decide) (by decide)⟩⟩
theorem main_1_1 : Claimed_1_1 := comes_1 fun _ _ _ _ _ _ h hF => ⟨h.1, hF⟩
theorem main_1_2 : Claimed_1_2 := comes_1 fun _ _ _ _ _ _ h hF => ⟨h.2.1, hF⟩
end Jvm.Pilot.@@N@@
namespace Jvm.Pilot.@@N@@
open Jvm Jvm.ClassFile Sem Op Lib Jvm.Free Jvm.Stand Jvm.Pilot.@@N@@.Jvm.D
/-! MADE BY PROGRAM (witnessworld.py) out of the Statement's table words and the real class files: 15 classes; the members and pool entries that the words name. The judged class is class 1, her method 1. -/
namespace start1
open Jvm.ClassFile
def u (s : String) : CpInfo := .utf8 (stringToUtf16 s)
/-- a pool by its gaps: so many unusable entries, then the entry; so many at the end -/
def gap : Nat → List CpInfo → List CpInfo
  | 0, r => r
  | n + 1, r => .unusable :: gap n r
def poolList (es : List (Nat × CpInfo)) (last : Nat) : List CpInfo := es.foldr (fun e r => gap e.1 (e.2 :: r)) (gap last [])
def pool (es : List (Nat × CpInfo)) (last : Nat) : Array CpInfo := ⟨poolList es last⟩
def fileOf (pool : Array CpInfo) (this : Nat) (attrs : Array Attribute := #[]) (ms : Array MethodInfo := #[]) (fl : Nat := 33) (sup : Nat := 0) (ifs : Array Nat := #[]) (fds : Array FieldInfo := #[]) : ClassFile where
  minorVersion := 0
  majorVersion := 65
  constantPool := pool
  accessFlags := fl
  thisClass := this
  superClass := sup
  interfaces := ifs
  fields := fds
  methods := ms
  attributes := attrs
def plain (name : String) (sup : Option ClassId) : Class where
  name := name
  kind := .ordinary
  loader := none
  accessFlags := 33
  super := sup
  interfaces := #[]
  cf := none
  fields := #[]
  methods := #[]
  instanceTypes := #[]
  staticTypes := #[]
  resolved := #[]
  callSites := []
  init := .initialized
  statics := none
  mirror := none

def pool0 : Array CpInfo := pool [(5, u "<init>"), (0, u "()V"), (1, .class_ 10), (1, u "java/lang/Object")] 113

def k0c0 : Code := { maxStack := 0, maxLocals := 1, code := object_method_1_code, exceptionTable := #[], attributes := #[] }
def k0m0 : Method := { name := "<init>", desc := "()V", sig := { parameters := [], returnType := none }, accessFlags := 1, code := some k0c0 }
/-- java/lang/Object -/
def k0 : Class := { plain "java/lang/Object" none with
  accessFlags := 33
  interfaces := #[]
  cf := some (fileOf pool0 8 #[] #[{ accessFlags := 1, nameIndex := 5, descriptorIndex := 6, attributes := #[] }] 33 0 #[] #[])
  fields := #[]
  methods := #[k0m0]
  instanceTypes := #[]
  staticTypes := #[]
  resolved := Array.replicate 124 none
  statics := none }

def pool1 : Array CpInfo := pool [(2, .class_ 4), (1, u "java/lang/Object"), (0, u "<init>"), (0, u "()V"), (0, .long 9223372036854775807), (1, .class_ 10), (0, u "com/example/queue_tier_scaler/queuetierscaler/core/accounting/OutcomeCounts"), (0, .methodref 9 12), (0, .nameAndType 5 13), (0, u "(JJJJ)V"), (0, .fieldref 15 16), (0, .class_ 17), (0, .nameAndType 18 19), (0, u "com/example/queue_tier_scaler/queuetierscaler/core/accounting/Outcome"), (0, u "SERVED"), (0, u "Lcom/example/queue_tier_scaler/queuetierscaler/core/accounting/Outcome;"), (0, .methodref 9 21), (0, .nameAndType 22 23), (0, u "count"), (0, u "(Lcom/example/queue_tier_scaler/queuetierscaler/core/accounting/Outcome;)J"), (0, .fieldref 15 25), (0, .nameAndType 26 19), (0, u "DROPPED"), (0, .fieldref 15 28), (0, .nameAndType 29 19), (0, u "TIMED_OUT"), (0, .fieldref 15 31), (0, .nameAndType 32 19), (0, u "FAILED"), (0, .class_ 34), (0, u "com/example/queue_tier_scaler/queuetierscaler/core/accounting/OutcomeCountsCountPinLaw"), (2, u "law"), (0, u "(JJJJ)Z")] 3

def k1m0 : Method := { name := "<init>", desc := "()V", sig := { parameters := [], returnType := none }, accessFlags := 1, code := none }
def k1c1 : Code := { maxStack := 10, maxLocals := 21, code := code, exceptionTable := #[], attributes := #[] }
def k1m1 : Method := { name := "law", desc := "(JJJJ)Z", sig := { parameters := [.long, .long, .long, .long], returnType := some .boolean }, accessFlags := 9, code := some k1c1 }
/-- com/example/queue_tier_scaler/queuetierscaler/core/accounting/OutcomeCountsCountPinLaw -/
def k1 : Class := { plain "com/example/queue_tier_scaler/queuetierscaler/core/accounting/OutcomeCountsCountPinLaw" (some 0) with
  accessFlags := 49
  interfaces := #[]
  cf := some (fileOf pool1 33 #[] #[{ accessFlags := 1, nameIndex := 5, descriptorIndex := 6, attributes := #[] }, { accessFlags := 9, nameIndex := 37, descriptorIndex := 38, attributes := #[] }] 49 2 #[] #[])
  fields := #[]
  methods := #[k1m0, k1m1]
  instanceTypes := #[]
  staticTypes := #[]
  resolved := Array.replicate 42 none
  statics := none }

def pool2 : Array CpInfo := pool [(1, .methodref 2 3), (0, .class_ 4), (0, .nameAndType 5 6), (0, u "java/lang/Object"), (0, u "<init>"), (0, u "()V"), (0, .class_ 8), (0, u "java/lang/Record")] 13

def k2c0 : Code := { maxStack := 1, maxLocals := 1, code := jdk_30_method_1_code, exceptionTable := #[], attributes := #[] }
def k2m0 : Method := { name := "<init>", desc := "()V", sig := { parameters := [], returnType := none }, accessFlags := 4, code := some k2c0 }
/-- java/lang/Record -/
def k2 : Class := { plain "java/lang/Record" (some 0) with
  accessFlags := 1057
  interfaces := #[]
  cf := some (fileOf pool2 7 #[] #[{ accessFlags := 4, nameIndex := 5, descriptorIndex := 6, attributes := #[] }] 1057 2 #[] #[])
  fields := #[]
  methods := #[k2m0]
  instanceTypes := #[]
  staticTypes := #[]
  resolved := Array.replicate 22 none
  statics := none }

def pool3 : Array CpInfo := pool [(1, .methodref 2 3), (0, .class_ 4), (0, .nameAndType 5 6), (0, u "java/lang/Record"), (0, u "<init>"), (0, u "()V"), (0, .fieldref 8 9), (0, .class_ 10), (0, .nameAndType 11 12), (0, u "com/example/queue_tier_scaler/queuetierscaler/core/accounting/Outcome"), (0, u "SERVED"), (0, u "Lcom/example/queue_tier_scaler/queuetierscaler/core/accounting/Outcome;"), (0, .methodref 14 15), (0, .class_ 16), (0, .nameAndType 17 18), (0, u "com/example/queue_tier_scaler/queuetierscaler/core/accounting/OutcomeCounts"), (0, u "requireCount"), (0, u "(Lcom/example/queue_tier_scaler/queuetierscaler/core/accounting/Outcome;J)V"), (0, .fieldref 8 20), (0, .nameAndType 21 12), (0, u "DROPPED"), (0, .fieldref 8 23), (0, .nameAndType 24 12), (0, u "TIMED_OUT"), (0, .fieldref 8 26), (0, .nameAndType 27 12), (0, u "FAILED"), (0, .fieldref 14 29), (0, .nameAndType 30 31), (0, u "served"), (0, u "J"), (0, .fieldref 14 33), (0, .nameAndType 34 31), (0, u "dropped"), (0, .fieldref 14 36), (0, .nameAndType 37 31), (0, u "timedOut"), (0, .fieldref 14 39), (0, .nameAndType 40 31), (0, u "failed"), (0, .fieldref 42 43), (0, .class_ 44), (0, .nameAndType 45 46), (0, u "com/example/queue_tier_scaler/queuetierscaler/core/accounting/OutcomeCounts$1"), (0, u "$SwitchMap$com$example$queue_tier_scaler$queuetierscaler$core$accounting$Outcome"), (0, u "[I"), (0, .methodref 8 48), (0, .nameAndType 49 50), (0, u "ordinal"), (0, u "()I"), (11, u "count"), (0, u "(Lcom/example/queue_tier_scaler/queuetierscaler/core/accounting/Outcome;)J"), (13, u "Ljava/math/BigDecimal;"), (13, u "PER"), (41, u "DECIMALS"), (0, u "I"), (2, u "(JJJJ)V")] 42

def k3c0 : Code := { maxStack := 3, maxLocals := 9, code := prog_3_method_1_code, exceptionTable := #[], attributes := #[] }
def k3m0 : Method := { name := "<init>", desc := "(JJJJ)V", sig := { parameters := [.long, .long, .long, .long], returnType := none }, accessFlags := 1, code := some k3c0 }
def k3c1 : Code := { maxStack := 4, maxLocals := 4, code := prog_3_method_2_code, exceptionTable := #[], attributes := #[] }
def k3m1 : Method := { name := "count", desc := "(Lcom/example/queue_tier_scaler/queuetierscaler/core/accounting/Outcome;)J", sig := { parameters := [(.object "com/example/queue_tier_scaler/queuetierscaler/core/accounting/Outcome")], returnType := some .long }, accessFlags := 1, code := some k3c1 }
def k3c2 : Code := { maxStack := 5, maxLocals := 3, code := prog_3_method_6_code, exceptionTable := #[], attributes := #[] }
def k3m2 : Method := { name := "requireCount", desc := "(Lcom/example/queue_tier_scaler/queuetierscaler/core/accounting/Outcome;J)V", sig := { parameters := [(.object "com/example/queue_tier_scaler/queuetierscaler/core/accounting/Outcome"), .long], returnType := none }, accessFlags := 10, code := some k3c2 }
/-- com/example/queue_tier_scaler/queuetierscaler/core/accounting/OutcomeCounts -/
def k3 : Class := { plain "com/example/queue_tier_scaler/queuetierscaler/core/accounting/OutcomeCounts" (some 2) with
  accessFlags := 49
  interfaces := #[]
  cf := some (fileOf pool3 14 #[.nestMembers #[42]] #[{ accessFlags := 1, nameIndex := 5, descriptorIndex := 137, attributes := #[] }, { accessFlags := 1, nameIndex := 62, descriptorIndex := 63, attributes := #[] }, { accessFlags := 10, nameIndex := 17, descriptorIndex := 18, attributes := #[] }] 49 2 #[] #[{ accessFlags := 18, nameIndex := 30, descriptorIndex := 31, attributes := #[] }, { accessFlags := 18, nameIndex := 34, descriptorIndex := 31, attributes := #[] }, { accessFlags := 18, nameIndex := 37, descriptorIndex := 31, attributes := #[] }, { accessFlags := 18, nameIndex := 40, descriptorIndex := 31, attributes := #[] }, { accessFlags := 26, nameIndex := 91, descriptorIndex := 77, attributes := #[] }, { accessFlags := 26, nameIndex := 133, descriptorIndex := 134, attributes := #[] }])
  fields := #[{ name := "served", type := .long, accessFlags := 18, slot := 0, constantValue := 0 }, { name := "dropped", type := .long, accessFlags := 18, slot := 1, constantValue := 0 }, { name := "timedOut", type := .long, accessFlags := 18, slot := 2, constantValue := 0 }, { name := "failed", type := .long, accessFlags := 18, slot := 3, constantValue := 0 }, { name := "PER", type := (.object "java/math/BigDecimal"), accessFlags := 26, slot := 0, constantValue := 0 }, { name := "DECIMALS", type := .int, accessFlags := 26, slot := 1, constantValue := 0 }]
  methods := #[k3m0, k3m1, k3m2]
  instanceTypes := #[.long, .long, .long, .long]
  staticTypes := #[(.object "java/math/BigDecimal"), .int]
  resolved := Array.replicate 180 none
  statics := none }

def pool4 : Array CpInfo := pool [(1, .class_ 2), (0, u "java/lang/constant/Constable"), (0, .class_ 4), (0, u "java/lang/Object")] 6

/-- java/lang/constant/Constable -/
def k4 : Class := { plain "java/lang/constant/Constable" (some 0) with
  accessFlags := 1537
  interfaces := #[]
  cf := some (fileOf pool4 1 #[] #[] 1537 3 #[] #[])
  fields := #[]
  methods := #[]
  instanceTypes := #[]
  staticTypes := #[]
  resolved := Array.replicate 11 none
  statics := none }

def pool5 : Array CpInfo := pool [(1, .class_ 2), (0, u "java/lang/Comparable"), (0, .class_ 4), (0, u "java/lang/Object")] 7

/-- java/lang/Comparable -/
def k5 : Class := { plain "java/lang/Comparable" (some 0) with
  accessFlags := 1537
  interfaces := #[]
  cf := some (fileOf pool5 1 #[] #[] 1537 3 #[] #[])
  fields := #[]
  methods := #[]
  instanceTypes := #[]
  staticTypes := #[]
  resolved := Array.replicate 12 none
  statics := none }

def pool6 : Array CpInfo := pool [(1, .class_ 2), (0, u "java/io/Serializable"), (0, .class_ 4), (0, u "java/lang/Object")] 2

/-- java/io/Serializable -/
def k6 : Class := { plain "java/io/Serializable" (some 0) with
  accessFlags := 1537
  interfaces := #[]
  cf := some (fileOf pool6 1 #[] #[] 1537 3 #[] #[])
  fields := #[]
  methods := #[]
  instanceTypes := #[]
  staticTypes := #[]
  resolved := Array.replicate 7 none
  statics := none }

def pool7 : Array CpInfo := pool [(2, .class_ 4), (1, u "java/lang/Enum"), (0, u "name"), (0, u "Ljava/lang/String;"), (0, .fieldref 2 8), (0, .nameAndType 9 10), (0, u "ordinal"), (0, u "I"), (1, .class_ 14), (1, u "java/lang/Object"), (4, u "hash"), (86, .class_ 108), (1, u "java/lang/Enum$EnumDesc"), (2, .class_ 112), (0, u "java/lang/constant/Constable"), (0, .class_ 114), (0, u "java/lang/Comparable"), (0, .class_ 116), (0, u "java/io/Serializable"), (9, u "()I")] 77

def k7c0 : Code := { maxStack := 1, maxLocals := 1, code := jdk_37_method_2_code, exceptionTable := #[], attributes := #[] }
def k7m0 : Method := { name := "ordinal", desc := "()I", sig := { parameters := [], returnType := some .int }, accessFlags := 17, code := some k7c0 }
/-- java/lang/Enum -/
def k7 : Class := { plain "java/lang/Enum" (some 0) with
  accessFlags := 1057
  interfaces := #[4, 5, 6]
  cf := some (fileOf pool7 2 #[.nestMembers #[106]] #[{ accessFlags := 17, nameIndex := 9, descriptorIndex := 126, attributes := #[] }] 1057 12 #[111, 113, 115] #[{ accessFlags := 18, nameIndex := 5, descriptorIndex := 6, attributes := #[] }, { accessFlags := 18, nameIndex := 9, descriptorIndex := 10, attributes := #[] }, { accessFlags := 2, nameIndex := 19, descriptorIndex := 10, attributes := #[] }])
  fields := #[{ name := "name", type := (.object "java/lang/String"), accessFlags := 18, slot := 0, constantValue := 0 }, { name := "ordinal", type := .int, accessFlags := 18, slot := 1, constantValue := 0 }, { name := "hash", type := .int, accessFlags := 2, slot := 2, constantValue := 0 }]
  methods := #[k7m0]
  instanceTypes := #[(.object "java/lang/String"), .int, .int]
  staticTypes := #[]
  resolved := Array.replicate 204 none
  statics := none }

def pool8 : Array CpInfo := pool [(1, .class_ 2), (0, u "com/example/queue_tier_scaler/queuetierscaler/core/accounting/Outcome"), (2, u "SERVED"), (0, u "Lcom/example/queue_tier_scaler/queuetierscaler/core/accounting/Outcome;"), (2, u "DROPPED"), (2, u "TIMED_OUT"), (2, u "FAILED"), (2, u "$VALUES"), (0, u "[Lcom/example/queue_tier_scaler/queuetierscaler/core/accounting/Outcome;"), (6, .class_ 28), (1, u "java/lang/Enum"), (8, u "word"), (0, u "Ljava/lang/String;"), (2, u "unhappy"), (0, u "Z"), (19, u "NOT_FOUND"), (0, u "I"), (2, u "CONFLICT"), (1, u "SERVICE_UNAVAILABLE"), (1, u "GATEWAY_TIMEOUT")] 19

/-- com/example/queue_tier_scaler/queuetierscaler/core/accounting/Outcome -/
def k8 : Class := { plain "com/example/queue_tier_scaler/queuetierscaler/core/accounting/Outcome" (some 7) with
  accessFlags := 16433
  interfaces := #[]
  cf := some (fileOf pool8 1 #[] #[] 16433 26 #[] #[{ accessFlags := 16409, nameIndex := 5, descriptorIndex := 6, attributes := #[] }, { accessFlags := 16409, nameIndex := 9, descriptorIndex := 6, attributes := #[] }, { accessFlags := 16409, nameIndex := 12, descriptorIndex := 6, attributes := #[] }, { accessFlags := 16409, nameIndex := 15, descriptorIndex := 6, attributes := #[] }, { accessFlags := 26, nameIndex := 62, descriptorIndex := 63, attributes := #[] }, { accessFlags := 26, nameIndex := 66, descriptorIndex := 63, attributes := #[] }, { accessFlags := 26, nameIndex := 68, descriptorIndex := 63, attributes := #[] }, { accessFlags := 26, nameIndex := 70, descriptorIndex := 63, attributes := #[] }, { accessFlags := 18, nameIndex := 37, descriptorIndex := 38, attributes := #[] }, { accessFlags := 18, nameIndex := 41, descriptorIndex := 42, attributes := #[] }, { accessFlags := 4122, nameIndex := 18, descriptorIndex := 19, attributes := #[] }])
  fields := #[{ name := "SERVED", type := (.object "com/example/queue_tier_scaler/queuetierscaler/core/accounting/Outcome"), accessFlags := 16409, slot := 0, constantValue := 0 }, { name := "DROPPED", type := (.object "com/example/queue_tier_scaler/queuetierscaler/core/accounting/Outcome"), accessFlags := 16409, slot := 1, constantValue := 0 }, { name := "TIMED_OUT", type := (.object "com/example/queue_tier_scaler/queuetierscaler/core/accounting/Outcome"), accessFlags := 16409, slot := 2, constantValue := 0 }, { name := "FAILED", type := (.object "com/example/queue_tier_scaler/queuetierscaler/core/accounting/Outcome"), accessFlags := 16409, slot := 3, constantValue := 0 }, { name := "NOT_FOUND", type := .int, accessFlags := 26, slot := 4, constantValue := 0 }, { name := "CONFLICT", type := .int, accessFlags := 26, slot := 5, constantValue := 0 }, { name := "SERVICE_UNAVAILABLE", type := .int, accessFlags := 26, slot := 6, constantValue := 0 }, { name := "GATEWAY_TIMEOUT", type := .int, accessFlags := 26, slot := 7, constantValue := 0 }, { name := "word", type := (.object "java/lang/String"), accessFlags := 18, slot := 3, constantValue := 0 }, { name := "unhappy", type := .boolean, accessFlags := 18, slot := 4, constantValue := 0 }, { name := "$VALUES", type := (.array (.object "com/example/queue_tier_scaler/queuetierscaler/core/accounting/Outcome")), accessFlags := 4122, slot := 8, constantValue := 0 }]
  methods := #[]
  instanceTypes := #[(.object "java/lang/String"), .int, .int, (.object "java/lang/String"), .boolean]
  staticTypes := #[(.object "com/example/queue_tier_scaler/queuetierscaler/core/accounting/Outcome"), (.object "com/example/queue_tier_scaler/queuetierscaler/core/accounting/Outcome"), (.object "com/example/queue_tier_scaler/queuetierscaler/core/accounting/Outcome"), (.object "com/example/queue_tier_scaler/queuetierscaler/core/accounting/Outcome"), .int, .int, .int, .int, (.array (.object "com/example/queue_tier_scaler/queuetierscaler/core/accounting/Outcome"))]
  resolved := Array.replicate 90 none
  statics := some 0 }

def pool9 : Array CpInfo := pool [(8, .class_ 10), (1, u "com/example/queue_tier_scaler/queuetierscaler/core/accounting/OutcomeCounts$1"), (0, u "$SwitchMap$com$example$queue_tier_scaler$queuetierscaler$core$accounting$Outcome"), (0, u "[I"), (19, .class_ 33), (0, u "java/lang/Object"), (8, .class_ 43), (0, u "com/example/queue_tier_scaler/queuetierscaler/core/accounting/OutcomeCounts")] 2

/-- com/example/queue_tier_scaler/queuetierscaler/core/accounting/OutcomeCounts$1 -/
def k9 : Class := { plain "com/example/queue_tier_scaler/queuetierscaler/core/accounting/OutcomeCounts$1" (some 0) with
  accessFlags := 4128
  interfaces := #[]
  cf := some (fileOf pool9 8 #[.nestHost 42] #[] 4128 32 #[] #[{ accessFlags := 4120, nameIndex := 11, descriptorIndex := 12, attributes := #[] }])
  fields := #[{ name := "$SwitchMap$com$example$queue_tier_scaler$queuetierscaler$core$accounting$Outcome", type := (.array .int), accessFlags := 4120, slot := 0, constantValue := 0 }]
  methods := #[]
  instanceTypes := #[]
  staticTypes := #[(.array .int)]
  resolved := Array.replicate 46 none
  statics := some 1 }

def pool10 : Array CpInfo := pool [(1, u "java/lang/Cloneable"), (0, .class_ 1), (0, u "java/lang/Object"), (0, .class_ 3)] 3

/-- java/lang/Cloneable -/
def k10 : Class := { plain "java/lang/Cloneable" (some 0) with
  accessFlags := 1537
  interfaces := #[]
  cf := some (fileOf pool10 2 #[] #[] 1537 4 #[] #[])
  fields := #[]
  methods := #[]
  instanceTypes := #[]
  staticTypes := #[]
  resolved := Array.replicate 8 none
  statics := none }

/-- the primitive byte -/
def k11 : Class := { plain "byte" none with kind := .primitive 'B', accessFlags := 0x411 }
/-- [B -/
def k12 : Class := { plain "[B" (some 0) with kind := .array 11 .byte, interfaces := #[10, 6], accessFlags := 1041 }

/-- the primitive int -/
def k13 : Class := { plain "int" none with kind := .primitive 'I', accessFlags := 0x411 }
/-- [I -/
def k14 : Class := { plain "[I" (some 0) with kind := .array 13 .int, interfaces := #[10, 6], accessFlags := 1041 }

def heap : Heap := #[{ cls := 8, slots := #[.ref 2, .ref 3, .ref 4, .ref 5, .int 0, .int 0, .int 0, .int 0, .null], vm := .statics 8 },
  { cls := 9, slots := #[.ref 6], vm := .statics 9 },
  { cls := 8, slots := #[.null, .int 0, .int 0, .null, .int 0], vm := .none },
  { cls := 8, slots := #[.null, .int 1, .int 0, .null, .int 0], vm := .none },
  { cls := 8, slots := #[.null, .int 2, .int 0, .null, .int 0], vm := .none },
  { cls := 8, slots := #[.null, .int 3, .int 0, .null, .int 0], vm := .none },
  { cls := 14, slots := #[.int 1, .int 2, .int 3, .int 4], vm := .none }]
def classes : Array Class := #[k0, k1, k2, k3, k4, k5, k6, k7, k8, k9, k10, k11, k12, k13, k14]
def interned : List (Array UInt16 × Addr) := []
def slotsUsed : Nat := 34
def theMethod : MethodId := ⟨1, 1⟩
def args0 : Array Value := #[.long 5, .long 4, .long 3, .long 2]
def aboutOver (below : List Frame) : State where
  vm := { classes := classes, interned := interned.toArray }
  heap := heap
  slotsUsed := slotsUsed
  threads := #[{ frames := .invoking theMethod args0 :: below }]
def below0 : List Frame := [.native { method := ⟨0, 0⟩, args := #[] }]
def about1 : State := aboutOver below0
def p0 : Program := .bare "" "" ""
def e0 : Env := launch0.env 0 0 0
theorem w_frames : about1.frames = Frame.invoking theMethod args0 :: below0 := rfl
set_option maxRecDepth 65536 in
theorem w_args : argsFit about1.vm theMethod args0 = true := by decide +kernel
set_option maxRecDepth 65536 in
theorem w_heap : heapFits about1 = true := by decide +kernel
set_option maxRecDepth 65536 in
theorem w_runnable : about1.curStatus? = some .runnable := by decide +kernel
set_option maxRecDepth 65536 in
theorem w_alone : about1.alone = true := by decide +kernel
set_option maxRecDepth 65536 in
theorem w_named : about1.methodNamed? x = some theMethod := by decide +kernel
set_option maxRecDepth 65536 in
theorem w_hears : about1.hears theMethod below0 = true := by decide +kernel
set_option maxRecDepth 65536 in
theorem w_ripe : about1.ripe theMethod args0 below0 = true := by decide +kernel
theorem w_running : about1.status = .running := rfl
set_option maxRecDepth 65536 in
theorem w_room : about1.hasRoom e0.platform room_1 = true :=
  launch0.hasRoom_least _ room_1 (by decide +kernel) (by decide +kernel) (by decide +kernel) (by decide +kernel) (by decide +kernel) (by decide +kernel)
theorem allAtoms_all (ts : List Jvm.Cond) (a : Array Jvm.Value) (st : Jvm.State) : (allAtoms ts).before a st = ts.all (fun c => c.before a st) := by
  induction ts with
  | nil => rfl
  | cons c t ih =>
    show (Jvm.Cond.and c (allAtoms t)).before a st = _
    rw [Jvm.Cond.before_and, ih, List.all_cons]
def words1 : List Jvm.Cond := Jvm.Cond.code x code maxLocals ret :: tables_1
/-- a 'code' word, met by the world's own term for the bytes: nothing is compared byte by byte -/
theorem code_word {y : MethodName} {bytes : ByteArray} {mx : Nat} {rt : Option FieldType} {a : Array Value} {s : State} {m : MethodId} {meth : Method} {c : Code} (h1 : s.methodNamed? y = some m) (h2 : s.vm.method? m = some meth) (h3 : meth.code = some c) (h4 : c.code = bytes)
    (h5 : (c.maxLocals == mx && c.exceptionTable.isEmpty && decide (c.maxStack ≤ mostOperands) && decide (meth.sig.returnType = rt) && !meth.locks && decide (parseMethodDescriptor y.desc = some meth.sig)) = true) : (Jvm.Cond.code y bytes mx rt).before a s = true := by
  simp only [Bool.and_eq_true, beq_iff_eq, Bool.not_eq_true', decide_eq_true_eq] at h5
  obtain ⟨⟨⟨⟨⟨g1, g2⟩, g3⟩, g4⟩, g5⟩, g6⟩ := h5
  simp [Cond.before, Cond.holds, Cond.value, h1, h2, h3, h4, g1, g2, g3, g4, g5, g6]
def isCode : Jvm.Cond → Bool
  | .code _ _ _ _ => true
  | _ => false
theorem all_split {L : List Jvm.Cond} {P : Jvm.Cond → Bool} (h1 : L.all (fun c => isCode c || P c) = true) (h2 : ∀ c ∈ L.filter isCode, P c = true) : L.all P = true := by
  refine List.all_eq_true.mpr fun c hc => ?_
  have h := List.all_eq_true.mp h1 c hc
  rcases Bool.eq_false_or_eq_true (isCode c) with hi | hi
  · exact h2 c (List.mem_filter.mpr ⟨hc, hi⟩)
  · simpa [hi] using h
set_option maxRecDepth 65536 in
theorem w_c0 : (Jvm.Cond.code x code maxLocals ret).before args0 about1 = true := code_word (m := ⟨1, 1⟩) (meth := k1m1) (c := k1c1) (by decide +kernel) rfl rfl rfl (by decide +kernel)
set_option maxRecDepth 65536 in
theorem w_c1 : (Jvm.Cond.code ({ cls := "com/example/queue_tier_scaler/queuetierscaler/core/accounting/OutcomeCounts", name := "<init>", desc := "(JJJJ)V" } : Jvm.MethodName) prog_3_method_1_code (9 : Nat) (Option.none : Option Jvm.ClassFile.FieldType)).before args0 about1 = true := code_word (m := ⟨3, 0⟩) (meth := k3m0) (c := k3c0) (by decide +kernel) rfl rfl rfl (by decide +kernel)
set_option maxRecDepth 65536 in
theorem w_c2 : (Jvm.Cond.code ({ cls := "java/lang/Record", name := "<init>", desc := "()V" } : Jvm.MethodName) jdk_30_method_1_code (1 : Nat) (Option.none : Option Jvm.ClassFile.FieldType)).before args0 about1 = true := code_word (m := ⟨2, 0⟩) (meth := k2m0) (c := k2c0) (by decide +kernel) rfl rfl rfl (by decide +kernel)
set_option maxRecDepth 65536 in
theorem w_c3 : (Jvm.Cond.code ({ cls := "java/lang/Object", name := "<init>", desc := "()V" } : Jvm.MethodName) object_method_1_code (1 : Nat) (Option.none : Option Jvm.ClassFile.FieldType)).before args0 about1 = true := code_word (m := ⟨0, 0⟩) (meth := k0m0) (c := k0c0) (by decide +kernel) rfl rfl rfl (by decide +kernel)
set_option maxRecDepth 65536 in
theorem w_c4 : (Jvm.Cond.code ({ cls := "com/example/queue_tier_scaler/queuetierscaler/core/accounting/OutcomeCounts", name := "requireCount", desc := "(Lcom/example/queue_tier_scaler/queuetierscaler/core/accounting/Outcome;J)V" } : Jvm.MethodName) prog_3_method_6_code (3 : Nat) (Option.none : Option Jvm.ClassFile.FieldType)).before args0 about1 = true := code_word (m := ⟨3, 2⟩) (meth := k3m2) (c := k3c2) (by decide +kernel) rfl rfl rfl (by decide +kernel)
set_option maxRecDepth 65536 in
theorem w_c5 : (Jvm.Cond.code ({ cls := "com/example/queue_tier_scaler/queuetierscaler/core/accounting/OutcomeCounts", name := "count", desc := "(Lcom/example/queue_tier_scaler/queuetierscaler/core/accounting/Outcome;)J" } : Jvm.MethodName) prog_3_method_2_code (4 : Nat) (Option.some Jvm.ClassFile.FieldType.long)).before args0 about1 = true := code_word (m := ⟨3, 1⟩) (meth := k3m1) (c := k3c1) (by decide +kernel) rfl rfl rfl (by decide +kernel)
set_option maxRecDepth 65536 in
theorem w_c6 : (Jvm.Cond.code ({ cls := "java/lang/Enum", name := "ordinal", desc := "()I" } : Jvm.MethodName) jdk_37_method_2_code (1 : Nat) (Option.some Jvm.ClassFile.FieldType.int)).before args0 about1 = true := code_word (m := ⟨7, 0⟩) (meth := k7m0) (c := k7c0) (by decide +kernel) rfl rfl rfl (by decide +kernel)
def codes1 : List Jvm.Cond := [Jvm.Cond.code x code maxLocals ret, Jvm.Cond.code ({ cls := "com/example/queue_tier_scaler/queuetierscaler/core/accounting/OutcomeCounts", name := "<init>", desc := "(JJJJ)V" } : Jvm.MethodName) prog_3_method_1_code (9 : Nat) (Option.none : Option Jvm.ClassFile.FieldType), Jvm.Cond.code ({ cls := "java/lang/Record", name := "<init>", desc := "()V" } : Jvm.MethodName) jdk_30_method_1_code (1 : Nat) (Option.none : Option Jvm.ClassFile.FieldType), Jvm.Cond.code ({ cls := "java/lang/Object", name := "<init>", desc := "()V" } : Jvm.MethodName) object_method_1_code (1 : Nat) (Option.none : Option Jvm.ClassFile.FieldType), Jvm.Cond.code ({ cls := "com/example/queue_tier_scaler/queuetierscaler/core/accounting/OutcomeCounts", name := "requireCount", desc := "(Lcom/example/queue_tier_scaler/queuetierscaler/core/accounting/Outcome;J)V" } : Jvm.MethodName) prog_3_method_6_code (3 : Nat) (Option.none : Option Jvm.ClassFile.FieldType), Jvm.Cond.code ({ cls := "com/example/queue_tier_scaler/queuetierscaler/core/accounting/OutcomeCounts", name := "count", desc := "(Lcom/example/queue_tier_scaler/queuetierscaler/core/accounting/Outcome;)J" } : Jvm.MethodName) prog_3_method_2_code (4 : Nat) (Option.some Jvm.ClassFile.FieldType.long), Jvm.Cond.code ({ cls := "java/lang/Enum", name := "ordinal", desc := "()I" } : Jvm.MethodName) jdk_37_method_2_code (1 : Nat) (Option.some Jvm.ClassFile.FieldType.int)]
set_option maxRecDepth 65536 in
theorem codes_eq : words1.filter isCode = codes1 := rfl
theorem w_codes : ∀ c ∈ words1.filter isCode, c.before args0 about1 = true := by
  rw [codes_eq]
  intro c hc
  simp only [codes1, List.mem_cons, List.not_mem_nil, or_false] at hc
  rcases hc with rfl | rfl | rfl | rfl | rfl | rfl | rfl
  · exact w_c0
  · exact w_c1
  · exact w_c2
  · exact w_c3
  · exact w_c4
  · exact w_c5
  · exact w_c6
set_option maxRecDepth 65536 in
theorem w_t1 : (words1.take 24).all (fun c => isCode c || c.before args0 about1) = true := by decide +kernel
set_option maxRecDepth 65536 in
theorem w_t2 : ((words1.drop 24).take 24).all (fun c => isCode c || c.before args0 about1) = true := by decide +kernel
set_option maxRecDepth 65536 in
theorem w_t3 : ((words1.drop 24).drop 24).all (fun c => isCode c || c.before args0 about1) = true := by decide +kernel
theorem w_tables : (allAtoms (Jvm.Cond.code x code maxLocals ret :: tables_1)).before args0 about1 = true := by
  rw [allAtoms_all]
  show words1.all (fun c => c.before args0 about1) = true
  refine all_split ?_ w_codes
  rw [← List.take_append_drop 24 words1, List.all_append, w_t1, ← List.take_append_drop 24 (words1.drop 24), List.all_append, w_t2, w_t3]
  rfl
set_option maxRecDepth 65536 in
theorem w_case : (Jvm.Cond.and given_1 narrow_1).before args0 about1 = true := by decide +kernel
theorem w_applies : (headSpec (Jvm.Cond.code x code maxLocals ret :: tables_1) room_1).applies x e0.platform about1 = true :=
  (Spec.applies_iff w_frames).mpr ⟨w_running, w_runnable, w_alone, w_named, w_hears, w_ripe, w_room, w_tables⟩
theorem atStart : AtStart classFile x code maxLocals ret World_1 tables_1 room_1 Calls_1 rest_1 Pre_1 launch0 p0 e0 about1 theMethod args0 below0 :=
  ⟨lists_1, trivial, launch0.admits_env _ _ _, launch0.least_env, fairChoices_fair.cas, fairChoices_fair.clock, w_frames, w_args, w_heap, w_applies, trivial, trivial, w_case⟩
end start1
theorem witness_1 : WitnessClaimed_1 := ⟨start1.p0, start1.e0, start1.about1, start1.theMethod, start1.args0, start1.below0, start1.atStart⟩
end Jvm.Pilot.@@N@@
