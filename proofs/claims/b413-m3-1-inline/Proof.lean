import JvmDerived
import JvmDerived.Pilot.@@N@@Statement
import JvmDerived.Pilot.@@N@@Code
set_option linter.unusedVariables false
set_option linter.unusedSimpArgs false
@@BLOCK:NumsL.lean.txt@@
namespace Jvm.Own
open Sem ClassFile Op Lib Jvm.Stand Jvm.Free Jvm.LawKit Jvm.RoadKit
/-! ## a walk, backwards: 'Wk .. g': from every state that stands so, with the frame g on top, the run ends by a return that meets Q -/
def Ends (p : Program) (e : Env) (FE : Outcome → State → List Loc → Prop) (below : List Frame) (Q : Option Value → Heap → List Loc → Prop) (T : State) (g : JFrame) : Prop :=
  ∃ s₂ o, Steps p.tables e below (T.setTop g) s₂ ∧ s₂.status = .running ∧ Ended s₂ below o ∧ ∃ v L, o = .returned v ∧ Q v s₂.heap L ∧ FE o s₂ L
def FEn (s : State) (R : Room) (o : Outcome) (t : State) (L : List Loc) : Prop := FrameEnd s o t L R.cells R.slots
def FEw (s : State) (R : Room) (o : Outcome) (t : State) (L : List Loc) : Prop := ReturnedEndW s o t L R.cells R.slots
def Wk (p : Program) (l : Launch) (e : Env) (R : Room) (s : State) (m : MethodId) (args : Array Value) (below : List Frame) (meth : Method) (c : Code) (Q : Option Value → Heap → List Loc → Prop) (FE : Outcome → State → List Loc → Prop) (h : Heap) (locs : List Loc) (cells slots : Nat) (g : JFrame) : Prop :=
  ∀ T, Stand p l e R s m args below meth c T locs cells slots → T.heap = h → Ends p e FE below Q T g
def Cx (p : Program) (s : State) (m : MethodId) (meth : Method) (c : Code) (Z : State) (code : ByteArray) (maxL : Nat) (ret : Option FieldType) (own nm : String) (R : Room) (FE : Outcome → State → List Loc → Prop) (G : State → Prop) : Prop :=
  p.tables.exec = Jvm.exec ∧ c.code = code ∧ c.maxLocals = maxL ∧ meth.sig.returnType = ret ∧ s.vm.findClass own = some m.cls ∧ Z.Warmed39 s.vm ∧ meth.name = nm ∧ meth.locks = false ∧ ∀ o t L, G t → FrameEnd s o t L R.cells R.slots → FE o t L
/-- a body's contract: on these arguments, over this heap -/
def Met0 (l : Launch) (Z : State) (y : MethodName) (ws : List Jvm.Cond) (code : ByteArray) (maxL : Nat) (ret : Option FieldType) (rm : Room) (as' : Array Value) (h0 : Heap) (Q : Option Value → Heap → List Loc → Prop) : Prop :=
  MetFree l y (head1 (Jvm.Cond.code y code maxL ret :: ws) rm) (fun a U => a = as' ∧ Z.Warmed39 U.vm ∧ U.heap = h0) (fun _ _ _ _ _ => True) (fun _ U o U' => ∃ v L, o = .returned v ∧ Q v U'.heap L ∧ FrameEnd U o U' L rm.cells rm.slots)
theorem Met0.of_walk {l : Launch} {Z : State} {y : MethodName} {ws : List Jvm.Cond} {code : ByteArray} {maxL : Nat} {ret : Option FieldType} {rm : Room} {as' : Array Value} {h0 : Heap} {Q : Option Value → Heap → List Loc → Prop} (hpl : plainFor y = true) {Ls : Array Slot} (hef : ∀ m, entryFrame m as' maxL = mkF m 0 Ls [])
    (hb : ∀ p e s m below meth c, Cx p s m meth c Z code maxL ret y.cls y.name rm (FEn s rm) (fun _ => True) → Wk p l e rm s m as' below meth c Q (FEn s rm) h0 [] 0 0 (mkF m 0 Ls [])) : Met0 l Z y ws code maxL ret rm as' h0 Q := by
  refine MetFree.of_bodySF hpl hisR ?_
  intro p e s m args below meth c s₁ Bd hml0 hP hK
  obtain ⟨rfl, hZ, hh⟩ := hP
  have X0 : Stand p l e rm s m args below meth c s₁ [] 0 0 := Stand.of_body Bd
  have e0 : s₁.heap = h0 := by rw [← hh, Bd.state]; rfl
  have C : Cx p s m meth c Z code maxL ret y.cls y.name rm (FEn s rm) (fun _ => True) := ⟨Bd.exec, Bd.bytes, hml0, Bd.returns, findClass_of_methodNamed Bd.named, hZ, (name_of_methodNamed Bd.named Bd.method).1, BodyLoose.notSynchronized Bd, fun _ _ _ _ q => q⟩
  obtain ⟨s₂, o, st, r⟩ := hb p e s m below meth c C s₁ X0 e0
  exact ⟨s₂, o, castTop (hef m) st, r⟩
/-- .. of a body that interns literals and reads them: the invariant on the constants EL goes through -/
def FEh (s : State) (R : Room) (Z : State) (EL : List (String × Nat)) (o : Outcome) (t : State) (L : List Loc) : Prop := CHr Z EL s.vm s.heap t.vm t.heap ∧ ReturnedEndW s o t L R.cells R.slots
def Gh (s Z : State) (EL : List (String × Nat)) (k0 : Nat) (t : State) : Prop := k0 ≤ t.heap.size ∧ CHr Z EL s.vm s.heap t.vm t.heap
def MetH (l : Launch) (Z : State) (EL : List (String × Nat)) (y : MethodName) (ws : List Jvm.Cond) (code : ByteArray) (maxL : Nat) (ret : Option FieldType) (rm : Room) (as' : Array Value) (h0 : Heap) (Q : Option Value → Heap → List Loc → Prop) : Prop :=
  MetFree l y (head1 (Jvm.Cond.code y code maxL ret :: ws) rm) (fun a U => a = as' ∧ Z.Warmed39 U.vm ∧ U.heap = h0 ∧ CHv Z EL U.vm h0) (fun _ _ _ _ _ => True) (fun _ U o U' => ∃ v L, o = .returned v ∧ Q v U'.heap L ∧ CHr Z EL U.vm U.heap U'.vm U'.heap ∧ ReturnedEndW U o U' L rm.cells rm.slots)
theorem fe_sinceH {s : State} {vm1 : Vm} {k1 : Nat} {R : Room} {Z : State} {EL : List (String × Nat)} (hS : s.Since vm1 k1) : ∀ o t L, Gh s Z EL k1 t → FrameEnd (s.setVm vm1) o t L R.cells R.slots → FEh s R Z EL o t L := fun o t L hk q => by
  obtain ⟨a, b, c⟩ := hS.ended (U := t) q.2.1 hk.1 q.2.2
  exact ⟨hk.2, q.1, a, b, c⟩
theorem MetH.of_walk {l : Launch} {Z : State} {EL : List (String × Nat)} {y : MethodName} {ws : List Jvm.Cond} {code : ByteArray} {maxL : Nat} {ret : Option FieldType} {rm : Room} {as' : Array Value} {h0 : Heap} {Q : Option Value → Heap → List Loc → Prop} (hpl : plainFor y = true) {Ls : Array Slot} (hef : ∀ m, entryFrame m as' maxL = mkF m 0 Ls [])
    (hb : ∀ p e s vm0 m below meth c, Cx p (s.setVm vm0) m meth c Z code maxL ret y.cls y.name rm (FEh s rm Z EL) (Gh s Z EL 0) → s.Since vm0 0 → CHr Z EL s.vm s.heap vm0 h0 → Wk p l e rm (s.setVm vm0) m as' below meth c Q (FEh s rm Z EL) h0 [] 0 0 (mkF m 0 Ls [])) : MetH l Z EL y ws code maxL ret rm as' h0 Q := by
  refine MetFree.of_bodySF hpl hisR ?_
  intro p e s m args below meth c s₁ Bd hml0 hP hK
  obtain ⟨rfl, hZ, hh, hH⟩ := hP
  have X0 : Stand p l e rm (s.setVm s.vm) m args below meth c s₁ [] 0 0 := Stand.of_body Bd
  have e0 : s₁.heap = h0 := by rw [← hh, Bd.state]; rfl
  have hS0 : s.Since s.vm 0 := (State.WarmedH.refl s).since 0
  have C : Cx p (s.setVm s.vm) m meth c Z code maxL ret y.cls y.name rm (FEh s rm Z EL) (Gh s Z EL 0) := ⟨Bd.exec, Bd.bytes, hml0, Bd.returns, findClass_of_methodNamed Bd.named, hZ, (name_of_methodNamed Bd.named Bd.method).1, BodyLoose.notSynchronized Bd, fe_sinceH hS0⟩
  obtain ⟨s₂, o, st, h1, h2, v, L, h3, h4, h5⟩ := hb p e s s.vm m below meth c C hS0 (by rw [hh]; exact CHr.refl hH) s₁ X0 e0
  exact ⟨s₂, o, castTop (hef m) st, h1, h2, v, L, h3, h4, h5.1, h5.2⟩
/-- the end of such a walk -/
theorem gh_end {s Z : State} {EL : List (String × Nat)} {vm0 : Vm} {k0 : Nat} {h : Heap} {a0 : Array Value} (hZ : Z.Warmed39 vm0) (hEL : EW Z a0 EL) (hk : k0 ≤ h.size) (A : CHr Z EL s.vm s.heap vm0 h) : ∀ t : State, t.heap = h → (s.setVm vm0).WarmedH t.vm → Gh s Z EL k0 t := fun t e w => by
  have q := CHv.later (h' := h) hZ (hW := (show (Wst Z vm0 h).Warmed39 t.vm from w.wide)) hEL ⟨Nat.le_refl _, fun _ _ q => q⟩ (Or.inl w.interned_eq) A.1
  exact ⟨by rw [e]; exact hk, by rw [e]; exact A.trans ⟨q.1, Nat.le_refl _, q.2⟩⟩
section Steps
variable {p : Program} {l : Launch} {e : Env} {R : Room} {s : State} {m : MethodId} {args : Array Value} {below : List Frame} {meth : Method} {c : Code} {Q : Option Value → Heap → List Loc → Prop} {h : Heap} {locs : List Loc} {cells slots : Nat} {Z : State} {code : ByteArray} {maxL : Nat} {ret : Option FieldType} {own nm : String} {FE : Outcome → State → List Loc → Prop} {G : State → Prop} {a0 : Array Value}
variable {pc pc' : Nat} {Ls : Array Slot} {st rest : List Value}
theorem Wk.step {g g' : JFrame} (hs : ∀ T target, Stand p l e R s m args below meth c T locs cells slots → T.heap = h → Steps p.tables e below (T.setTop g') target → Steps p.tables e below (T.setTop g) target) (hr : Wk p l e R s m args below meth c Q FE h locs cells slots g') : Wk p l e R s m args below meth c Q FE h locs cells slots g := fun T X eT => by
  obtain ⟨s₂, o, st, r⟩ := hr T X eT
  exact ⟨s₂, o, hs T s₂ X eT st, r⟩
theorem Wk.law {g g' : JFrame} (hs : ∀ T, Stand p l e R s m args below meth c T locs cells slots → T.heap = h → ∃ T', Stand p l e R s m args below meth c T' locs cells slots ∧ T'.heap = h ∧ ∀ target, Steps p.tables e below (T'.setTop g') target → Steps p.tables e below (T.setTop g) target) (hr : Wk p l e R s m args below meth c Q FE h locs cells slots g') : Wk p l e R s m args below meth c Q FE h locs cells slots g := fun T X eT => by
  obtain ⟨T', X', e', q⟩ := hs T X eT
  obtain ⟨s₂, o, st, r⟩ := hr T' X' e'
  exact ⟨s₂, o, q s₂ st, r⟩
theorem iloadN (C : Cx p s m meth c Z code maxL ret own nm R FE G) {k : Fin 4} {v : Int32} (hd : decode code pc = .ok (.iload_n k, 1)) (hp : pc + 1 = pc') (hl : Ls[k.val]? = some (.val (.int v)))
    (hr : Wk p l e R s m args below meth c Q FE h locs cells slots (mkF m pc' Ls (.int v :: st))) : Wk p l e R s m args below meth c Q FE h locs cells slots (mkF m pc Ls st) := by
  subst hp
  exact Wk.step (fun T t X eT q => XS.iloadN X.here C.1 rfl (hb C.2.1 hd) hl q) hr
theorem lloadN (C : Cx p s m meth c Z code maxL ret own nm R FE G) {k : Fin 4} {v : Int64} (hd : decode code pc = .ok (.lload_n k, 1)) (hp : pc + 1 = pc') (hl : Ls[k.val]? = some (.val (.long v)))
    (hr : Wk p l e R s m args below meth c Q FE h locs cells slots (mkF m pc' Ls (.long v :: st))) : Wk p l e R s m args below meth c Q FE h locs cells slots (mkF m pc Ls st) := by
  subst hp
  exact Wk.step (fun T t X eT q => XS.lloadN X.here C.1 rfl (hb C.2.1 hd) hl q) hr
theorem aloadN (C : Cx p s m meth c Z code maxL ret own nm R FE G) {k : Fin 4} {v : Value} (hd : decode code pc = .ok (.aload_n k, 1)) (hp : pc + 1 = pc') (hl : Ls[k.val]? = some (.val v)) (hv : v.isRef = true)
    (hr : Wk p l e R s m args below meth c Q FE h locs cells slots (mkF m pc' Ls (v :: st))) : Wk p l e R s m args below meth c Q FE h locs cells slots (mkF m pc Ls st) := by
  subst hp
  exact Wk.step (fun T t X eT q => XS.aloadN X.here C.1 rfl (hb C.2.1 hd) hl hv q) hr
theorem istoreN (C : Cx p s m meth c Z code maxL ret own nm R FE G) {k : Fin 4} {v : Int32} {Ls' : Array Slot} (hd : decode code pc = .ok (.istore_n k, 1)) (hp : pc + 1 = pc') (hl : storeLocals Ls k.val (.int v) = some Ls')
    (hr : Wk p l e R s m args below meth c Q FE h locs cells slots (mkF m pc' Ls' st)) : Wk p l e R s m args below meth c Q FE h locs cells slots (mkF m pc Ls (.int v :: st)) := by
  subst hp
  exact Wk.step (fun T t X eT q => XS.istoreN X.here C.1 rfl (hb C.2.1 hd) rfl hl q) hr
theorem lstoreN (C : Cx p s m meth c Z code maxL ret own nm R FE G) {k : Fin 4} {v : Int64} {Ls' : Array Slot} (hd : decode code pc = .ok (.lstore_n k, 1)) (hp : pc + 1 = pc') (hl : storeLocals Ls k.val (.long v) = some Ls')
    (hr : Wk p l e R s m args below meth c Q FE h locs cells slots (mkF m pc' Ls' st)) : Wk p l e R s m args below meth c Q FE h locs cells slots (mkF m pc Ls (.long v :: st)) := by
  subst hp
  exact Wk.step (fun T t X eT q => XS.lstoreN X.here C.1 rfl (hb C.2.1 hd) rfl hl q) hr
theorem astoreN (C : Cx p s m meth c Z code maxL ret own nm R FE G) {k : Fin 4} {v : Value} {Ls' : Array Slot} (hd : decode code pc = .ok (.astore_n k, 1)) (hp : pc + 1 = pc') (hv : v.isRef = true) (hl : storeLocals Ls k.val v = some Ls')
    (hr : Wk p l e R s m args below meth c Q FE h locs cells slots (mkF m pc' Ls' st)) : Wk p l e R s m args below meth c Q FE h locs cells slots (mkF m pc Ls (v :: st)) := by
  subst hp
  exact Wk.step (fun T t X eT q => XS.astoreN X.here C.1 rfl (hb C.2.1 hd) rfl hv hl q) hr
theorem iload (C : Cx p s m meth c Z code maxL ret own nm R FE G) {k : Nat} {v : Int32} (hd : decode code pc = .ok (.iload k, 2)) (hp : pc + 2 = pc') (hl : Ls[k]? = some (.val (.int v)))
    (hr : Wk p l e R s m args below meth c Q FE h locs cells slots (mkF m pc' Ls (.int v :: st))) : Wk p l e R s m args below meth c Q FE h locs cells slots (mkF m pc Ls st) := by
  subst hp
  exact Wk.step (fun T t X eT q => XS.iload X.here C.1 rfl (hb C.2.1 hd) hl q) hr
theorem lload (C : Cx p s m meth c Z code maxL ret own nm R FE G) {k : Nat} {v : Int64} (hd : decode code pc = .ok (.lload k, 2)) (hp : pc + 2 = pc') (hl : Ls[k]? = some (.val (.long v)))
    (hr : Wk p l e R s m args below meth c Q FE h locs cells slots (mkF m pc' Ls (.long v :: st))) : Wk p l e R s m args below meth c Q FE h locs cells slots (mkF m pc Ls st) := by
  subst hp
  exact Wk.step (fun T t X eT q => XS.lload X.here C.1 rfl (hb C.2.1 hd) hl q) hr
theorem aload (C : Cx p s m meth c Z code maxL ret own nm R FE G) {k : Nat} {v : Value} (hd : decode code pc = .ok (.aload k, 2)) (hp : pc + 2 = pc') (hl : Ls[k]? = some (.val v)) (hv : v.isRef = true)
    (hr : Wk p l e R s m args below meth c Q FE h locs cells slots (mkF m pc' Ls (v :: st))) : Wk p l e R s m args below meth c Q FE h locs cells slots (mkF m pc Ls st) := by
  subst hp
  exact Wk.step (fun T t X eT q => XS.aload X.here C.1 rfl (hb C.2.1 hd) hl hv q) hr
theorem istore (C : Cx p s m meth c Z code maxL ret own nm R FE G) {k : Nat} {v : Int32} {Ls' : Array Slot} (hd : decode code pc = .ok (.istore k, 2)) (hp : pc + 2 = pc') (hl : storeLocals Ls k (.int v) = some Ls')
    (hr : Wk p l e R s m args below meth c Q FE h locs cells slots (mkF m pc' Ls' st)) : Wk p l e R s m args below meth c Q FE h locs cells slots (mkF m pc Ls (.int v :: st)) := by
  subst hp
  exact Wk.step (fun T t X eT q => XS.istore X.here C.1 rfl (hb C.2.1 hd) rfl hl q) hr
theorem lstore (C : Cx p s m meth c Z code maxL ret own nm R FE G) {k : Nat} {v : Int64} {Ls' : Array Slot} (hd : decode code pc = .ok (.lstore k, 2)) (hp : pc + 2 = pc') (hl : storeLocals Ls k (.long v) = some Ls')
    (hr : Wk p l e R s m args below meth c Q FE h locs cells slots (mkF m pc' Ls' st)) : Wk p l e R s m args below meth c Q FE h locs cells slots (mkF m pc Ls (.long v :: st)) := by
  subst hp
  exact Wk.step (fun T t X eT q => XS.lstore X.here C.1 rfl (hb C.2.1 hd) rfl hl q) hr
theorem astore (C : Cx p s m meth c Z code maxL ret own nm R FE G) {k : Nat} {v : Value} {Ls' : Array Slot} (hd : decode code pc = .ok (.astore k, 2)) (hp : pc + 2 = pc') (hv : v.isRef = true) (hl : storeLocals Ls k v = some Ls')
    (hr : Wk p l e R s m args below meth c Q FE h locs cells slots (mkF m pc' Ls' st)) : Wk p l e R s m args below meth c Q FE h locs cells slots (mkF m pc Ls (v :: st)) := by
  subst hp
  exact Wk.step (fun T t X eT q => XS.astore X.here C.1 rfl (hb C.2.1 hd) rfl hv hl q) hr
theorem iconst (C : Cx p s m meth c Z code maxL ret own nm R FE G) {i : Int} {v : Int32} (hd : decode code pc = .ok (.iconst i, 1)) (hp : pc + 1 = pc') (hv : Int32.ofInt i = v)
    (hr : Wk p l e R s m args below meth c Q FE h locs cells slots (mkF m pc' Ls (.int v :: st))) : Wk p l e R s m args below meth c Q FE h locs cells slots (mkF m pc Ls st) := by
  subst hp
  subst hv
  exact Wk.step (fun T t X eT q => XS.iconst X.here C.1 rfl (hb C.2.1 hd) q) hr
theorem bipush (C : Cx p s m meth c Z code maxL ret own nm R FE G) {i : Int} {v : Int32} (hd : decode code pc = .ok (.bipush i, 2)) (hp : pc + 2 = pc') (hv : (Int8.ofInt i).toInt32 = v)
    (hr : Wk p l e R s m args below meth c Q FE h locs cells slots (mkF m pc' Ls (.int v :: st))) : Wk p l e R s m args below meth c Q FE h locs cells slots (mkF m pc Ls st) := by
  subst hp
  subst hv
  exact Wk.step (fun T t X eT q => XS.bipush X.here C.1 rfl (hb C.2.1 hd) q) hr
theorem sipush (C : Cx p s m meth c Z code maxL ret own nm R FE G) {i : Int} {v : Int32} (hd : decode code pc = .ok (.sipush i, 3)) (hp : pc + 3 = pc') (hv : (Int16.ofInt i).toInt32 = v)
    (hr : Wk p l e R s m args below meth c Q FE h locs cells slots (mkF m pc' Ls (.int v :: st))) : Wk p l e R s m args below meth c Q FE h locs cells slots (mkF m pc Ls st) := by
  subst hp
  subst hv
  exact Wk.step (fun T t X eT q => XS.sipush X.here C.1 rfl (hb C.2.1 hd) q) hr
theorem lconst (C : Cx p s m meth c Z code maxL ret own nm R FE G) {k : Fin 2} {v : Int64} (hd : decode code pc = .ok (.lconst k, 1)) (hp : pc + 1 = pc') (hv : Int64.ofNat k = v)
    (hr : Wk p l e R s m args below meth c Q FE h locs cells slots (mkF m pc' Ls (.long v :: st))) : Wk p l e R s m args below meth c Q FE h locs cells slots (mkF m pc Ls st) := by
  subst hp
  subst hv
  exact Wk.step (fun T t X eT q => XS.lconst X.here C.1 rfl (hb C.2.1 hd) q) hr
theorem aconstNull (C : Cx p s m meth c Z code maxL ret own nm R FE G)  (hd : decode code pc = .ok (.aconst_null, 1)) (hp : pc + 1 = pc') 
    (hr : Wk p l e R s m args below meth c Q FE h locs cells slots (mkF m pc' Ls (.null :: st))) : Wk p l e R s m args below meth c Q FE h locs cells slots (mkF m pc Ls st) := by
  subst hp
  exact Wk.step (fun T t X eT q => XS.aconstNull X.here C.1 rfl (hb C.2.1 hd) q) hr
theorem iadd (C : Cx p s m meth c Z code maxL ret own nm R FE G) {x y : Int32} (hd : decode code pc = .ok (.iadd, 1)) (hp : pc + 1 = pc') 
    (hr : Wk p l e R s m args below meth c Q FE h locs cells slots (mkF m pc' Ls (.int (x + y) :: st))) : Wk p l e R s m args below meth c Q FE h locs cells slots (mkF m pc Ls (.int y :: .int x :: st)) := by
  subst hp
  exact Wk.step (fun T t X eT q => XS.iadd X.here C.1 rfl (hb C.2.1 hd) rfl q) hr
theorem isub (C : Cx p s m meth c Z code maxL ret own nm R FE G) {x y : Int32} (hd : decode code pc = .ok (.isub, 1)) (hp : pc + 1 = pc') 
    (hr : Wk p l e R s m args below meth c Q FE h locs cells slots (mkF m pc' Ls (.int (x - y) :: st))) : Wk p l e R s m args below meth c Q FE h locs cells slots (mkF m pc Ls (.int y :: .int x :: st)) := by
  subst hp
  exact Wk.step (fun T t X eT q => XS.isub X.here C.1 rfl (hb C.2.1 hd) rfl q) hr
theorem imul (C : Cx p s m meth c Z code maxL ret own nm R FE G) {x y : Int32} (hd : decode code pc = .ok (.imul, 1)) (hp : pc + 1 = pc') 
    (hr : Wk p l e R s m args below meth c Q FE h locs cells slots (mkF m pc' Ls (.int (x * y) :: st))) : Wk p l e R s m args below meth c Q FE h locs cells slots (mkF m pc Ls (.int y :: .int x :: st)) := by
  subst hp
  exact Wk.step (fun T t X eT q => XS.imul X.here C.1 rfl (hb C.2.1 hd) rfl q) hr
theorem iand (C : Cx p s m meth c Z code maxL ret own nm R FE G) {x y : Int32} (hd : decode code pc = .ok (.iand, 1)) (hp : pc + 1 = pc') 
    (hr : Wk p l e R s m args below meth c Q FE h locs cells slots (mkF m pc' Ls (.int (x &&& y) :: st))) : Wk p l e R s m args below meth c Q FE h locs cells slots (mkF m pc Ls (.int y :: .int x :: st)) := by
  subst hp
  exact Wk.step (fun T t X eT q => XS.iand X.here C.1 rfl (hb C.2.1 hd) rfl q) hr
theorem ladd (C : Cx p s m meth c Z code maxL ret own nm R FE G) {x y : Int64} (hd : decode code pc = .ok (.ladd, 1)) (hp : pc + 1 = pc') 
    (hr : Wk p l e R s m args below meth c Q FE h locs cells slots (mkF m pc' Ls (.long (x + y) :: st))) : Wk p l e R s m args below meth c Q FE h locs cells slots (mkF m pc Ls (.long y :: .long x :: st)) := by
  subst hp
  exact Wk.step (fun T t X eT q => XS.ladd X.here C.1 rfl (hb C.2.1 hd) rfl q) hr
theorem lsub (C : Cx p s m meth c Z code maxL ret own nm R FE G) {x y : Int64} (hd : decode code pc = .ok (.lsub, 1)) (hp : pc + 1 = pc') 
    (hr : Wk p l e R s m args below meth c Q FE h locs cells slots (mkF m pc' Ls (.long (x - y) :: st))) : Wk p l e R s m args below meth c Q FE h locs cells slots (mkF m pc Ls (.long y :: .long x :: st)) := by
  subst hp
  exact Wk.step (fun T t X eT q => XS.lsub X.here C.1 rfl (hb C.2.1 hd) rfl q) hr
theorem lmul (C : Cx p s m meth c Z code maxL ret own nm R FE G) {x y : Int64} (hd : decode code pc = .ok (.lmul, 1)) (hp : pc + 1 = pc') 
    (hr : Wk p l e R s m args below meth c Q FE h locs cells slots (mkF m pc' Ls (.long (x * y) :: st))) : Wk p l e R s m args below meth c Q FE h locs cells slots (mkF m pc Ls (.long y :: .long x :: st)) := by
  subst hp
  exact Wk.step (fun T t X eT q => XS.lmul X.here C.1 rfl (hb C.2.1 hd) rfl q) hr
theorem land (C : Cx p s m meth c Z code maxL ret own nm R FE G) {x y : Int64} (hd : decode code pc = .ok (.land, 1)) (hp : pc + 1 = pc') 
    (hr : Wk p l e R s m args below meth c Q FE h locs cells slots (mkF m pc' Ls (.long (x &&& y) :: st))) : Wk p l e R s m args below meth c Q FE h locs cells slots (mkF m pc Ls (.long y :: .long x :: st)) := by
  subst hp
  exact Wk.step (fun T t X eT q => XS.land X.here C.1 rfl (hb C.2.1 hd) rfl q) hr
theorem idiv (C : Cx p s m meth c Z code maxL ret own nm R FE G) {x y : Int32} (hd : decode code pc = .ok (.idiv, 1)) (hp : pc + 1 = pc') (hy : y ≠ 0)
    (hr : Wk p l e R s m args below meth c Q FE h locs cells slots (mkF m pc' Ls (.int (x / y) :: st))) : Wk p l e R s m args below meth c Q FE h locs cells slots (mkF m pc Ls (.int y :: .int x :: st)) := by
  subst hp
  exact Wk.step (fun T t X eT q => XS.idiv X.here C.1 rfl (hb C.2.1 hd) rfl hy q) hr
theorem ldiv (C : Cx p s m meth c Z code maxL ret own nm R FE G) {x y : Int64} (hd : decode code pc = .ok (.ldiv, 1)) (hp : pc + 1 = pc') (hy : y ≠ 0)
    (hr : Wk p l e R s m args below meth c Q FE h locs cells slots (mkF m pc' Ls (.long (x / y) :: st))) : Wk p l e R s m args below meth c Q FE h locs cells slots (mkF m pc Ls (.long y :: .long x :: st)) := by
  subst hp
  exact Wk.step (fun T t X eT q => XS.ldiv X.here C.1 rfl (hb C.2.1 hd) rfl hy q) hr
theorem irem (C : Cx p s m meth c Z code maxL ret own nm R FE G) {x y : Int32} (hd : decode code pc = .ok (.irem, 1)) (hp : pc + 1 = pc') (hy : y ≠ 0)
    (hr : Wk p l e R s m args below meth c Q FE h locs cells slots (mkF m pc' Ls (.int (x % y) :: st))) : Wk p l e R s m args below meth c Q FE h locs cells slots (mkF m pc Ls (.int y :: .int x :: st)) := by
  subst hp
  exact Wk.step (fun T t X eT q => iremM (g := mkF m pc Ls (.int y :: .int x :: st)) X C.1 rfl (hb C.2.1 hd) rfl hy q) hr
theorem iushr (C : Cx p s m meth c Z code maxL ret own nm R FE G) {x y : Int32} (hd : decode code pc = .ok (.iushr, 1)) (hp : pc + 1 = pc') 
    (hr : Wk p l e R s m args below meth c Q FE h locs cells slots (mkF m pc' Ls (.int ((x.toUInt32 >>> (y &&& 31).toUInt32).toInt32) :: st))) : Wk p l e R s m args below meth c Q FE h locs cells slots (mkF m pc Ls (.int y :: .int x :: st)) := by
  subst hp
  exact Wk.step (fun T t X eT q => XS.iushr X.here C.1 rfl (hb C.2.1 hd) rfl q) hr
theorem ineg (C : Cx p s m meth c Z code maxL ret own nm R FE G) {x : Int32} (hd : decode code pc = .ok (.ineg, 1)) (hp : pc + 1 = pc') 
    (hr : Wk p l e R s m args below meth c Q FE h locs cells slots (mkF m pc' Ls (.int (-x) :: st))) : Wk p l e R s m args below meth c Q FE h locs cells slots (mkF m pc Ls (.int x :: st)) := by
  subst hp
  exact Wk.step (fun T t X eT q => XS.ineg X.here C.1 rfl (hb C.2.1 hd) rfl q) hr
theorem i2l (C : Cx p s m meth c Z code maxL ret own nm R FE G) {x : Int32} (hd : decode code pc = .ok (.i2l, 1)) (hp : pc + 1 = pc') 
    (hr : Wk p l e R s m args below meth c Q FE h locs cells slots (mkF m pc' Ls (.long x.toInt64 :: st))) : Wk p l e R s m args below meth c Q FE h locs cells slots (mkF m pc Ls (.int x :: st)) := by
  subst hp
  exact Wk.step (fun T t X eT q => XS.i2l X.here C.1 rfl (hb C.2.1 hd) rfl q) hr
theorem l2i (C : Cx p s m meth c Z code maxL ret own nm R FE G) {x : Int64} (hd : decode code pc = .ok (.l2i, 1)) (hp : pc + 1 = pc') 
    (hr : Wk p l e R s m args below meth c Q FE h locs cells slots (mkF m pc' Ls (.int x.toInt32 :: st))) : Wk p l e R s m args below meth c Q FE h locs cells slots (mkF m pc Ls (.long x :: st)) := by
  subst hp
  exact Wk.step (fun T t X eT q => XS.l2i X.here C.1 rfl (hb C.2.1 hd) rfl q) hr
theorem lcmp (C : Cx p s m meth c Z code maxL ret own nm R FE G) {x y : Int64} (hd : decode code pc = .ok (.lcmp, 1)) (hp : pc + 1 = pc') 
    (hr : Wk p l e R s m args below meth c Q FE h locs cells slots (mkF m pc' Ls (.int (if y < x then 1 else if x = y then 0 else -1) :: st))) : Wk p l e R s m args below meth c Q FE h locs cells slots (mkF m pc Ls (.long y :: .long x :: st)) := by
  subst hp
  exact Wk.step (fun T t X eT q => XS.lcmp X.here C.1 rfl (hb C.2.1 hd) rfl q) hr
theorem dup (C : Cx p s m meth c Z code maxL ret own nm R FE G) {v : Value} (hd : decode code pc = .ok (.dup, 1)) (hp : pc + 1 = pc') (hv : v.category = 1)
    (hr : Wk p l e R s m args below meth c Q FE h locs cells slots (mkF m pc' Ls (v :: v :: st))) : Wk p l e R s m args below meth c Q FE h locs cells slots (mkF m pc Ls (v :: st)) := by
  subst hp
  exact Wk.step (fun T t X eT q => XS.dup X.here C.1 rfl (hb C.2.1 hd) rfl hv q) hr
theorem pop_ (C : Cx p s m meth c Z code maxL ret own nm R FE G) {v : Value} (hd : decode code pc = .ok (.pop, 1)) (hp : pc + 1 = pc') (hv : v.category = 1)
    (hr : Wk p l e R s m args below meth c Q FE h locs cells slots (mkF m pc' Ls st)) : Wk p l e R s m args below meth c Q FE h locs cells slots (mkF m pc Ls (v :: st)) := by
  subst hp
  exact Wk.step (fun T t X eT q => XS.pop X.here C.1 rfl (hb C.2.1 hd) rfl hv q) hr
theorem iinc (C : Cx p s m meth c Z code maxL ret own nm R FE G) {k : Nat} {d : Int} {v : Int32} {Ls' : Array Slot} (hd : decode code pc = .ok (.iinc k d, 3)) (hp : pc + 3 = pc') (hv : Ls[k]? = some (.val (.int v))) (hl : storeLocals Ls k (.int (v + Int32.ofInt d)) = some Ls')
    (hr : Wk p l e R s m args below meth c Q FE h locs cells slots (mkF m pc' Ls' st)) : Wk p l e R s m args below meth c Q FE h locs cells slots (mkF m pc Ls st) := by
  subst hp
  exact Wk.step (fun T t X eT q => XS.iinc X.here C.1 rfl (hb C.2.1 hd) hv hl q) hr
theorem goto_ (C : Cx p s m meth c Z code maxL ret own nm R FE G) {o : Int} (hd : decode code pc = .ok (.goto o, 3)) (ho : 0 ≤ (pc : Int) + o) (hp : ((pc : Int) + o).toNat = pc')
    (hr : Wk p l e R s m args below meth c Q FE h locs cells slots (mkF m pc' Ls st)) : Wk p l e R s m args below meth c Q FE h locs cells slots (mkF m pc Ls st) :=
  Wk.step (fun T t X eT q => XS.goto X.here C.1 rfl rfl (hb C.2.1 hd) ho hp q) hr
theorem icmp_eq (C : Cx p s m meth c Z code maxL ret own nm R FE G) {x y : Int32} {o : Int} (pcT pcF : Nat) (hd : decode code pc = .ok (.if_icmp .eq o, 3)) (ho : 0 ≤ (pc : Int) + o) (hT : ((pc : Int) + o).toNat = pcT) (hF : pc + 3 = pcF)
    (ht : x = y → Wk p l e R s m args below meth c Q FE h locs cells slots (mkF m pcT Ls st)) (hf : ¬ x = y → Wk p l e R s m args below meth c Q FE h locs cells slots (mkF m pcF Ls st)) : Wk p l e R s m args below meth c Q FE h locs cells slots (mkF m pc Ls (.int y :: .int x :: st)) := by
  by_cases q : x = y
  · have k := (teq q).1
    exact Wk.step (fun T t X eT r => XS.icmpYes X.here C.1 rfl rfl (hb C.2.1 hd) rfl k ho hT r) (ht q)
  · have k := (feq q).1
    exact Wk.step (fun T t X eT r => XS.icmpNo X.here C.1 rfl (hb C.2.1 hd) rfl k (by subst hF; exact r)) (hf q)
theorem if_eq (C : Cx p s m meth c Z code maxL ret own nm R FE G) {x : Int32} {o : Int} (pcT pcF : Nat) (hd : decode code pc = .ok (.ifCond .eq o, 3)) (ho : 0 ≤ (pc : Int) + o) (hT : ((pc : Int) + o).toNat = pcT) (hF : pc + 3 = pcF)
    (ht : x = 0 → Wk p l e R s m args below meth c Q FE h locs cells slots (mkF m pcT Ls st)) (hf : ¬ x = 0 → Wk p l e R s m args below meth c Q FE h locs cells slots (mkF m pcF Ls st)) : Wk p l e R s m args below meth c Q FE h locs cells slots (mkF m pc Ls (.int x :: st)) := by
  by_cases q : x = 0
  · have k := (if0 _ _).trans (teq q).1
    exact Wk.step (fun T t X eT r => XS.ifYes X.here C.1 rfl rfl (hb C.2.1 hd) rfl k ho hT r) (ht q)
  · have k := (if0 _ _).trans (feq q).1
    exact Wk.step (fun T t X eT r => XS.ifNo X.here C.1 rfl (hb C.2.1 hd) rfl k (by subst hF; exact r)) (hf q)
theorem icmp_ne (C : Cx p s m meth c Z code maxL ret own nm R FE G) {x y : Int32} {o : Int} (pcT pcF : Nat) (hd : decode code pc = .ok (.if_icmp .ne o, 3)) (ho : 0 ≤ (pc : Int) + o) (hT : ((pc : Int) + o).toNat = pcT) (hF : pc + 3 = pcF)
    (ht : ¬ x = y → Wk p l e R s m args below meth c Q FE h locs cells slots (mkF m pcT Ls st)) (hf : x = y → Wk p l e R s m args below meth c Q FE h locs cells slots (mkF m pcF Ls st)) : Wk p l e R s m args below meth c Q FE h locs cells slots (mkF m pc Ls (.int y :: .int x :: st)) := by
  by_cases q : x = y
  · have k := (teq q).2
    exact Wk.step (fun T t X eT r => XS.icmpNo X.here C.1 rfl (hb C.2.1 hd) rfl k (by subst hF; exact r)) (hf q)
  · have k := (feq q).2
    exact Wk.step (fun T t X eT r => XS.icmpYes X.here C.1 rfl rfl (hb C.2.1 hd) rfl k ho hT r) (ht q)
theorem if_ne (C : Cx p s m meth c Z code maxL ret own nm R FE G) {x : Int32} {o : Int} (pcT pcF : Nat) (hd : decode code pc = .ok (.ifCond .ne o, 3)) (ho : 0 ≤ (pc : Int) + o) (hT : ((pc : Int) + o).toNat = pcT) (hF : pc + 3 = pcF)
    (ht : ¬ x = 0 → Wk p l e R s m args below meth c Q FE h locs cells slots (mkF m pcT Ls st)) (hf : x = 0 → Wk p l e R s m args below meth c Q FE h locs cells slots (mkF m pcF Ls st)) : Wk p l e R s m args below meth c Q FE h locs cells slots (mkF m pc Ls (.int x :: st)) := by
  by_cases q : x = 0
  · have k := (if0 _ _).trans (teq q).2
    exact Wk.step (fun T t X eT r => XS.ifNo X.here C.1 rfl (hb C.2.1 hd) rfl k (by subst hF; exact r)) (hf q)
  · have k := (if0 _ _).trans (feq q).2
    exact Wk.step (fun T t X eT r => XS.ifYes X.here C.1 rfl rfl (hb C.2.1 hd) rfl k ho hT r) (ht q)
theorem icmp_lt (C : Cx p s m meth c Z code maxL ret own nm R FE G) {x y : Int32} {o : Int} (pcT pcF : Nat) (hd : decode code pc = .ok (.if_icmp .lt o, 3)) (ho : 0 ≤ (pc : Int) + o) (hT : ((pc : Int) + o).toNat = pcT) (hF : pc + 3 = pcF)
    (ht : x < y → Wk p l e R s m args below meth c Q FE h locs cells slots (mkF m pcT Ls st)) (hf : ¬ x < y → Wk p l e R s m args below meth c Q FE h locs cells slots (mkF m pcF Ls st)) : Wk p l e R s m args below meth c Q FE h locs cells slots (mkF m pc Ls (.int y :: .int x :: st)) := by
  by_cases q : x < y
  · have k := (tlt q).1
    exact Wk.step (fun T t X eT r => XS.icmpYes X.here C.1 rfl rfl (hb C.2.1 hd) rfl k ho hT r) (ht q)
  · have k := (flt q).1
    exact Wk.step (fun T t X eT r => XS.icmpNo X.here C.1 rfl (hb C.2.1 hd) rfl k (by subst hF; exact r)) (hf q)
theorem if_lt (C : Cx p s m meth c Z code maxL ret own nm R FE G) {x : Int32} {o : Int} (pcT pcF : Nat) (hd : decode code pc = .ok (.ifCond .lt o, 3)) (ho : 0 ≤ (pc : Int) + o) (hT : ((pc : Int) + o).toNat = pcT) (hF : pc + 3 = pcF)
    (ht : x < 0 → Wk p l e R s m args below meth c Q FE h locs cells slots (mkF m pcT Ls st)) (hf : ¬ x < 0 → Wk p l e R s m args below meth c Q FE h locs cells slots (mkF m pcF Ls st)) : Wk p l e R s m args below meth c Q FE h locs cells slots (mkF m pc Ls (.int x :: st)) := by
  by_cases q : x < 0
  · have k := (if0 _ _).trans (tlt q).1
    exact Wk.step (fun T t X eT r => XS.ifYes X.here C.1 rfl rfl (hb C.2.1 hd) rfl k ho hT r) (ht q)
  · have k := (if0 _ _).trans (flt q).1
    exact Wk.step (fun T t X eT r => XS.ifNo X.here C.1 rfl (hb C.2.1 hd) rfl k (by subst hF; exact r)) (hf q)
theorem icmp_ge (C : Cx p s m meth c Z code maxL ret own nm R FE G) {x y : Int32} {o : Int} (pcT pcF : Nat) (hd : decode code pc = .ok (.if_icmp .ge o, 3)) (ho : 0 ≤ (pc : Int) + o) (hT : ((pc : Int) + o).toNat = pcT) (hF : pc + 3 = pcF)
    (ht : ¬ x < y → Wk p l e R s m args below meth c Q FE h locs cells slots (mkF m pcT Ls st)) (hf : x < y → Wk p l e R s m args below meth c Q FE h locs cells slots (mkF m pcF Ls st)) : Wk p l e R s m args below meth c Q FE h locs cells slots (mkF m pc Ls (.int y :: .int x :: st)) := by
  by_cases q : x < y
  · have k := (tlt q).2.1
    exact Wk.step (fun T t X eT r => XS.icmpNo X.here C.1 rfl (hb C.2.1 hd) rfl k (by subst hF; exact r)) (hf q)
  · have k := (flt q).2.1
    exact Wk.step (fun T t X eT r => XS.icmpYes X.here C.1 rfl rfl (hb C.2.1 hd) rfl k ho hT r) (ht q)
theorem if_ge (C : Cx p s m meth c Z code maxL ret own nm R FE G) {x : Int32} {o : Int} (pcT pcF : Nat) (hd : decode code pc = .ok (.ifCond .ge o, 3)) (ho : 0 ≤ (pc : Int) + o) (hT : ((pc : Int) + o).toNat = pcT) (hF : pc + 3 = pcF)
    (ht : ¬ x < 0 → Wk p l e R s m args below meth c Q FE h locs cells slots (mkF m pcT Ls st)) (hf : x < 0 → Wk p l e R s m args below meth c Q FE h locs cells slots (mkF m pcF Ls st)) : Wk p l e R s m args below meth c Q FE h locs cells slots (mkF m pc Ls (.int x :: st)) := by
  by_cases q : x < 0
  · have k := (if0 _ _).trans (tlt q).2.1
    exact Wk.step (fun T t X eT r => XS.ifNo X.here C.1 rfl (hb C.2.1 hd) rfl k (by subst hF; exact r)) (hf q)
  · have k := (if0 _ _).trans (flt q).2.1
    exact Wk.step (fun T t X eT r => XS.ifYes X.here C.1 rfl rfl (hb C.2.1 hd) rfl k ho hT r) (ht q)
theorem icmp_gt (C : Cx p s m meth c Z code maxL ret own nm R FE G) {x y : Int32} {o : Int} (pcT pcF : Nat) (hd : decode code pc = .ok (.if_icmp .gt o, 3)) (ho : 0 ≤ (pc : Int) + o) (hT : ((pc : Int) + o).toNat = pcT) (hF : pc + 3 = pcF)
    (ht : y < x → Wk p l e R s m args below meth c Q FE h locs cells slots (mkF m pcT Ls st)) (hf : ¬ y < x → Wk p l e R s m args below meth c Q FE h locs cells slots (mkF m pcF Ls st)) : Wk p l e R s m args below meth c Q FE h locs cells slots (mkF m pc Ls (.int y :: .int x :: st)) := by
  by_cases q : y < x
  · have k := (tlt q).2.2.1
    exact Wk.step (fun T t X eT r => XS.icmpYes X.here C.1 rfl rfl (hb C.2.1 hd) rfl k ho hT r) (ht q)
  · have k := (flt q).2.2.1
    exact Wk.step (fun T t X eT r => XS.icmpNo X.here C.1 rfl (hb C.2.1 hd) rfl k (by subst hF; exact r)) (hf q)
theorem if_gt (C : Cx p s m meth c Z code maxL ret own nm R FE G) {x : Int32} {o : Int} (pcT pcF : Nat) (hd : decode code pc = .ok (.ifCond .gt o, 3)) (ho : 0 ≤ (pc : Int) + o) (hT : ((pc : Int) + o).toNat = pcT) (hF : pc + 3 = pcF)
    (ht : 0 < x → Wk p l e R s m args below meth c Q FE h locs cells slots (mkF m pcT Ls st)) (hf : ¬ 0 < x → Wk p l e R s m args below meth c Q FE h locs cells slots (mkF m pcF Ls st)) : Wk p l e R s m args below meth c Q FE h locs cells slots (mkF m pc Ls (.int x :: st)) := by
  by_cases q : 0 < x
  · have k := (if0 _ _).trans (tlt q).2.2.1
    exact Wk.step (fun T t X eT r => XS.ifYes X.here C.1 rfl rfl (hb C.2.1 hd) rfl k ho hT r) (ht q)
  · have k := (if0 _ _).trans (flt q).2.2.1
    exact Wk.step (fun T t X eT r => XS.ifNo X.here C.1 rfl (hb C.2.1 hd) rfl k (by subst hF; exact r)) (hf q)
theorem icmp_le (C : Cx p s m meth c Z code maxL ret own nm R FE G) {x y : Int32} {o : Int} (pcT pcF : Nat) (hd : decode code pc = .ok (.if_icmp .le o, 3)) (ho : 0 ≤ (pc : Int) + o) (hT : ((pc : Int) + o).toNat = pcT) (hF : pc + 3 = pcF)
    (ht : ¬ y < x → Wk p l e R s m args below meth c Q FE h locs cells slots (mkF m pcT Ls st)) (hf : y < x → Wk p l e R s m args below meth c Q FE h locs cells slots (mkF m pcF Ls st)) : Wk p l e R s m args below meth c Q FE h locs cells slots (mkF m pc Ls (.int y :: .int x :: st)) := by
  by_cases q : y < x
  · have k := (tlt q).2.2.2
    exact Wk.step (fun T t X eT r => XS.icmpNo X.here C.1 rfl (hb C.2.1 hd) rfl k (by subst hF; exact r)) (hf q)
  · have k := (flt q).2.2.2
    exact Wk.step (fun T t X eT r => XS.icmpYes X.here C.1 rfl rfl (hb C.2.1 hd) rfl k ho hT r) (ht q)
theorem if_le (C : Cx p s m meth c Z code maxL ret own nm R FE G) {x : Int32} {o : Int} (pcT pcF : Nat) (hd : decode code pc = .ok (.ifCond .le o, 3)) (ho : 0 ≤ (pc : Int) + o) (hT : ((pc : Int) + o).toNat = pcT) (hF : pc + 3 = pcF)
    (ht : ¬ 0 < x → Wk p l e R s m args below meth c Q FE h locs cells slots (mkF m pcT Ls st)) (hf : 0 < x → Wk p l e R s m args below meth c Q FE h locs cells slots (mkF m pcF Ls st)) : Wk p l e R s m args below meth c Q FE h locs cells slots (mkF m pc Ls (.int x :: st)) := by
  by_cases q : 0 < x
  · have k := (if0 _ _).trans (tlt q).2.2.2
    exact Wk.step (fun T t X eT r => XS.ifNo X.here C.1 rfl (hb C.2.1 hd) rfl k (by subst hF; exact r)) (hf q)
  · have k := (if0 _ _).trans (flt q).2.2.2
    exact Wk.step (fun T t X eT r => XS.ifYes X.here C.1 rfl rfl (hb C.2.1 hd) rfl k ho hT r) (ht q)
theorem acmp_eq (C : Cx p s m meth c Z code maxL ret own nm R FE G) {a b : Addr} {o : Int} (pcT pcF : Nat) (hd : decode code pc = .ok (.if_acmp .eq o, 3)) (ho : 0 ≤ (pc : Int) + o) (hT : ((pc : Int) + o).toNat = pcT) (hF : pc + 3 = pcF)
    (ht : a = b → Wk p l e R s m args below meth c Q FE h locs cells slots (mkF m pcT Ls st)) (hf : ¬ a = b → Wk p l e R s m args below meth c Q FE h locs cells slots (mkF m pcF Ls st)) : Wk p l e R s m args below meth c Q FE h locs cells slots (mkF m pc Ls (.ref b :: .ref a :: st)) := by
  by_cases q : a = b
  · exact Wk.step (fun T t X eT r => RoadKit.acmp (g := mkF m pc Ls (.ref b :: .ref a :: st)) X C.1 rfl rfl rfl (same := true) rfl (hb C.2.1 hd) rfl (decide_eq_true (congrArg Value.ref q)) ho (by rw [← hT]; rfl) r) (ht q)
  · exact Wk.step (fun T t X eT r => RoadKit.acmp (g := mkF m pc Ls (.ref b :: .ref a :: st)) X C.1 rfl rfl rfl (same := false) rfl (hb C.2.1 hd) rfl (decide_eq_false fun u => q (Value.ref.inj u)) ho (by rw [← hF]; rfl) r) (hf q)
theorem acmp_ne (C : Cx p s m meth c Z code maxL ret own nm R FE G) {a b : Addr} {o : Int} (pcT pcF : Nat) (hd : decode code pc = .ok (.if_acmp .ne o, 3)) (ho : 0 ≤ (pc : Int) + o) (hT : ((pc : Int) + o).toNat = pcT) (hF : pc + 3 = pcF)
    (ht : ¬ a = b → Wk p l e R s m args below meth c Q FE h locs cells slots (mkF m pcT Ls st)) (hf : a = b → Wk p l e R s m args below meth c Q FE h locs cells slots (mkF m pcF Ls st)) : Wk p l e R s m args below meth c Q FE h locs cells slots (mkF m pc Ls (.ref b :: .ref a :: st)) := by
  by_cases q : a = b
  · exact Wk.step (fun T t X eT r => RoadKit.acmp (g := mkF m pc Ls (.ref b :: .ref a :: st)) X C.1 rfl rfl rfl (same := true) rfl (hb C.2.1 hd) rfl (decide_eq_true (congrArg Value.ref q)) ho (by rw [← hF]; rfl) r) (hf q)
  · exact Wk.step (fun T t X eT r => RoadKit.acmp (g := mkF m pc Ls (.ref b :: .ref a :: st)) X C.1 rfl rfl rfl (same := false) rfl (hb C.2.1 hd) rfl (decide_eq_false fun u => q (Value.ref.inj u)) ho (by rw [← hT]; rfl) r) (ht q)
theorem ifnull_ref (C : Cx p s m meth c Z code maxL ret own nm R FE G) {b : Addr} {o : Int} (hd : decode code pc = .ok (.ifnull o, 3)) (hp : pc + 3 = pc')
    (hr : Wk p l e R s m args below meth c Q FE h locs cells slots (mkF m pc' Ls st)) : Wk p l e R s m args below meth c Q FE h locs cells slots (mkF m pc Ls (.ref b :: st)) :=
  Wk.step (fun T t X eT q => XS.ifnullNo X.here C.1 rfl (hb C.2.1 hd) rfl (by subst hp; exact q)) hr
theorem ifnull_null (C : Cx p s m meth c Z code maxL ret own nm R FE G) {o : Int} (hd : decode code pc = .ok (.ifnull o, 3)) (ho : 0 ≤ (pc : Int) + o) (hp : ((pc : Int) + o).toNat = pc')
    (hr : Wk p l e R s m args below meth c Q FE h locs cells slots (mkF m pc' Ls st)) : Wk p l e R s m args below meth c Q FE h locs cells slots (mkF m pc Ls (.null :: st)) :=
  Wk.step (fun T t X eT q => XS.ifnullYes X.here C.1 rfl rfl (hb C.2.1 hd) rfl ho hp q) hr
theorem ifnonnull_ref (C : Cx p s m meth c Z code maxL ret own nm R FE G) {b : Addr} {o : Int} (hd : decode code pc = .ok (.ifnonnull o, 3)) (ho : 0 ≤ (pc : Int) + o) (hp : ((pc : Int) + o).toNat = pc')
    (hr : Wk p l e R s m args below meth c Q FE h locs cells slots (mkF m pc' Ls st)) : Wk p l e R s m args below meth c Q FE h locs cells slots (mkF m pc Ls (.ref b :: st)) :=
  Wk.step (fun T t X eT q => XS.ifnonnullYes X.here C.1 rfl rfl (hb C.2.1 hd) rfl ho hp q) hr
theorem ifnonnull_null (C : Cx p s m meth c Z code maxL ret own nm R FE G) {o : Int} (hd : decode code pc = .ok (.ifnonnull o, 3)) (hp : pc + 3 = pc')
    (hr : Wk p l e R s m args below meth c Q FE h locs cells slots (mkF m pc' Ls st)) : Wk p l e R s m args below meth c Q FE h locs cells slots (mkF m pc Ls (.null :: st)) :=
  Wk.step (fun T t X eT q => XS.ifnonnullNo X.here C.1 rfl (hb C.2.1 hd) rfl (by subst hp; exact q)) hr
theorem tswIn (C : Cx p s m meth c Z code maxL ret own nm R FE G) {i : Int32} {dflt low high o : Int} {offs : Array Int} {len : Nat} (hd : decode code pc = .ok (.tableswitch dflt low high offs, len)) (hin : ¬ (i.toInt < low ∨ i.toInt > high)) (hoff : offs[(i.toInt - low).toNat]? = some o) (ho : 0 ≤ (pc : Int) + o) (hp : ((pc : Int) + o).toNat = pc')
    (hr : Wk p l e R s m args below meth c Q FE h locs cells slots (mkF m pc' Ls st)) : Wk p l e R s m args below meth c Q FE h locs cells slots (mkF m pc Ls (.int i :: st)) :=
  Wk.step (fun T t X eT q => XS.tswIn X.here C.1 rfl rfl (hb C.2.1 hd) rfl hin hoff ho hp q) hr
theorem tswOut (C : Cx p s m meth c Z code maxL ret own nm R FE G) {i : Int32} {dflt low high : Int} {offs : Array Int} {len : Nat} (hd : decode code pc = .ok (.tableswitch dflt low high offs, len)) (hout : i.toInt < low ∨ i.toInt > high) (ho : 0 ≤ (pc : Int) + dflt) (hp : ((pc : Int) + dflt).toNat = pc')
    (hr : Wk p l e R s m args below meth c Q FE h locs cells slots (mkF m pc' Ls st)) : Wk p l e R s m args below meth c Q FE h locs cells slots (mkF m pc Ls (.int i :: st)) :=
  Wk.step (fun T t X eT q => XS.tswOut X.here C.1 rfl rfl (hb C.2.1 hd) rfl hout ho hp q) hr
theorem ldcInt (C : Cx p s m meth c Z code maxL ret own nm R FE G) {index : Nat} {v : Int32} (w : (Cond.constant own index v).before a0 Z = true) (hd : decode code pc = .ok (.ldc index, 2)) (hp : pc + 2 = pc')
    (hr : Wk p l e R s m args below meth c Q FE h locs cells slots (mkF m pc' Ls (.int v :: st))) : Wk p l e R s m args below meth c Q FE h locs cells slots (mkF m pc Ls st) := by
  subst hp
  exact Wk.step (fun T t X eT q => X.ldcInt C.1 C.2.2.2.2.1 (mvT C.2.2.2.2.2.1 w) (g := mkF m pc Ls st) rfl (hb C.2.1 hd) t q) hr
theorem ldc2Long (C : Cx p s m meth c Z code maxL ret own nm R FE G) {index : Nat} {v : Int64} (w : (Cond.constantLong own index v).before a0 Z = true) (hd : decode code pc = .ok (.ldc2_w index, 3)) (hp : pc + 3 = pc')
    (hr : Wk p l e R s m args below meth c Q FE h locs cells slots (mkF m pc' Ls (.long v :: st))) : Wk p l e R s m args below meth c Q FE h locs cells slots (mkF m pc Ls st) := by
  subst hp
  exact Wk.step (fun T t X eT q => X.ldc2Long C.1 C.2.2.2.2.1 (mvT C.2.2.2.2.2.1 w) (g := mkF m pc Ls st) rfl (hb C.2.1 hd) t q) hr
theorem getS_ (C : Cx p s m meth c Z code maxL ret own nm R FE G) {O n d : String} {index : Nat} {v : Value} (w : (Cond.fieldLink own index O n d).before a0 Z = true) (F : Sta Z h O n d v) (hd : decode code pc = .ok (.getstatic index, 3)) (hp : pc + 3 = pc')
    (hr : Wk p l e R s m args below meth c Q FE h locs cells slots (mkF m pc' Ls (v :: st))) : Wk p l e R s m args below meth c Q FE h locs cells slots (mkF m pc Ls st) := by
  subst hp
  exact Wk.law (fun T X eT => RoadKit.getS (host := "") X C.1 C.2.2.2.2.2.1 C.2.2.2.2.1 w Via.refl eT F (g := mkF m pc Ls st) rfl (hb C.2.1 hd)) hr
theorem getF_ (C : Cx p s m meth c Z code maxL ret own nm R FE G) {R0 O n d : String} {index : Nat} {a : Addr} {v : Value} (w : (Cond.fieldLink own index R0 n d).before a0 Z = true) (via : Via Z R0 O n d) (F : Fld Z h a O n d v) (hd : decode code pc = .ok (.getfield index, 3)) (hp : pc + 3 = pc')
    (hr : Wk p l e R s m args below meth c Q FE h locs cells slots (mkF m pc' Ls (v :: st))) : Wk p l e R s m args below meth c Q FE h locs cells slots (mkF m pc Ls (.ref a :: st)) := by
  subst hp
  exact Wk.law (fun T X eT => RoadKit.getF (host := "") X C.1 C.2.2.2.2.2.1 C.2.2.2.2.1 (Or.inl w) via eT F (g := mkF m pc Ls (.ref a :: st)) rfl rfl (hb C.2.1 hd)) hr
theorem ret_Z (C : Cx p s m meth c Z code maxL ret own nm R FE G) {z : Int32} (hd : decode code pc = .ok (.ireturn, 1)) (hret : ret = some .boolean) (hz : nar .boolean z = z) (hc : cells ≤ R.cells) (hs : slots ≤ R.slots) (hQ : Q (some (.int z)) h locs) (hG : ∀ t : State, t.heap = h → s.WarmedH t.vm → G t := by exact fun _ _ _ => trivial) : Wk p l e R s m args below meth c Q FE h locs cells slots (mkF m pc Ls (.int z :: st)) := fun T X eT => by
  obtain ⟨fs, hr, hrun, hended, hW, hsame⟩ := X.leave (v := some (.int (nar .boolean z))) (fun q => by rw [C.2.2.2.1.trans hret] at q; cases q) C.2.2.2.2.2.2.2.1
  refine ⟨_, _, RoadKit.retN X C.1 (t := .boolean) (C.2.2.2.1.trans hret) (Or.inl rfl) (hb C.2.1 hd) hr, hrun, hended, _, _, rfl, ?_, C.2.2.2.2.2.2.2.2 _ _ _ (hG _ eT hW) ⟨⟨_, rfl⟩, hW, hsame.mono hc hs⟩⟩
  show Q _ T.heap _
  rw [eT, hz]; exact hQ
theorem ret_I (C : Cx p s m meth c Z code maxL ret own nm R FE G) {z : Int32} (hd : decode code pc = .ok (.ireturn, 1)) (hret : ret = some .int) (hc : cells ≤ R.cells) (hs : slots ≤ R.slots) (hQ : Q (some (.int z)) h locs) (hG : ∀ t : State, t.heap = h → s.WarmedH t.vm → G t := by exact fun _ _ _ => trivial) : Wk p l e R s m args below meth c Q FE h locs cells slots (mkF m pc Ls (.int z :: st)) := fun T X eT => by
  obtain ⟨fs, hr, hrun, hended, hW, hsame⟩ := X.leave (v := some (.int z)) (fun q => by rw [C.2.2.2.1.trans hret] at q; cases q) C.2.2.2.2.2.2.2.1
  refine ⟨_, _, RoadKit.retOut X C.1 (t := .int) (i := .ireturn) (C.2.2.2.1.trans hret) rfl (Or.inl ⟨rfl, Or.inl rfl, z, rfl⟩) (hb C.2.1 hd) hr, hrun, hended, _, _, rfl, ?_, C.2.2.2.2.2.2.2.2 _ _ _ (hG _ eT hW) ⟨⟨_, rfl⟩, hW, hsame.mono hc hs⟩⟩
  show Q _ T.heap _
  rw [eT]; exact hQ
theorem ret_J (C : Cx p s m meth c Z code maxL ret own nm R FE G) {z : Int64} (hd : decode code pc = .ok (.lreturn, 1)) (hret : ret = some .long) (hc : cells ≤ R.cells) (hs : slots ≤ R.slots) (hQ : Q (some (.long z)) h locs) (hG : ∀ t : State, t.heap = h → s.WarmedH t.vm → G t := by exact fun _ _ _ => trivial) : Wk p l e R s m args below meth c Q FE h locs cells slots (mkF m pc Ls (.long z :: st)) := fun T X eT => by
  obtain ⟨fs, hr, hrun, hended, hW, hsame⟩ := X.leave (v := some (.long z)) (fun q => by rw [C.2.2.2.1.trans hret] at q; cases q) C.2.2.2.2.2.2.2.1
  refine ⟨_, _, RoadKit.retOut X C.1 (t := .long) (i := .lreturn) (C.2.2.2.1.trans hret) rfl (Or.inr (Or.inl ⟨rfl, rfl, z, rfl⟩)) (hb C.2.1 hd) hr, hrun, hended, _, _, rfl, ?_, C.2.2.2.2.2.2.2.2 _ _ _ (hG _ eT hW) ⟨⟨_, rfl⟩, hW, hsame.mono hc hs⟩⟩
  show Q _ T.heap _
  rw [eT]; exact hQ
theorem ret_A (C : Cx p s m meth c Z code maxL ret own nm R FE G) {w : Value} {t : FieldType} (hd : decode code pc = .ok (.areturn, 1)) (hret : ret = some t) (ht : t.isReference = true) (hw : w.isRef = true) (hn : narrow t w = w) (hc : cells ≤ R.cells) (hs : slots ≤ R.slots) (hQ : Q (some w) h locs) (hG : ∀ t : State, t.heap = h → s.WarmedH t.vm → G t := by exact fun _ _ _ => trivial) : Wk p l e R s m args below meth c Q FE h locs cells slots (mkF m pc Ls (w :: st)) := fun T X eT => by
  obtain ⟨fs, hr, hrun, hended, hW, hsame⟩ := X.leave (v := some w) (fun q => by rw [C.2.2.2.1.trans hret] at q; cases q) C.2.2.2.2.2.2.2.1
  refine ⟨_, _, RoadKit.retOut X C.1 (t := t) (i := .areturn) (C.2.2.2.1.trans hret) hn (Or.inr (Or.inr (Or.inr (Or.inr ⟨rfl, ht, hw⟩)))) (hb C.2.1 hd) hr, hrun, hended, _, _, rfl, ?_, C.2.2.2.2.2.2.2.2 _ _ _ (hG _ eT hW) ⟨⟨_, rfl⟩, hW, hsame.mono hc hs⟩⟩
  show Q _ T.heap _
  rw [eT]; exact hQ
theorem ret_V (C : Cx p s m meth c Z code maxL ret own nm R FE G)  (hd : decode code pc = .ok (.return_, 1)) (hret : ret = none) (hc : cells ≤ R.cells) (hs : slots ≤ R.slots) (hQ : Q none h locs) (hG : ∀ t : State, t.heap = h → s.WarmedH t.vm → G t := by exact fun _ _ _ => trivial) : Wk p l e R s m args below meth c Q FE h locs cells slots (mkF m pc Ls []) := fun T X eT => by
  obtain ⟨fs, hr, hrun, hended, hW, hsame⟩ := X.leave (v := none) (fun _ => rfl) C.2.2.2.2.2.2.2.1
  refine ⟨_, _, X.returnOut C.1 (C.2.2.2.1.trans hret) (hb C.2.1 hd) hr, hrun, hended, _, _, rfl, ?_, C.2.2.2.2.2.2.2.2 _ _ _ (hG _ eT hW) ⟨⟨_, rfl⟩, hW, hsame.mono hc hs⟩⟩
  show Q _ T.heap _
  rw [eT]; exact hQ
theorem callS_ (C : Cx p s m meth c Z code maxL ret own nm R FE G) {y : MethodName} {bytes : ByteArray} {maxL' index : Nat} {ret' : Option FieldType} {rm : Room} {Qc : Option Value → Heap → List Loc → Prop} {ps : List FieldType} {rt : Option FieldType} {W : Nat} (wl : (Cond.methodLink own index y).before a0 Z = true) (ws : (Cond.static y).before a0 Z = true) (wi : (Cond.initialized y.cls).before a0 Z = true) (wc : (Cond.code y bytes maxL' ret').before a0 Z = true) (hy : y.cls ≠ "java/lang/invoke/MethodHandle" ∧ y.cls ≠ "java/lang/invoke/VarHandle")
    (hpd : parseMethodDescriptor y.desc = some ⟨ps, rt⟩) (argsL rest : List Value) (hlen : argsL.length = ps.length) (hsz : Ls.size = maxL) (hW : (rest.map fun v => v.category).sum = W) (hfr : rm.frames + 1 ≤ R.frames) (hlo : W + (maxL' + 11) + rm.locals ≤ R.locals) (hce : cells + rm.cells ≤ R.cells) (hsl : slots + rm.slots ≤ R.slots) (hM : Met0 l Z y [] bytes maxL' ret' rm argsL.toArray h Qc) (hst : st = argsL.reverse ++ rest) (hd : decode code pc = .ok (.invokestatic index, 3)) (hp : pc + 3 = pc')
    (hr : ∀ v h' L, Qc v h' L → Wk p l e R s m args below meth c Q FE h' (locs ++ L) (cells + rm.cells) (slots + rm.slots) (mkF m pc' Ls (v.toList ++ rest))) : Wk p l e R s m args below meth c Q FE h locs cells slots (mkF m pc Ls st) := fun T X eT => by
  subst hp hW hst
  have hZ := C.2.2.2.2.2.1
  obtain ⟨v, vm₁, ⟨T', L', k', n'⟩, -, X', ⟨L, hq, q1, q2, q3⟩, st'⟩ := Jvm.LawKit.callS X C.1 (y := y) C.2.2.2.2.1 (mvT hZ wl) (mvT hZ ws) (mvT hZ wi) (mvT hZ wc) hy (backOf hM hZ wc wi hfr hlo) (g := mkF m pc Ls (argsL.reverse ++ rest)) rfl (by show Ls.size = _; rw [hsz, C.2.2.1]) (argsL := argsL) (rest := rest) (lenOf hpd hlen) rfl (by show 2 * 0 + _ ≤ _; omega) (hb C.2.1 hd) (fun _ _ => ⟨rfl, eT, hce, hsl⟩)
  dsimp only [Pt.U, Pt.locs, Pt.cells, Pt.slots] at X' q1 q2 q3 hq st'
  subst q1 q2 q3
  obtain ⟨s₂, o, st₂, r⟩ := hr v _ L hq T' X' rfl
  exact ⟨s₂, o, st' _ st₂, r⟩
theorem callV_ (C : Cx p s m meth c Z code maxL ret own nm R FE G) {y : MethodName} {bytes : ByteArray} {maxL' index : Nat} {ret' : Option FieldType} {rm : Room} {Qc : Option Value → Heap → List Loc → Prop} {ps : List FieldType} {rt : Option FieldType} {W : Nat} {z : MethodName} {K : String} {b : Addr} (wl : (Cond.methodLink own index y).before a0 Z = true) (wd : (Cond.declares y).before a0 Z = true) (hnf : ∀ U : State, Z.Warmed39 U.vm → NotFace U y) (wse : (Cond.selects K y z).before a0 Z = true) (win : (Cond.instanceMethod z).before a0 Z = true) (wi : (Cond.initialized z.cls).before a0 Z = true) (wc : (Cond.code z bytes maxL' ret').before a0 Z = true) (hy : y.cls ≠ "java/lang/invoke/MethodHandle" ∧ y.cls ≠ "java/lang/invoke/VarHandle") (E : Exa Z h b K)
    (hpd : parseMethodDescriptor y.desc = some ⟨ps, rt⟩) (argsL rest : List Value) (hlen : argsL.length = ps.length) (hsz : Ls.size = maxL) (hW : (rest.map fun v => v.category).sum = W) (hfr : rm.frames + 1 ≤ R.frames) (hlo : W + (maxL' + 11) + rm.locals ≤ R.locals) (hce : cells + rm.cells ≤ R.cells) (hsl : slots + rm.slots ≤ R.slots) (hM : Met0 l Z z [] bytes maxL' ret' rm (.ref b :: argsL).toArray h Qc) (hst : st = argsL.reverse ++ .ref b :: rest) (hd : decode code pc = .ok (.invokevirtual index, 3)) (hp : pc + 3 = pc')
    (hr : ∀ v h' L, Qc v h' L → Wk p l e R s m args below meth c Q FE h' (locs ++ L) (cells + rm.cells) (slots + rm.slots) (mkF m pc' Ls (v.toList ++ rest))) : Wk p l e R s m args below meth c Q FE h locs cells slots (mkF m pc Ls st) := fun T X eT => by
  subst hp hW hst
  have hZ := C.2.2.2.2.2.1
  obtain ⟨cq, kq, qa, qb, qc⟩ := isOf hZ eT E
  obtain ⟨v, vm₁, ⟨T', L', k', n'⟩, -, X', ⟨L, hq, q1, q2, q3⟩, st'⟩ := X.virtualBack C.1 (y := y) (z := z) C.2.2.2.2.1 (mvT hZ wl) (mvT hZ wd) (hnf s hZ) (mvT hZ wse) (mvT hZ win) hy (backOf hM hZ wc wi hfr hlo) qa qc (g := mkF m pc Ls (argsL.reverse ++ .ref b :: rest)) rfl (by show Ls.size = _; rw [hsz, C.2.2.1]) (Steps.refl _) (argsL := argsL) (rest := rest) (lenOf hpd hlen) rfl (by show 2 * 0 + _ ≤ _; omega) (hb C.2.1 hd) (fun _ _ => ⟨rfl, eT, hce, hsl⟩)
  dsimp only [Pt.U, Pt.locs, Pt.cells, Pt.slots] at X' q1 q2 q3 hq st'
  subst q1 q2 q3
  obtain ⟨s₂, o, st₂, r⟩ := hr v _ L hq T' X' rfl
  exact ⟨s₂, o, st'.trans st₂, r⟩
theorem nf_sel {Z : State} {a0 : Array Value} {y : MethodName} {K : String} (w : (Cond.selects K y y).before a0 Z = true) : ∀ U : State, Z.Warmed39 U.vm → NotFace U y := fun U hZ => notFace_of_selects (args := #[]) (mvT hZ w)
theorem callUp_ (C : Cx p s m meth c Z code maxL ret own nm R FE G) {y : MethodName} {bytes : ByteArray} {maxL' index : Nat} {ret' : Option FieldType} {rm : Room} {Qc : Option Value → Heap → List Loc → Prop} {ps : List FieldType} {rt : Option FieldType} {W : Nat} {z : MethodName} {K owner : String} {b : Addr} (wl : (Cond.methodLink own index y).before a0 Z = true) (wsm : (Cond.sameMethod y.cls owner y.name y.desc).before a0 Z = true) (wd : (Cond.declares ⟨owner, y.name, y.desc⟩).before a0 Z = true) (wse : (Cond.selects K y z).before a0 Z = true) (win : (Cond.instanceMethod z).before a0 Z = true) (wi : (Cond.initialized z.cls).before a0 Z = true) (wc : (Cond.code z bytes maxL' ret').before a0 Z = true) (hy : owner ≠ "java/lang/invoke/MethodHandle" ∧ owner ≠ "java/lang/invoke/VarHandle") (E : Exa Z h b K)
    (hpd : parseMethodDescriptor y.desc = some ⟨ps, rt⟩) (argsL rest : List Value) (hlen : argsL.length = ps.length) (hsz : Ls.size = maxL) (hW : (rest.map fun v => v.category).sum = W) (hfr : rm.frames + 1 ≤ R.frames) (hlo : W + (maxL' + 11) + rm.locals ≤ R.locals) (hce : cells + rm.cells ≤ R.cells) (hsl : slots + rm.slots ≤ R.slots) (hM : Met0 l Z z [] bytes maxL' ret' rm (.ref b :: argsL).toArray h Qc) (hst : st = argsL.reverse ++ .ref b :: rest) (hd : decode code pc = .ok (.invokevirtual index, 3)) (hp : pc + 3 = pc')
    (hr : ∀ v h' L, Qc v h' L → Wk p l e R s m args below meth c Q FE h' (locs ++ L) (cells + rm.cells) (slots + rm.slots) (mkF m pc' Ls (v.toList ++ rest))) : Wk p l e R s m args below meth c Q FE h locs cells slots (mkF m pc Ls st) := fun T X eT => by
  subst hp hW hst
  have hZ := C.2.2.2.2.2.1
  obtain ⟨cq, kq, qa, qb, qc⟩ := isOf hZ eT E
  obtain ⟨v, vm₁, ⟨T', L', k', n'⟩, -, X', ⟨L, hq, q1, q2, q3⟩, st'⟩ := X.virtualBackUp C.1 (x := y) (y := z) C.2.2.2.2.1 (mvT hZ wl) (mvT hZ wsm) (mvT hZ wd) hy (mvT hZ wse) (mvT hZ win) (backOf hM hZ wc wi hfr hlo) qa qc (g := mkF m pc Ls (argsL.reverse ++ .ref b :: rest)) rfl (by show Ls.size = _; rw [hsz, C.2.2.1]) (Steps.refl _) (argsL := argsL) (rest := rest) (lenOf hpd hlen) rfl (by show 2 * 0 + _ ≤ _; omega) (hb C.2.1 hd) (fun _ _ => ⟨rfl, eT, hce, hsl⟩)
  dsimp only [Pt.U, Pt.locs, Pt.cells, Pt.slots] at X' q1 q2 q3 hq st'
  subst q1 q2 q3
  obtain ⟨s₂, o, st₂, r⟩ := hr v _ L hq T' X' rfl
  exact ⟨s₂, o, st'.trans st₂, r⟩
theorem instY_ (C : Cx p s m meth c Z code maxL ret own nm R FE G) {K : String} {index : Nat} {a : Addr} (w : (Cond.classLink own index K).before a0 Z = true) (F : Ins Z h a K true) (hd : decode code pc = .ok (.instanceof index, 3)) (hp : pc + 3 = pc')
    (hr : Wk p l e R s m args below meth c Q FE h locs cells slots (mkF m pc' Ls (.int 1 :: st))) : Wk p l e R s m args below meth c Q FE h locs cells slots (mkF m pc Ls (.ref a :: st)) := by
  subst hp
  exact Wk.law (fun T X eT => RoadKit.instY X C.1 C.2.2.2.2.2.1 C.2.2.2.2.1 w eT F (g := mkF m pc Ls (.ref a :: st)) rfl rfl (hb C.2.1 hd)) hr
theorem newO_ (C : Cx p s m meth c Z code maxL ret own nm R FE G) {K : String} {index n : Nat} (w : (Cond.classLink own index K).before a0 Z = true) (wi : (Cond.instantiable K n).before a0 Z = true) (wz : (Cond.initialized K).before a0 Z = true) (hd : decode code pc = .ok (.new index, 3)) (hp : pc + 3 = pc') (hc : cells + 1 ≤ R.cells) (hl : slots + n ≤ R.slots)
    (hr : ∀ h' a, a = h.size → Ext h h' → Exa Z h' a K → (∀ {O nm d : String} {ty : FieldType}, Laid Z a0 K O nm d → parseFieldDescriptor d = some ty → Fld Z h' a O nm d (defaultValue ty)) → Wk p l e R s m args below meth c Q FE h' locs (cells + 1) (slots + n) (mkF m pc' Ls (.ref a :: st))) : Wk p l e R s m args below meth c Q FE h locs cells slots (mkF m pc Ls st) := fun T X eT => by
  subst hp
  obtain ⟨T', h', X', e', E', A', D', -, q⟩ := RoadKit.newO X C.1 C.2.2.2.2.2.1 C.2.2.2.2.1 w wi wz eT (g := mkF m pc Ls st) rfl (hb C.2.1 hd) hc hl
  obtain ⟨s₂, o, st₂, r⟩ := hr h' _ rfl E' A' D' T' X' e'
  exact ⟨s₂, o, q s₂ st₂, r⟩
theorem putF_ (C : Cx p s m meth c Z code maxL ret own nm R FE G) {R0 O n d K : String} {index kk : Nat} {ty : FieldType} {a : Addr} {v old : Value} (w : (Cond.fieldLink own index R0 n d).before a0 Z = true) (via : Via Z R0 O n d) (F : Fld Z h a O n d old) (E : Exa Z h a K) (Lw : (Cond.lays K O n d).before a0 Z = true ∨ ((Cond.laysFinal K O n d).before a0 Z = true ∧ own = O ∧ nm = "<init>")) (wi : (Cond.instantiable K kk).before a0 Z = true)
    (hty : parseFieldDescriptor d = some ty) (hn : narrow ty v = v) (hf : fits ty v = true) (hd : decode code pc = .ok (.putfield index, 3)) (hp : pc + 3 = pc')
    (hr : ∀ h', Wr h h' a (Jvm.RoadKit.slotOf Z O n d) v → Wk p l e R s m args below meth c Q FE h' (locs ++ [⟨a, Jvm.RoadKit.slotOf Z O n d⟩]) cells slots (mkF m pc' Ls st)) : Wk p l e R s m args below meth c Q FE h locs cells slots (mkF m pc Ls (v :: .ref a :: st)) := fun T X eT => by
  subst hp
  obtain ⟨T', h', X', e', W', q⟩ := RoadKit.putF (host := "") X C.1 C.2.2.2.2.2.1 C.2.2.2.2.1 (Or.inl w) via eT F E (Lw.imp id fun z => ⟨z.1, z.2.1, C.2.2.2.2.2.2.1.trans z.2.2⟩) wi hty hn hf (g := mkF m pc Ls (v :: .ref a :: st)) rfl rfl (hb C.2.1 hd)
  obtain ⟨s₂, o, st₂, r⟩ := hr h' W' T' X' e'
  exact ⟨s₂, o, q s₂ st₂, r⟩
theorem initO_ (C : Cx p s m meth c Z code maxL ret own nm R FE G) {index : Nat} {a : Addr} {W : Nat} (w1 : (Cond.methodLink own index Lib.objectInit).before a0 Z = true) (w2 : (Cond.instanceMethod Lib.objectInit).before a0 Z = true) (w3 : (Cond.code Lib.objectInit ⟨#[0xb1]⟩ 1 none).before a0 Z = true) (hsz : Ls.size = maxL) (hd : decode code pc = .ok (.invokespecial index, 3)) (hf : 1 ≤ R.frames) (hW : (st.map fun v => v.category).sum = W) (hl : W + 12 ≤ R.locals) (hp : pc + 3 = pc')
    (hr : Wk p l e R s m args below meth c Q FE h locs cells slots (mkF m pc' Ls st)) : Wk p l e R s m args below meth c Q FE h locs cells slots (mkF m pc Ls (.ref a :: st)) := by
  subst hp hW
  exact Wk.law (fun T X eT => RoadKit.initO X C.1 C.2.2.2.2.2.1 C.2.2.2.2.1 w1 w2 w3 eT (g := mkF m pc Ls (.ref a :: st)) rfl (by show Ls.size = _; rw [hsz, C.2.2.1]) rfl (hb C.2.1 hd) hf (by show 2 * 0 + _ ≤ _; omega) hl) hr
theorem callC_ (C : Cx p s m meth c Z code maxL ret own nm R FE G) {y : MethodName} {bytes : ByteArray} {maxL' index : Nat} {rm : Room} {Qc : Option Value → Heap → List Loc → Prop} {ps : List FieldType} {rt : Option FieldType} {W : Nat} {a : Addr} (hy1 : y.name = "<init>") (wl : (Cond.methodLink own index y).before a0 Z = true) (win : (Cond.instanceMethod y).before a0 Z = true) (wi : (Cond.initialized y.cls).before a0 Z = true) (wc : (Cond.code y bytes maxL' none).before a0 Z = true) (hy : y.cls ≠ "java/lang/invoke/MethodHandle" ∧ y.cls ≠ "java/lang/invoke/VarHandle")
    (hpd : parseMethodDescriptor y.desc = some ⟨ps, rt⟩) (argsL rest : List Value) (hlen : argsL.length = ps.length) (hsz : Ls.size = maxL) (hW : (rest.map fun v => v.category).sum = W) (hfr : rm.frames + 1 ≤ R.frames) (hlo : W + (maxL' + 11) + rm.locals ≤ R.locals) (hce : cells + rm.cells ≤ R.cells) (hsl : slots + rm.slots ≤ R.slots) (hM : Met0 l Z y [] bytes maxL' none rm (.ref a :: argsL).toArray h Qc) (hst : st = argsL.reverse ++ .ref a :: rest) (hd : decode code pc = .ok (.invokespecial index, 3)) (hp : pc + 3 = pc')
    (hr : ∀ v h' L, Qc v h' L → Wk p l e R s m args below meth c Q FE h' (locs ++ L) (cells + rm.cells) (slots + rm.slots) (mkF m pc' Ls (v.toList ++ rest))) : Wk p l e R s m args below meth c Q FE h locs cells slots (mkF m pc Ls st) := fun T X eT => by
  subst hp hW hst
  have hZ := C.2.2.2.2.2.1
  obtain ⟨v, vm₁, ⟨T', L', k', n'⟩, -, X', ⟨L, hq, q1, q2, q3⟩, st'⟩ := X.specialBack C.1 (y := y) hy1 C.2.2.2.2.1 (mvT hZ wl) (mvT hZ win) (mvT hZ wc) hy (backOf hM hZ wc wi hfr hlo) (g := mkF m pc Ls (argsL.reverse ++ .ref a :: rest)) rfl (by show Ls.size = _; rw [hsz, C.2.2.1]) (Steps.refl _) (a := a) (argsL := argsL) (rest := rest) (lenOf hpd hlen) rfl (by show 2 * 0 + _ ≤ _; omega) (hb C.2.1 hd) (fun _ _ => ⟨rfl, eT, hce, hsl⟩)
  dsimp only [Pt.U, Pt.locs, Pt.cells, Pt.slots] at X' q1 q2 q3 hq st'
  subst q1 q2 q3
  obtain ⟨s₂, o, st₂, r⟩ := hr v _ L hq T' X' rfl
  exact ⟨s₂, o, st'.trans st₂, r⟩
theorem callF_ (C : Cx p s m meth c Z code maxL ret own nm R FE G) {y : MethodName} {bytes : ByteArray} {maxL' index : Nat} {ret' : Option FieldType} {rm : Room} {Qc : Option Value → Heap → List Loc → Prop} {ps : List FieldType} {rt : Option FieldType} {W : Nat} {z : MethodName} {K : String} {b : Addr} {count : Nat} (wl : (Cond.methodLink own index y).before a0 Z = true) (wd : (Cond.declares y).before a0 Z = true) (wim : (Cond.interfaceMethod y.cls y.cls y.name y.desc).before a0 Z = true) (hfa : ((Cond.interfaceMethod y.cls y.cls y.name y.desc).onTables && (Cond.interfaceMethod y.cls y.cls y.name y.desc).keepsFace) = true) (wse : (Cond.selects K y z).before a0 Z = true) (win : (Cond.instanceMethod z).before a0 Z = true) (wpu : (Cond.publicMethod z).before a0 Z = true) (wun : (Cond.unhidden K y.name y.desc).before a0 Z = true) (wca : (Cond.castable K y.cls).before a0 Z = true) (wi : (Cond.initialized z.cls).before a0 Z = true) (wc : (Cond.code z bytes maxL' ret').before a0 Z = true) (hy : y.cls ≠ "java/lang/invoke/MethodHandle" ∧ y.cls ≠ "java/lang/invoke/VarHandle") (E : Exa Z h b K)
    (hpd : parseMethodDescriptor y.desc = some ⟨ps, rt⟩) (argsL rest : List Value) (hlen : argsL.length = ps.length) (hsz : Ls.size = maxL) (hW : (rest.map fun v => v.category).sum = W) (hfr : rm.frames + 1 ≤ R.frames) (hlo : W + (maxL' + 11) + rm.locals ≤ R.locals) (hce : cells + rm.cells ≤ R.cells) (hsl : slots + rm.slots ≤ R.slots) (hM : Met0 l Z z [] bytes maxL' ret' rm (.ref b :: argsL).toArray h Qc) (hst : st = argsL.reverse ++ .ref b :: rest) (hd : decode code pc = .ok (.invokeinterface index count, 5)) (hp : pc + 5 = pc')
    (hr : ∀ v h' L, Qc v h' L → Wk p l e R s m args below meth c Q FE h' (locs ++ L) (cells + rm.cells) (slots + rm.slots) (mkF m pc' Ls (v.toList ++ rest))) : Wk p l e R s m args below meth c Q FE h locs cells slots (mkF m pc Ls st) := fun T X eT => by
  subst hp hW hst
  have hZ := C.2.2.2.2.2.1
  obtain ⟨cq, kq, qa, qb, qc⟩ := isOf hZ eT E
  obtain ⟨v, vm₁, ⟨T', L', k', n'⟩, -, X', ⟨L, hq, q1, q2, q3⟩, st'⟩ := X.interfaceBack C.1 (xi := y) (y := z) C.2.2.2.2.1 (mvT hZ wl) (mvT hZ wd) (mvT hZ wim hfa) (mvT hZ wse) (mvT hZ win) (mvT hZ wpu) (mvT hZ wun) (mvT hZ wca) hy (backOf hM hZ wc wi hfr hlo) qa qb qc (g := mkF m pc Ls (argsL.reverse ++ .ref b :: rest)) rfl (by show Ls.size = _; rw [hsz, C.2.2.1]) (Steps.refl _) (argsL := argsL) (rest := rest) (lenOf hpd hlen) rfl (by show 2 * 0 + _ ≤ _; omega) (hb C.2.1 hd) (fun _ _ => ⟨rfl, eT, hce, hsl⟩)
  dsimp only [Pt.U, Pt.locs, Pt.cells, Pt.slots] at X' q1 q2 q3 hq st'
  subst q1 q2 q3
  obtain ⟨s₂, o, st₂, r⟩ := hr v _ L hq T' X' rfl
  exact ⟨s₂, o, st'.trans st₂, r⟩
theorem newP_ (C : Cx p s m meth c Z code maxL ret own nm R FE G) {aty : ArrayType} {ty : FieldType} {n : Int32} {cap : Nat} (hty : newarray.typeOf aty = ty) (w : (Cond.arrayClass ty).before a0 Z = true) (hd : decode code pc = .ok (.newarray aty, 2)) (hp : pc + 2 = pc') (hn : ¬ n < 0) (hcap : n.toNatClampNeg ≤ cap) (hb8 : cap * 8 ≤ 536870912) (hc : cells + 1 ≤ R.cells) (hl : slots + cap ≤ R.slots)
    (hr : ∀ h' cA a, a = h.size → Ext h h' → Arv Z h' a cA ty n [] (defaultValue ty) → Wk p l e R s m args below meth c Q FE h' locs (cells + 1) (slots + cap) (mkF m pc' Ls (.ref a :: st))) : Wk p l e R s m args below meth c Q FE h locs cells slots (mkF m pc Ls (.int n :: st)) := fun T X eT => by
  subst hp hty
  obtain ⟨T', h', cA, X', e', E', A', q⟩ := RoadKit.newP X C.1 C.2.2.2.2.2.1 w eT (g := mkF m pc Ls (.int n :: st)) rfl (hb C.2.1 hd) rfl hn hcap hb8 hc hl
  obtain ⟨s₂, o, st₂, r⟩ := hr h' cA _ rfl E' (Arv.new A' hn) T' X' e'
  exact ⟨s₂, o, q s₂ st₂, r⟩
theorem newR_ (C : Cx p s m meth c Z code maxL ret own nm R FE G) {K : String} {index : Nat} {n : Int32} {cap : Nat} (w1 : (Cond.classLink own index K).before a0 Z = true) (w2 : (Cond.arrayOver (.object K)).before a0 Z = true) (hd : decode code pc = .ok (.anewarray index, 3)) (hp : pc + 3 = pc') (hn : ¬ n < 0) (hcap : n.toNatClampNeg ≤ cap) (hb8 : cap * 8 ≤ 536870912) (hc : cells + 1 ≤ R.cells) (hl : slots + cap ≤ R.slots)
    (hr : ∀ h' cA a, a = h.size → Ext h h' → Arv Z h' a cA (.object K) n [] (defaultValue (.object K)) → Ovr Z cA K → Wk p l e R s m args below meth c Q FE h' locs (cells + 1) (slots + cap) (mkF m pc' Ls (.ref a :: st))) : Wk p l e R s m args below meth c Q FE h locs cells slots (mkF m pc Ls (.int n :: st)) := fun T X eT => by
  subst hp
  obtain ⟨T', h', cA, X', e', E', A', O', q⟩ := RoadKit.newR X C.1 C.2.2.2.2.2.1 C.2.2.2.2.1 w1 w2 eT (g := mkF m pc Ls (.int n :: st)) rfl (hb C.2.1 hd) rfl hn hcap hb8 hc hl
  obtain ⟨s₂, o, st₂, r⟩ := hr h' cA _ rfl E' (Arv.new A' hn) O' T' X' e'
  exact ⟨s₂, o, q s₂ st₂, r⟩
theorem stI_ (C : Cx p s m meth c Z code maxL ret own nm R FE G) {a : Addr} {k : ClassId} {n j x : Int32} {vs : List Value} {dv : Value} (A : Arv Z h a k .int n vs dv) (hj : ¬ j < 0 ∧ j < n) (i : Nat) (hi : j.toNatClampNeg = i) (hlen : i < vs.length) (hd : decode code pc = .ok (.iastore, 1)) (hp : pc + 1 = pc')
    (hr : ∀ h', Wr h h' a j.toNatClampNeg (.int x) → Arv Z h' a k .int n (vs.set i (.int x)) dv → Wk p l e R s m args below meth c Q FE h' (locs ++ [⟨a, j.toNatClampNeg⟩]) cells slots (mkF m pc' Ls st)) : Wk p l e R s m args below meth c Q FE h locs cells slots (mkF m pc Ls (.int x :: .int j :: .ref a :: st)) := fun T X eT => by
  subst hp
  obtain ⟨cl, A1, q1, S1, N1, H1, G1⟩ := A
  obtain ⟨T', h', X', e', W', q⟩ := RoadKit.stI X C.1 C.2.2.2.2.2.1 eT A1 (inb_of S1 hj) (g := mkF m pc Ls (.int x :: .int j :: .ref a :: st)) rfl rfl (hb C.2.1 hd)
  obtain ⟨s₂, o, st₂, r⟩ := hr h' W' (Arv.set A1 q1 S1 N1 H1 G1 rfl W' i hi hlen) T' X' e'
  exact ⟨s₂, o, q s₂ st₂, r⟩
theorem stR_ (C : Cx p s m meth c Z code maxL ret own nm R FE G) {a b : Addr} {k : ClassId} {K : String} {n j : Int32} {vs : List Value} {dv : Value} (A : Arv Z h a k (.object K) n vs dv) (O : Ovr Z k K) (I : Ins Z h b K true) (hj : ¬ j < 0 ∧ j < n) (i : Nat) (hi : j.toNatClampNeg = i) (hlen : i < vs.length) (hd : decode code pc = .ok (.aastore, 1)) (hp : pc + 1 = pc')
    (hr : ∀ h', Wr h h' a j.toNatClampNeg (.ref b) → Arv Z h' a k (.object K) n (vs.set i (.ref b)) dv → Wk p l e R s m args below meth c Q FE h' (locs ++ [⟨a, j.toNatClampNeg⟩]) cells slots (mkF m pc' Ls st)) : Wk p l e R s m args below meth c Q FE h locs cells slots (mkF m pc Ls (.ref b :: .int j :: .ref a :: st)) := fun T X eT => by
  subst hp
  obtain ⟨cl, A1, q1, S1, N1, H1, G1⟩ := A
  obtain ⟨T', h', X', e', W', q⟩ := RoadKit.stR X C.1 C.2.2.2.2.2.1 eT A1 (inb_of S1 hj) rfl (Sto.ofV A1 q1 O I) (g := mkF m pc Ls (.ref b :: .int j :: .ref a :: st)) rfl rfl (hb C.2.1 hd)
  obtain ⟨s₂, o, st₂, r⟩ := hr h' W' (Arv.set A1 q1 S1 N1 H1 G1 rfl W' i hi hlen) T' X' e'
  exact ⟨s₂, o, q s₂ st₂, r⟩
theorem ldI_ (C : Cx p s m meth c Z code maxL ret own nm R FE G) {a : Addr} {cl : Cell} {j : Int32} {v : Value} (A : Arr Z h a cl .int) (hin : ¬ (j < 0 ∨ cl.slots.size ≤ j.toNatClampNeg)) (hv : cl.slots[j.toNatClampNeg]? = some v) (hd : decode code pc = .ok (.iaload, 1)) (hp : pc + 1 = pc')
    (hr : Wk p l e R s m args below meth c Q FE h locs cells slots (mkF m pc' Ls (v :: st))) : Wk p l e R s m args below meth c Q FE h locs cells slots (mkF m pc Ls (.int j :: .ref a :: st)) := by
  subst hp
  exact Wk.step (fun T t X eT q => X.iaload C.1 (j := j) (v := v) (by rw [eT]; exact A.1) (State.isArrayOf_alike C.2.2.2.2.2.1.alike A.2.1) A.2.2 hin hv (g := mkF m pc Ls (.int j :: .ref a :: st)) rfl rfl (hb C.2.1 hd) t q) hr
theorem ldA_ (C : Cx p s m meth c Z code maxL ret own nm R FE G) {a : Addr} {cl : Cell} {ty : FieldType} {j : Int32} {v : Value} (A : Arr Z h a cl ty) (hty : ty.isReference = true) (hin : ¬ (j < 0 ∨ cl.slots.size ≤ j.toNatClampNeg)) (hv : cl.slots[j.toNatClampNeg]? = some v) (hd : decode code pc = .ok (.aaload, 1)) (hp : pc + 1 = pc')
    (hr : Wk p l e R s m args below meth c Q FE h locs cells slots (mkF m pc' Ls (v :: st))) : Wk p l e R s m args below meth c Q FE h locs cells slots (mkF m pc Ls (.int j :: .ref a :: st)) := by
  subst hp
  exact Wk.step (fun T t X eT q => X.aaload C.1 (j := j) (v := v) (by rw [eT]; exact A.1) (State.isArrayOf_alike C.2.2.2.2.2.1.alike A.2.1) hty A.2.2 hin hv (g := mkF m pc Ls (.int j :: .ref a :: st)) rfl rfl (hb C.2.1 hd) t q) hr
theorem Fr.put {k : Nat} {L : List Loc} {a : Addr} {i : Nat} (N : Fr k L) (q : k ≤ a) : Fr k (L ++ [⟨a, i⟩]) := N.app fun y hy => by cases List.mem_singleton.mp hy; exact q
theorem ret_B (C : Cx p s m meth c Z code maxL ret own nm R FE G) {z : Int32} (hd : decode code pc = .ok (.ireturn, 1)) (hret : ret = some .byte) (hz : nar .byte z = z) (hc : cells ≤ R.cells) (hs : slots ≤ R.slots) (hQ : Q (some (.int z)) h locs) (hG : ∀ t : State, t.heap = h → s.WarmedH t.vm → G t := by exact fun _ _ _ => trivial) : Wk p l e R s m args below meth c Q FE h locs cells slots (mkF m pc Ls (.int z :: st)) := fun T X eT => by
  obtain ⟨fs, hr, hrun, hended, hW, hsame⟩ := X.leave (v := some (.int (nar .byte z))) (fun q => by rw [C.2.2.2.1.trans hret] at q; cases q) C.2.2.2.2.2.2.2.1
  refine ⟨_, _, RoadKit.retN X C.1 (t := .byte) (C.2.2.2.1.trans hret) (Or.inr (Or.inl rfl)) (hb C.2.1 hd) hr, hrun, hended, _, _, rfl, ?_, C.2.2.2.2.2.2.2.2 _ _ _ (hG _ eT hW) ⟨⟨_, rfl⟩, hW, hsame.mono hc hs⟩⟩
  show Q _ T.heap _
  rw [eT, hz]; exact hQ
theorem nf_zs {Z : State} {a0 : Array Value} {y zs : MethodName} {K : String} (w : (Cond.selects K zs zs).before a0 Z = true) (hz : y.cls = zs.cls) : ∀ U : State, Z.Warmed39 U.vm → NotFace U y := fun U hZ r0 h0 => by
  obtain ⟨c2, r2, m2, -, -, q3, -, kP, hkP, hkPi⟩ := Cond.selects_spec (mvT (args := #[]) hZ w : (Cond.selects K zs zs).before #[] U = true)
  have e1 := findClass_of_methodNamed h0
  have e2 := findClass_of_methodNamed q3
  rw [hz] at e1
  have e3 : r0.cls = m2.cls := Option.some.inj (e1.symm.trans e2)
  rw [e3]
  exact ⟨kP, hkP, hkPi⟩
theorem ishl (C : Cx p s m meth c Z code maxL ret own nm R FE G) {x y : Int32} (hd : decode code pc = .ok (.ishl, 1)) (hp : pc + 1 = pc') 
    (hr : Wk p l e R s m args below meth c Q FE h locs cells slots (mkF m pc' Ls (.int (x <<< (y &&& 31)) :: st))) : Wk p l e R s m args below meth c Q FE h locs cells slots (mkF m pc Ls (.int y :: .int x :: st)) := by
  subst hp
  exact Wk.step (fun T t X eT q => XS.ishl X.here C.1 rfl (hb C.2.1 hd) rfl q) hr
theorem ishr (C : Cx p s m meth c Z code maxL ret own nm R FE G) {x y : Int32} (hd : decode code pc = .ok (.ishr, 1)) (hp : pc + 1 = pc') 
    (hr : Wk p l e R s m args below meth c Q FE h locs cells slots (mkF m pc' Ls (.int (x >>> (y &&& 31)) :: st))) : Wk p l e R s m args below meth c Q FE h locs cells slots (mkF m pc Ls (.int y :: .int x :: st)) := by
  subst hp
  exact Wk.step (fun T t X eT q => XS.ishr X.here C.1 rfl (hb C.2.1 hd) rfl q) hr
theorem alen_ (C : Cx p s m meth c Z code maxL ret own nm R FE G) {a : Addr} {k : ClassId} {ty : FieldType} {n : Int32} {vs : List Value} {dv : Value} (A : Arv Z h a k ty n vs dv) (hd : decode code pc = .ok (.arraylength, 1)) (hp : pc + 1 = pc')
    (hr : Wk p l e R s m args below meth c Q FE h locs cells slots (mkF m pc' Ls (.int n :: st))) : Wk p l e R s m args below meth c Q FE h locs cells slots (mkF m pc Ls (.ref a :: st)) := by
  subst hp
  obtain ⟨cl, A1, -, S1, N1, -⟩ := A
  exact Wk.step (fun T t X eT q => X.arraylength C.1 (by rw [eT]; exact A1.1) (State.isArrayOf_alike C.2.2.2.2.2.1.alike A1.2.1) (g := mkF m pc Ls (.ref a :: st)) rfl rfl (hb C.2.1 hd) t (by rw [len_of S1 N1]; exact q)) hr
theorem ldB_ (C : Cx p s m meth c Z code maxL ret own nm R FE G) {a : Addr} {k : ClassId} {n j : Int32} {vs : List Value} {dv v : Value} (A : Arv Z h a k .byte n vs dv) (hj : ¬ j < 0 ∧ j < n) (hv : vs.getD j.toNatClampNeg dv = v) (hd : decode code pc = .ok (.baload, 1)) (hp : pc + 1 = pc')
    (hr : Wk p l e R s m args below meth c Q FE h locs cells slots (mkF m pc' Ls (v :: st))) : Wk p l e R s m args below meth c Q FE h locs cells slots (mkF m pc Ls (.int j :: .ref a :: st)) := by
  subst hp
  obtain ⟨cl, A1, -, S1, N1, H1, -⟩ := A
  have hin := inb_of S1 hj
  exact Wk.step (fun T t X eT q => X.baloadBytes C.1 (j := j) (v := v) (by rw [eT]; exact A1.1) (State.isArrayOf_alike C.2.2.2.2.2.1.alike A1.2.1) A1.2.2 hin (Has.at H1 hin hv) (g := mkF m pc Ls (.int j :: .ref a :: st)) rfl rfl (hb C.2.1 hd) t q) hr
theorem stB_ (C : Cx p s m meth c Z code maxL ret own nm R FE G) {a : Addr} {k : ClassId} {n j x : Int32} {vs : List Value} {dv : Value} (A : Arv Z h a k .byte n vs dv) (hj : ¬ j < 0 ∧ j < n) (i : Nat) (hi : j.toNatClampNeg = i) (hlen : i < vs.length) (hx : nar .byte x = x) (hd : decode code pc = .ok (.bastore, 1)) (hp : pc + 1 = pc')
    (hr : ∀ h', Wr h h' a j.toNatClampNeg (.int x) → Arv Z h' a k .byte n (vs.set i (.int x)) dv → Wk p l e R s m args below meth c Q FE h' (locs ++ [⟨a, j.toNatClampNeg⟩]) cells slots (mkF m pc' Ls st)) : Wk p l e R s m args below meth c Q FE h locs cells slots (mkF m pc Ls (.int x :: .int j :: .ref a :: st)) := fun T X eT => by
  subst hp
  obtain ⟨cl, A1, q1, S1, N1, H1, G1⟩ := A
  obtain ⟨T', h', X', e', W', q⟩ := RoadKit.stB X C.1 C.2.2.2.2.2.1 eT A1 (inb_of S1 hj) (g := mkF m pc Ls (.int x :: .int j :: .ref a :: st)) rfl rfl (hb C.2.1 hd)
  rw [hx] at W'
  have fx : fits .byte (.int x) = true := by rw [← hx]; exact fits_nar_byte _
  obtain ⟨s₂, o, st₂, r⟩ := hr h' W' (Arv.set A1 q1 S1 N1 H1 G1 fx W' i hi hlen) T' X' e'
  exact ⟨s₂, o, q s₂ st₂, r⟩
theorem putFN_ (C : Cx p s m meth c Z code maxL ret own nm R FE G) {R0 O n d K : String} {index kk : Nat} {ty : FieldType} {a : Addr} {v v' old : Value} (w : (Cond.fieldLink own index R0 n d).before a0 Z = true) (via : Via Z R0 O n d) (F : Fld Z h a O n d old) (E : Exa Z h a K) (Lw : (Cond.lays K O n d).before a0 Z = true ∨ ((Cond.laysFinal K O n d).before a0 Z = true ∧ own = O ∧ nm = "<init>")) (wi : (Cond.instantiable K kk).before a0 Z = true)
    (hty : parseFieldDescriptor d = some ty) (hn : narrow ty v = v') (hf : fits ty v' = true) (hd : decode code pc = .ok (.putfield index, 3)) (hp : pc + 3 = pc')
    (hr : ∀ h', Wr h h' a (Jvm.RoadKit.slotOf Z O n d) v' → Wk p l e R s m args below meth c Q FE h' (locs ++ [⟨a, Jvm.RoadKit.slotOf Z O n d⟩]) cells slots (mkF m pc' Ls st)) : Wk p l e R s m args below meth c Q FE h locs cells slots (mkF m pc Ls (v :: .ref a :: st)) := fun T X eT => by
  subst hp
  obtain ⟨T', h', X', e', W', q⟩ := RoadKit.putFN X C.1 C.2.2.2.2.2.1 C.2.2.2.2.1 w via eT F E (Lw.imp id fun z => ⟨z.1, z.2.1, C.2.2.2.2.2.2.1.trans z.2.2⟩) wi hty hn hf (g := mkF m pc Ls (v :: .ref a :: st)) rfl rfl (hb C.2.1 hd)
  obtain ⟨s₂, o, st₂, r⟩ := hr h' W' T' X' e'
  exact ⟨s₂, o, q s₂ st₂, r⟩
theorem castY_ (C : Cx p s m meth c Z code maxL ret own nm R FE G) {K : String} {index : Nat} {a : Addr} (w : (Cond.classLink own index K).before a0 Z = true) (F : Ins Z h a K true) (hd : decode code pc = .ok (.checkcast index, 3)) (hp : pc + 3 = pc')
    (hr : Wk p l e R s m args below meth c Q FE h locs cells slots (mkF m pc' Ls (.ref a :: st))) : Wk p l e R s m args below meth c Q FE h locs cells slots (mkF m pc Ls (.ref a :: st)) := by
  subst hp
  exact Wk.law (fun T X eT => RoadKit.castY X C.1 C.2.2.2.2.2.1 C.2.2.2.2.1 w eT F (g := mkF m pc Ls (.ref a :: st)) rfl rfl (hb C.2.1 hd)) hr
theorem cpA_ (C : Cx p s m meth c Z code maxL ret own nm R FE G) {index : Nat} {a b : Addr} {k k' : ClassId} {z z' sp dp nn : Int32} {vs vd us : List Value} {dv dd : Value} {W n0 : Nat} (w1 : (Cond.methodLink own index Jvm.Stand.acN).before a0 Z = true) (w2 : (Cond.native Jvm.Stand.acN).before a0 Z = true) (w3 : (Cond.static Jvm.Stand.acN).before a0 Z = true) (w4 : (Cond.initialized "java/lang/System").before a0 Z = true)
    (A : Arv Z h a k .byte z vs dv) (B : Arv Z h b k' .byte z' vd dd) (h1 : ¬ sp < 0) (h2 : ¬ dp < 0) (h3 : ¬ nn < 0) (h4 : sp.toNatClampNeg + nn.toNatClampNeg ≤ z.toNatClampNeg) (h5 : dp.toNatClampNeg + nn.toNatClampNeg ≤ z'.toNatClampNeg) (hus : us = (List.range nn.toNatClampNeg).map fun i => vs.getD (sp.toNatClampNeg + i) dv) (hl : dp.toNatClampNeg + nn.toNatClampNeg ≤ vd.length)
    (N : Fr n0 locs) (ge : n0 ≤ b) (hsz : Ls.size = maxL) (hW : (st.map fun v => v.category).sum = W) (hf : 1 ≤ R.frames) (hlo : W + 18 ≤ R.locals) (hd : decode code pc = .ok (.invokestatic index, 3)) (hp : pc + 3 = pc')
    (hr : ∀ h' L, Fr n0 L → Keep h h' [b] → Arv Z h' b k' .byte z' (vd.take dp.toNatClampNeg ++ us ++ vd.drop (dp.toNatClampNeg + nn.toNatClampNeg)) dd → Wk p l e R s m args below meth c Q FE h' L cells slots (mkF m pc' Ls st)) : Wk p l e R s m args below meth c Q FE h locs cells slots (mkF m pc Ls (.int nn :: .int dp :: .ref b :: .int sp :: .ref a :: st)) := fun T X eT => by
  subst hp hW
  obtain ⟨T', h', L, X', e', N', K', B', q⟩ := RoadKit.cpA X C.1 C.2.2.2.2.2.1 C.2.2.2.2.1 w1 w2 w3 w4 eT A B (Or.inl ⟨rfl, rfl⟩) h1 h2 h3 h4 h5 hus hl N ge (g := mkF m pc Ls (.int nn :: .int dp :: .ref b :: .int sp :: .ref a :: st)) rfl (by show Ls.size = _; rw [hsz, C.2.2.1]) rfl (hb C.2.1 hd) hf (by show 2 * 0 + _ ≤ _; omega) hlo
  obtain ⟨s₂, o, st₂, r⟩ := hr h' L N' K' B' T' X' e'
  exact ⟨s₂, o, q s₂ st₂, r⟩
theorem nif_sel {s : State} {a0 : Array Value} {K : String} {x y : MethodName} (w : (Cond.selects K x y).before a0 s = true) : ∃ (m : MethodId) (k : Class), s.methodNamed? y = some m ∧ s.vm.classes[m.cls]? = some k ∧ k.isInterface = false := by
  obtain ⟨c2, r2, m2, -, -, q3, -, kP, hkP, hkPi⟩ := Cond.selects_spec w
  exact ⟨m2, kP, q3, hkP, hkPi⟩
theorem selfSel {s : State} {a0 args : Array Value} {K : String} {x y z : MethodName} (w : (Cond.selects K x y).before a0 s = true) (hz : z.cls = y.cls) (hpriv : s.PrivateAt z) (hinst : (Cond.instanceMethod z).before args s = true) (hy : z.cls ≠ "java/lang/invoke/MethodHandle" ∧ z.cls ≠ "java/lang/invoke/VarHandle") : (Cond.selects z.cls z z).before args s = true := by
  obtain ⟨m, k, h1, h2, h3⟩ := nif_sel w
  exact selects_self_of_private (by rw [hz]; exact findClass_of_methodNamed h1) h2 h3 hpriv hinst hy
theorem sameSelf {s : State} {a0 a1 args : Array Value} {K : String} {x y z : MethodName} (w : (Cond.selects K x y).before a0 s = true) (hz : z.cls = y.cls) (wi : (Cond.instanceMethod z).before a1 s = true) (hy : z.cls ≠ "java/lang/invoke/MethodHandle" ∧ z.cls ≠ "java/lang/invoke/VarHandle") : (Cond.sameMethod z.cls z.cls z.name z.desc).before args s = true := by
  obtain ⟨m, k, h1, h2, h3⟩ := nif_sel w
  obtain ⟨mk, methM, hnamed, -⟩ := Cond.instanceMethod_spec wi
  have hc : s.vm.findClass z.cls = some m.cls := by rw [hz]; exact findClass_of_methodNamed h1
  have hfound : s.methodFound? z.cls z.name z.desc = some mk := State.methodFound?_of_named hnamed hy
  have hn : s.methodNamed? ⟨z.cls, z.name, z.desc⟩ = some mk := hnamed
  simp [Cond.before, Cond.holds, Cond.value, hc, hfound, hn, h2, h3]
theorem callP_ (C : Cx p s m meth c Z code maxL ret own nm R FE G) {y : MethodName} {bytes : ByteArray} {maxL' index : Nat} {ret' : Option FieldType} {rm : Room} {Qc : Option Value → Heap → List Loc → Prop} {ps : List FieldType} {rt : Option FieldType} {W : Nat} {K : String} {b : Addr} {zs : MethodName} (wl : (Cond.methodLink own index y).before a0 Z = true) (win : (Cond.instanceMethod y).before a0 Z = true) (wp : (Cond.privateMethod y).before a0 Z = true) (wse : (Cond.selects K zs zs).before a0 Z = true) (hzs : y.cls = zs.cls) (wi : (Cond.initialized y.cls).before a0 Z = true) (wc : (Cond.code y bytes maxL' ret').before a0 Z = true) (hy : y.cls ≠ "java/lang/invoke/MethodHandle" ∧ y.cls ≠ "java/lang/invoke/VarHandle") (E : Exa Z h b K)
    (hpd : parseMethodDescriptor y.desc = some ⟨ps, rt⟩) (argsL rest : List Value) (hlen : argsL.length = ps.length) (hsz : Ls.size = maxL) (hW : (rest.map fun v => v.category).sum = W) (hfr : rm.frames + 1 ≤ R.frames) (hlo : W + (maxL' + 11) + rm.locals ≤ R.locals) (hce : cells + rm.cells ≤ R.cells) (hsl : slots + rm.slots ≤ R.slots) (hM : Met0 l Z y [] bytes maxL' ret' rm (.ref b :: argsL).toArray h Qc) (hst : st = argsL.reverse ++ .ref b :: rest) (hd : decode code pc = .ok (.invokevirtual index, 3)) (hp : pc + 3 = pc')
    (hr : ∀ v h' L, Qc v h' L → Wk p l e R s m args below meth c Q FE h' (locs ++ L) (cells + rm.cells) (slots + rm.slots) (mkF m pc' Ls (v.toList ++ rest))) : Wk p l e R s m args below meth c Q FE h locs cells slots (mkF m pc Ls st) := fun T X eT => by
  subst hp hW hst
  have hZ := C.2.2.2.2.2.1
  obtain ⟨cell, qa, qb⟩ := E.cell
  have hpriv : s.PrivateAt y := Cond.privateMethod_at (mvP hZ wp (args := #[]))
  obtain ⟨v, vm₁, ⟨T', L', k', n'⟩, -, X', ⟨L, hq, q1, q2, q3⟩, st'⟩ := X.privateBack C.1 (y := y) C.2.2.2.2.1 (mvT hZ wl) (mvT hZ win) (selfSel (args := args) (mvT (args := #[]) hZ wse) hzs hpriv (mvT hZ win) hy) hpriv (mvT hZ wc) hy (backOf hM hZ wc wi hfr hlo) (g := mkF m pc Ls (argsL.reverse ++ .ref b :: rest)) rfl (by show Ls.size = _; rw [hsz, C.2.2.1]) (Steps.refl _) (a := b) (by rw [eT]; exact qa) qb (argsL := argsL) (rest := rest) (lenOf hpd hlen) rfl (by show 2 * 0 + _ ≤ _; omega) (hb C.2.1 hd) (fun _ _ => ⟨rfl, eT, hce, hsl⟩)
  dsimp only [Pt.U, Pt.locs, Pt.cells, Pt.slots] at X' q1 q2 q3 hq st'
  subst q1 q2 q3
  obtain ⟨s₂, o, st₂, r⟩ := hr v _ L hq T' X' rfl
  exact ⟨s₂, o, st'.trans st₂, r⟩
theorem callSup_ (C : Cx p s m meth c Z code maxL ret own nm R FE G) {y : MethodName} {bytes : ByteArray} {maxL' index : Nat} {ret' : Option FieldType} {rm : Room} {Qc : Option Value → Heap → List Loc → Prop} {ps : List FieldType} {rt : Option FieldType} {W : Nat} {K : String} {b : Addr} {zs : MethodName} (wl : (Cond.methodLink own index y).before a0 Z = true) (win : (Cond.instanceMethod y).before a0 Z = true) (wsu : (Cond.superclass own y.cls).before a0 Z = true) (wse : (Cond.selects K zs zs).before a0 Z = true) (hzs : y.cls = zs.cls) (hni : y.name ≠ "<init>") (wi : (Cond.initialized y.cls).before a0 Z = true) (wc : (Cond.code y bytes maxL' ret').before a0 Z = true) (hy : y.cls ≠ "java/lang/invoke/MethodHandle" ∧ y.cls ≠ "java/lang/invoke/VarHandle") (E : Exa Z h b K)
    (hpd : parseMethodDescriptor y.desc = some ⟨ps, rt⟩) (argsL rest : List Value) (hlen : argsL.length = ps.length) (hsz : Ls.size = maxL) (hW : (rest.map fun v => v.category).sum = W) (hfr : rm.frames + 1 ≤ R.frames) (hlo : W + (maxL' + 11) + rm.locals ≤ R.locals) (hce : cells + rm.cells ≤ R.cells) (hsl : slots + rm.slots ≤ R.slots) (hM : Met0 l Z y [] bytes maxL' ret' rm (.ref b :: argsL).toArray h Qc) (hst : st = argsL.reverse ++ .ref b :: rest) (hd : decode code pc = .ok (.invokespecial index, 3)) (hp : pc + 3 = pc')
    (hr : ∀ v h' L, Qc v h' L → Wk p l e R s m args below meth c Q FE h' (locs ++ L) (cells + rm.cells) (slots + rm.slots) (mkF m pc' Ls (v.toList ++ rest))) : Wk p l e R s m args below meth c Q FE h locs cells slots (mkF m pc Ls st) := fun T X eT => by
  subst hp hW hst
  have hZ := C.2.2.2.2.2.1
  obtain ⟨v, vm₁, ⟨T', L', k', n'⟩, -, X', ⟨L, hq, q1, q2, q3⟩, st'⟩ := RoadKit.superBack X C.1 hZ (y := y) C.2.2.2.2.1 wl (sameSelf (args := a0) wse hzs win hy) win wsu hni (backOf hM hZ wc wi hfr hlo) eT (Ins.self E) (g := mkF m pc Ls (argsL.reverse ++ .ref b :: rest)) rfl (by show Ls.size = _; rw [hsz, C.2.2.1]) wc (argsL := argsL) (rest := rest) (lenOf hpd hlen) rfl (by show 2 * 0 + _ ≤ _; omega) (hb C.2.1 hd) (fun _ _ => ⟨rfl, eT, hce, hsl⟩)
  dsimp only [Pt.U, Pt.locs, Pt.cells, Pt.slots] at X' q1 q2 q3 hq st'
  subst q1 q2 q3
  obtain ⟨s₂, o, st₂, r⟩ := hr v _ L hq T' X' rfl
  exact ⟨s₂, o, st'.trans st₂, r⟩
theorem ldcH_ {vm0 : Vm} {k0 : Nat} {EL : List (String × Nat)} (C : Cx p (s.setVm vm0) m meth c Z code maxL ret own nm R (FEh s R Z EL) (Gh s Z EL k0)) (hS : s.Since vm0 k0) (hk : k0 ≤ h.size) (hEL : EW Z a0 EL) {text : String} {index n : Nat} (hmem : (own, index) ∈ EL) (H : CHv Z EL vm0 h) {vs : List Value} {z : Int32} (ht : (∀ c ∈ text.toList, c.toNat < 256) ∧ text.toList.map (fun c => Value.int (Jvm.Lit.byteI c.toNat.toUInt16)) = vs) (hz : ¬ z < 0) (hl : z.toNatClampNeg = vs.length)
    (w : (Cond.stringLink own index text).before a0 Z = true) (wS : ∀ a ∈ Bundle.stringAtoms, a.before a0 Z = true) (hd : decode code pc = .ok (.ldc index, 2)) (hp : pc + 2 = pc') (hn : 4 * text.toList.length ≤ n) (hbig : n ≤ 536870912) (hc : cells + 2 ≤ R.cells) (hl' : slots + (n + 4) ≤ R.slots)
    (hr : ∀ vm1 k1 a b k h', Cx p (s.setVm vm1) m meth c Z code maxL ret own nm R (FEh s R Z EL) (Gh s Z EL k1) → s.Since vm1 k1 → k1 ≤ h'.size → Ext h h' → CHr Z EL vm0 h vm1 h' → Exa Z h' a "java/lang/String" → Fld Z h' a "java/lang/String" "coder" "B" (.int 0) → Fld Z h' a "java/lang/String" "value" "[B" (.ref b) → Arv Z h' b k .byte z vs (.int 0) → (∀ x, Safe Z EL vm1 h' x → x ≠ a ∧ x ≠ b) → Wk p l e R (s.setVm vm1) m args below meth c Q (FEh s R Z EL) h' locs (cells + 2) (slots + (n + 4)) (mkF m pc' Ls (.ref a :: st))) : Wk p l e R (s.setVm vm0) m args below meth c Q (FEh s R Z EL) h locs cells slots (mkF m pc Ls st) := fun T X eT => by
  subst hp
  obtain ⟨a, T', h', k1, b, k, X', e', E', hS', hk', hZ', ho', q1, q2, q3, q4, -, -, hR, -, hsf, q⟩ := RoadKit.ldcCH X C.1 C.2.2.2.2.2.1 C.2.2.2.2.1 w wS eT hS hk hEL hmem H ht hz hl (g := mkF m pc Ls st) rfl (hb C.2.1 hd) hn hbig hc hl'
  obtain ⟨s₂, o, st₂, r⟩ := hr T'.vm k1 a b k h' ⟨C.1, C.2.1, C.2.2.1, C.2.2.2.1, ho', hZ', C.2.2.2.2.2.2.1, C.2.2.2.2.2.2.2.1, fe_sinceH hS'⟩ hS' hk' E' hR q1 q2 q3 q4 hsf T' X' e'
  exact ⟨s₂, o, q s₂ st₂, r⟩
theorem callVH_ {vm0 : Vm} {k0 : Nat} {EL : List (String × Nat)} (C : Cx p (s.setVm vm0) m meth c Z code maxL ret own nm R (FEh s R Z EL) (Gh s Z EL k0)) (hS : s.Since vm0 k0) (hk : k0 ≤ h.size) (hEL : EW Z a0 EL) (H : CHv Z EL vm0 h) {y : MethodName} {bytes : ByteArray} {maxL' index : Nat} {ret' : Option FieldType} {rm : Room} {Qc : Option Value → Heap → List Loc → Prop} {ps : List FieldType} {rt : Option FieldType} {W : Nat} {z : MethodName} {K : String} {b : Addr} (wl : (Cond.methodLink own index y).before a0 Z = true) (wd : (Cond.declares y).before a0 Z = true) (hnf : ∀ U : State, Z.Warmed39 U.vm → NotFace U y) (wse : (Cond.selects K y z).before a0 Z = true) (win : (Cond.instanceMethod z).before a0 Z = true) (wi : (Cond.initialized z.cls).before a0 Z = true) (wc : (Cond.code z bytes maxL' ret').before a0 Z = true) (hy : y.cls ≠ "java/lang/invoke/MethodHandle" ∧ y.cls ≠ "java/lang/invoke/VarHandle") (E : Exa Z h b K)
    (hpd : parseMethodDescriptor y.desc = some ⟨ps, rt⟩) (argsL rest : List Value) (hlen : argsL.length = ps.length) (hsz : Ls.size = maxL) (hW : (rest.map fun v => v.category).sum = W) (hfr : rm.frames + 1 ≤ R.frames) (hlo : W + (maxL' + 11) + rm.locals ≤ R.locals) (hce : cells + rm.cells ≤ R.cells) (hsl : slots + rm.slots ≤ R.slots) (hM : MetH l Z EL z [] bytes maxL' ret' rm (.ref b :: argsL).toArray h Qc) (hst : st = argsL.reverse ++ .ref b :: rest) (hd : decode code pc = .ok (.invokevirtual index, 3)) (hp : pc + 3 = pc')
    (hr : ∀ vm1 k1 v h' L, Qc v h' L → Cx p (s.setVm vm1) m meth c Z code maxL ret own nm R (FEh s R Z EL) (Gh s Z EL k1) → s.Since vm1 k1 → k1 ≤ h'.size → h.size ≤ h'.size → CHr Z EL vm0 h vm1 h' → Wk p l e R (s.setVm vm1) m args below meth c Q (FEh s R Z EL) h' (locs ++ L) (cells + rm.cells) (slots + rm.slots) (mkF m pc' Ls (v.toList ++ rest))) : Wk p l e R (s.setVm vm0) m args below meth c Q (FEh s R Z EL) h locs cells slots (mkF m pc Ls st) := fun T X eT => by
  subst hp hW hst
  have hZ : Z.Warmed39 (s.setVm vm0).vm := C.2.2.2.2.2.1
  obtain ⟨cq, kq, qa, qb, qc⟩ := isOf (s := s.setVm vm0) hZ eT E
  obtain ⟨v, vm₁, ⟨T', L', k', n'⟩, -, X', hS', hgr, ⟨L, hq, q1, q2, q3, hR⟩, st'⟩ := X.virtualBackS C.1 (y := y) (z := z) C.2.2.2.2.1 (mvT hZ wl) (mvT hZ wd) (hnf _ hZ) (mvT hZ wse) (mvT hZ win) hy (backOfSH hM hZ wc wi hfr hlo hEL H) qa qc (g := mkF m pc Ls (argsL.reverse ++ .ref b :: rest)) rfl (by show Ls.size = _; rw [hsz, C.2.2.1]) (Steps.refl _) (argsL := argsL) (rest := rest) (lenOf hpd hlen) rfl (by show 2 * 0 + _ ≤ _; omega) (hb C.2.1 hd) (fun _ _ => ⟨rfl, eT, hce, hsl⟩)
  dsimp only [Pt.U, Pt.locs, Pt.cells, Pt.slots] at X' q1 q2 q3 hq hgr hS' hR st'
  subst q1 q2 q3
  have hS1 : s.Since T'.vm T'.heap.size := foldS hS (by rw [eT]; exact hk) hS' hgr
  obtain ⟨s₂, o, st₂, r⟩ := hr T'.vm T'.heap.size v _ L hq ⟨C.1, C.2.1, C.2.2.1, C.2.2.2.1, by rw [show (s.setVm T'.vm).vm = T'.vm from rfl, hS'.1.alike.findClass]; exact C.2.2.2.2.1, State.Warmed39.trans (t := s.setVm vm0) C.2.2.2.2.2.1 hS'.1, C.2.2.2.2.2.2.1, C.2.2.2.2.2.2.2.1, fe_sinceH hS1⟩ hS1 (Nat.le_refl _) (by rw [← eT]; exact hgr) hR T' X' rfl
  exact ⟨s₂, o, st'.trans st₂, r⟩
end Steps
/-! ## what the case says of a constant -/
theorem Ext.refl (h : Heap) : Ext h h := ⟨Nat.le_refl _, fun _ _ q => q⟩
theorem sta_of {s : State} {args : Array Value} {C n d K : String} (hx : (Cond.exactly (.static C n d) K).value args s none s [] = some true) (wi : (Cond.initialized C).before args s = true) (wl : (Cond.laysStatic C n d).before args s = true) : ∃ a, (Term.static C n d).eval args s none [] s = some (.ref a) ∧ Sta s s.heap C n d (.ref a) ∧ Exa s s.heap a K := by
  obtain ⟨a, ev⟩ := exa_v hx
  exact ⟨a, ev, Sta.start ev (Or.inr ⟨wi, wl⟩), Exa.start ev hx⟩
theorem fld_of {s : State} {args : Array Value} {t : Term} {a : Addr} {C n d : String} {k : Int32} (ev : t.eval args s none [] s = some (.ref a)) (hx : (Cond.eq (.field t C n d) (.int k)).value args s none s [] = some true) : Fld s s.heap a C n d (.int k) := by
  obtain ⟨x, y, h1, h2, -, -⟩ := cmp_v (Or.inl hx)
  have h2' : y = .int k := (Option.some.inj h2).symm
  subst h2'
  have h3 : x = .int k := by
    cases x <;> simp [Cond.value, h1, h2] at hx
    · rw [hx]
  subst h3
  rw [fld_at ev] at h1
  exact Fld.start h1
theorem eq_int {s : State} {args : Array Value} {t : Term} {k : Int32} (hx : (Cond.eq t (.int k)).value args s none s [] = some true) : t.eval args s none [] s = some (.int k) := by
  obtain ⟨x, y, h1, h2, -, -⟩ := cmp_v (Or.inl hx)
  have h2' : y = .int k := (Option.some.inj h2).symm
  subst h2'
  have h3 : x = .int k := by
    cases x <;> simp [Cond.value, h1, h2] at hx
    · rw [hx]
  rw [h1, h3]
theorem sta_arr {s : State} {args : Array Value} {C n d : String} {ty : FieldType} (hx : (Cond.arrayOf (.static C n d) ty).value args s none s [] = some true) (wi : (Cond.initialized C).before args s = true) (wl : (Cond.laysStatic C n d).before args s = true) : ∃ a cl, (Term.static C n d).eval args s none [] s = some (.ref a) ∧ Sta s s.heap C n d (.ref a) ∧ Arr s s.heap a cl ty := by
  obtain ⟨a, ev⟩ := arr_v hx
  obtain ⟨cl, A⟩ := Arr.start ev hx
  exact ⟨a, cl, ev, Sta.start ev (Or.inr ⟨wi, wl⟩), A⟩
theorem arr_len {s : State} {args : Array Value} {t : Term} {a : Addr} {cl : Cell} {ty : FieldType} {n : Nat} (hn : n < 2 ^ 31) (ev : t.eval args s none [] s = some (.ref a)) (A : Arr s s.heap a cl ty) (hx : (Cond.eq (.length t) (.int (Int32.ofNat n))).value args s none s [] = some true) : cl.slots.size = n := by
  have h5 := A.fin (Vm.Alike.refl _)
  have h7 := eq_int hx
  have h3 : cl.slots.size < 2 ^ 31 := by
    by_cases q : cl.slots.size < 2 ^ 31
    · exact q
    · simp [Term.eval, ev, h5, q] at h7
  rw [len_f ev h5 h3] at h7
  have h6 := congrArg Int32.toInt (Value.int.inj (Option.some.inj h7))
  rw [show (Int32.ofNat n).toInt = n from len_toInt hn, len_toInt h3] at h6
  omega
theorem arr_at {s : State} {args : Array Value} {t : Term} {a : Addr} {cl : Cell} {ty : FieldType} {j v : Int32} (ev : t.eval args s none [] s = some (.ref a)) (A : Arr s s.heap a cl ty) (hx : (Cond.eq (.elem t (.int j)) (.int v)).value args s none s [] = some true) : cl.slots[j.toNatClampNeg]? = some (.int v) :=
  (elem_in (eq_int hx) ev rfl A.1).2
theorem lc_self (x : Int64) : (if x < x then 1 else if x = x then 0 else -1 : Int32) = 0 := by simp
theorem lc_ge0 {x : Int64} (h : 0 ≤ x) : ¬ (if 0 < x then 1 else if x = 0 then 0 else -1 : Int32) < 0 := by
  by_cases a : 0 < x
  · rw [if_pos a]; decide
  · rw [if_neg a]
    have e : x = 0 := by
      rw [Int64.lt_iff_toInt_lt] at a; rw [Int64.le_iff_toInt_le] at h
      apply Int64.toInt_inj.mp; omega
    rw [if_pos e]; decide
end Jvm.Own
namespace Jvm.Own
open Jvm.RoadKit
theorem ofNat_inj {i j : Nat} (hi : i < 2 ^ 31) (hj : j < 2 ^ 31) (h : Int32.ofNat i = Int32.ofNat j) : i = j := by
  have q := congrArg Int32.toInt h
  rw [show (Int32.ofNat i).toInt = i from len_toInt hi, show (Int32.ofNat j).toInt = j from len_toInt hj] at q
  exact Int.ofNat.inj q
theorem rem_nat (x : Int32) (n : Nat) (h0 : 0 < n) (h1 : n < 2 ^ 31) : ∃ k : Nat, k < n ∧ (x &&& 2147483647) % (Int32.ofNat n) = Int32.ofNat k := by
  have e1 : (x &&& 2147483647).toInt = x.toInt % 2 ^ 31 := Jvm.Kit.i32_mask x 2147483647 (k := 31) (by decide) (by decide)
  have e2 : (Int32.ofNat n).toInt = n := len_toInt h1
  have e3 : ((x &&& 2147483647) % Int32.ofNat n).toInt = (x.toInt % 2 ^ 31) % n := by rw [Jvm.Kit.i32_rem_nonneg (by rw [e1]; omega), e1, e2]
  have p0 : 0 ≤ (x.toInt % 2 ^ 31) % (n : Int) := Int.emod_nonneg _ (by omega)
  have p1 : (x.toInt % 2 ^ 31) % (n : Int) < n := Int.emod_lt_of_pos _ (by omega)
  generalize (x.toInt % 2 ^ 31) % (n : Int) = z at *
  refine ⟨z.toNat, by omega, ?_⟩
  apply Int32.toInt_inj.mp
  rw [e3, show (Int32.ofNat z.toNat).toInt = (z.toNat : Int) from len_toInt (by omega)]
  omega
end Jvm.Own
namespace Jvm.Pilot.@@N@@
open Jvm Jvm.ClassFile Sem Op Lib Jvm.Free Jvm.Stand Jvm.LawKit Jvm.RoadKit Bundle Jvm.Own Jvm.Pilot.@@N@@.Jvm.D
theorem pn_java_lang_String : plainName "java/lang/String" = true := by first | (simp [plainName, overriddenIn]; done) | decide +kernel
theorem rs_coder_d0 : decode jdk_42_method_152_code 0 = .ok (.getstatic 38, 3) := by decide +kernel
theorem rs_coder_d3 : decode jdk_42_method_152_code 3 = .ok (.ifCond .eq 10, 3) := by decide +kernel
theorem rs_coder_d6 : decode jdk_42_method_152_code 6 = .ok (.aload_n 0, 1) := by decide +kernel
theorem rs_coder_d7 : decode jdk_42_method_152_code 7 = .ok (.getfield 15, 3) := by decide +kernel
theorem rs_coder_d10 : decode jdk_42_method_152_code 10 = .ok (.goto 4, 3) := by decide +kernel
theorem rs_coder_d14 : decode jdk_42_method_152_code 14 = .ok (.ireturn, 1) := by decide +kernel
set_option maxRecDepth 65536 in
set_option maxHeartbeats 40000000 in
theorem rs_coder (l : Launch) (Z : State) (a0 : Array Value) (hw : ∀ d ∈ tables_1, d.before a0 Z = true) (cs : Int32) (Sc : Sta Z Z.heap "java/lang/String" "COMPACT_STRINGS" "Z" (.int cs)) (hcs : ¬ cs = 0) (a : Addr) (h0 : Heap) (O : Old Z Z.heap.size h0) (X_a : Exa Z h0 a "java/lang/String") (F_a_coder : Fld Z h0 a "java/lang/String" "coder" "B" (.int 0)) :
    Met0 l Z (⟨"java/lang/String", "coder", "()B"⟩ : MethodName) [] jdk_42_method_152_code 1 (some .byte) ({ frames := 0, cells := 0, slots := 0, locals := 0 } : Room) #[(.ref a)] h0 (fun v h L => v = some (.int 0) ∧ h0 = h ∧ L = []) := by
  have N := Fr.nil Z.heap.size
  have P := Keep.refl h0 []
  refine Met0.of_walk (plainFor_of_name pn_java_lang_String) (Ls := #[.val (.ref a)]) (fun m => by first | rfl | (simp [entryFrame, mkF, argsToLocals, Value.category]; done)) ?_
  intro p e s m below meth c C
  refine getS_ C (hw _ (List.mem_of_getElem? (i := 73) rfl)) (Sc.ext O.2) rs_coder_d0 (pc' := 3) rfl ?_
  refine if_eq C 13 6 rs_coder_d3 (by decide) rfl rfl (fun q3 => ?_) (fun q3 => ?_)
  · exact absurd q3 hcs
  refine aloadN C rs_coder_d6 (pc' := 7) rfl rfl rfl ?_
  refine getF_ C (hw _ (List.mem_of_getElem? (i := 74) rfl)) Via.refl F_a_coder rs_coder_d7 (pc' := 10) rfl ?_
  refine goto_ C rs_coder_d10 (by decide) (pc' := 14) rfl ?_
  exact ret_B C rs_coder_d14 rfl (by decide) (by decide) (by decide) ⟨rfl, rfl, rfl⟩
abbrev V0 : List Value := [.int 97, .int 32, .int 110, .int 117, .int 109, .int 98, .int 101, .int 114, .int 32, .int 111, .int 102, .int 32, .int 115, .int 104, .int 97, .int 114, .int 101, .int 115, .int 32, .int 111, .int 102, .int 32, .int 97, .int 116, .int 32, .int 109, .int 111, .int 115, .int 116, .int 32]
theorem pd_0 : parseMethodDescriptor "()B" = some ⟨[], some .byte⟩ := by decide +kernel
theorem rs_length30_d0 : decode jdk_42_method_54_code 0 = .ok (.aload_n 0, 1) := by decide +kernel
theorem rs_length30_d1 : decode jdk_42_method_54_code 1 = .ok (.getfield 9, 3) := by decide +kernel
theorem rs_length30_d4 : decode jdk_42_method_54_code 4 = .ok (.arraylength, 1) := by decide +kernel
theorem rs_length30_d5 : decode jdk_42_method_54_code 5 = .ok (.aload_n 0, 1) := by decide +kernel
theorem rs_length30_d6 : decode jdk_42_method_54_code 6 = .ok (.invokevirtual 335, 3) := by decide +kernel
theorem rs_length30_d9 : decode jdk_42_method_54_code 9 = .ok (.ishr, 1) := by decide +kernel
theorem rs_length30_d10 : decode jdk_42_method_54_code 10 = .ok (.ireturn, 1) := by decide +kernel
set_option maxRecDepth 65536 in
set_option maxHeartbeats 40000000 in
theorem rs_length30 (l : Launch) (Z : State) (a0 : Array Value) (hw : ∀ d ∈ tables_1, d.before a0 Z = true) (cs : Int32) (Sc : Sta Z Z.heap "java/lang/String" "COMPACT_STRINGS" "Z" (.int cs)) (hcs : ¬ cs = 0) (a : Addr) (d : Addr) (k_d : ClassId) (h0 : Heap) (O : Old Z Z.heap.size h0) (X_a : Exa Z h0 a "java/lang/String") (F_a_value : Fld Z h0 a "java/lang/String" "value" "[B" (.ref d)) (F_a_coder : Fld Z h0 a "java/lang/String" "coder" "B" (.int 0)) (A_d : Arv Z h0 d k_d .byte 30 V0 (.int 0)) :
    Met0 l Z (⟨"java/lang/String", "length", "()I"⟩ : MethodName) [] jdk_42_method_54_code 1 (some .int) ({ frames := 1, cells := 0, slots := 0, locals := 13 } : Room) #[(.ref a)] h0 (fun v h L => v = some (.int 30) ∧ h0 = h ∧ L = []) := by
  have N := Fr.nil Z.heap.size
  have P := Keep.refl h0 []
  refine Met0.of_walk (plainFor_of_name pn_java_lang_String) (Ls := #[.val (.ref a)]) (fun m => by first | rfl | (simp [entryFrame, mkF, argsToLocals, Value.category]; done)) ?_
  intro p e s m below meth c C
  refine aloadN C rs_length30_d0 (pc' := 1) rfl rfl rfl ?_
  refine getF_ C (hw _ (List.mem_of_getElem? (i := 67) rfl)) Via.refl F_a_value rs_length30_d1 (pc' := 4) rfl ?_
  refine alen_ C A_d rs_length30_d4 (pc' := 5) rfl ?_
  refine aloadN C rs_length30_d5 (pc' := 6) rfl rfl rfl ?_
  refine callV_ C (y := (⟨"java/lang/String", "coder", "()B"⟩ : MethodName)) (z := (⟨"java/lang/String", "coder", "()B"⟩ : MethodName)) (hw _ (List.mem_of_getElem? (i := 68) rfl)) (hw _ (List.mem_of_getElem? (i := 69) rfl)) (nf_sel (hw _ (List.mem_of_getElem? (i := 71) rfl))) (hw _ (List.mem_of_getElem? (i := 71) rfl)) (hw _ (List.mem_of_getElem? (i := 70) rfl)) (hw _ (List.mem_of_getElem? (i := 10) rfl)) (hw _ (List.mem_of_getElem? (i := 72) rfl)) (by decide) X_a pd_0 [] [(.int 30)] rfl rfl (W := 1) rfl (by decide) (by decide) (by decide) (by decide) (rs_coder l Z a0 hw cs Sc hcs a h0 O X_a F_a_coder) rfl rs_length30_d6 (pc' := 9) rfl ?_
  rintro _ _ _ ⟨rfl, rfl, rfl⟩
  show Wk p l e _ _ m _ below meth c _ _ _ _ _ _ (mkF m 9 #[.val (.ref a)] [(.int 0), (.int 30)])
  rw [List.append_nil]
  refine ishr C rs_length30_d9 (pc' := 10) rfl ?_
  show Wk p l e _ _ m _ below meth c _ _ _ _ _ _ (mkF m 10 #[.val (.ref a)] [(.int 30)])
  exact ret_I C rs_length30_d10 rfl (by decide) (by decide) ⟨rfl, rfl, rfl⟩
abbrev V1 : List Value := [.int 32, .int 100, .int 101, .int 99, .int 105, .int 109, .int 97, .int 108, .int 32, .int 112, .int 108, .int 97, .int 99, .int 101, .int 115]
theorem rs_length15_d0 : decode jdk_42_method_54_code 0 = .ok (.aload_n 0, 1) := by decide +kernel
theorem rs_length15_d1 : decode jdk_42_method_54_code 1 = .ok (.getfield 9, 3) := by decide +kernel
theorem rs_length15_d4 : decode jdk_42_method_54_code 4 = .ok (.arraylength, 1) := by decide +kernel
theorem rs_length15_d5 : decode jdk_42_method_54_code 5 = .ok (.aload_n 0, 1) := by decide +kernel
theorem rs_length15_d6 : decode jdk_42_method_54_code 6 = .ok (.invokevirtual 335, 3) := by decide +kernel
theorem rs_length15_d9 : decode jdk_42_method_54_code 9 = .ok (.ishr, 1) := by decide +kernel
theorem rs_length15_d10 : decode jdk_42_method_54_code 10 = .ok (.ireturn, 1) := by decide +kernel
set_option maxRecDepth 65536 in
set_option maxHeartbeats 40000000 in
theorem rs_length15 (l : Launch) (Z : State) (a0 : Array Value) (hw : ∀ d ∈ tables_1, d.before a0 Z = true) (cs : Int32) (Sc : Sta Z Z.heap "java/lang/String" "COMPACT_STRINGS" "Z" (.int cs)) (hcs : ¬ cs = 0) (a : Addr) (d : Addr) (k_d : ClassId) (h0 : Heap) (O : Old Z Z.heap.size h0) (X_a : Exa Z h0 a "java/lang/String") (F_a_value : Fld Z h0 a "java/lang/String" "value" "[B" (.ref d)) (F_a_coder : Fld Z h0 a "java/lang/String" "coder" "B" (.int 0)) (A_d : Arv Z h0 d k_d .byte 15 V1 (.int 0)) :
    Met0 l Z (⟨"java/lang/String", "length", "()I"⟩ : MethodName) [] jdk_42_method_54_code 1 (some .int) ({ frames := 1, cells := 0, slots := 0, locals := 13 } : Room) #[(.ref a)] h0 (fun v h L => v = some (.int 15) ∧ h0 = h ∧ L = []) := by
  have N := Fr.nil Z.heap.size
  have P := Keep.refl h0 []
  refine Met0.of_walk (plainFor_of_name pn_java_lang_String) (Ls := #[.val (.ref a)]) (fun m => by first | rfl | (simp [entryFrame, mkF, argsToLocals, Value.category]; done)) ?_
  intro p e s m below meth c C
  refine aloadN C rs_length15_d0 (pc' := 1) rfl rfl rfl ?_
  refine getF_ C (hw _ (List.mem_of_getElem? (i := 67) rfl)) Via.refl F_a_value rs_length15_d1 (pc' := 4) rfl ?_
  refine alen_ C A_d rs_length15_d4 (pc' := 5) rfl ?_
  refine aloadN C rs_length15_d5 (pc' := 6) rfl rfl rfl ?_
  refine callV_ C (y := (⟨"java/lang/String", "coder", "()B"⟩ : MethodName)) (z := (⟨"java/lang/String", "coder", "()B"⟩ : MethodName)) (hw _ (List.mem_of_getElem? (i := 68) rfl)) (hw _ (List.mem_of_getElem? (i := 69) rfl)) (nf_sel (hw _ (List.mem_of_getElem? (i := 71) rfl))) (hw _ (List.mem_of_getElem? (i := 71) rfl)) (hw _ (List.mem_of_getElem? (i := 70) rfl)) (hw _ (List.mem_of_getElem? (i := 10) rfl)) (hw _ (List.mem_of_getElem? (i := 72) rfl)) (by decide) X_a pd_0 [] [(.int 15)] rfl rfl (W := 1) rfl (by decide) (by decide) (by decide) (by decide) (rs_coder l Z a0 hw cs Sc hcs a h0 O X_a F_a_coder) rfl rs_length15_d6 (pc' := 9) rfl ?_
  rintro _ _ _ ⟨rfl, rfl, rfl⟩
  show Wk p l e _ _ m _ below meth c _ _ _ _ _ _ (mkF m 9 #[.val (.ref a)] [(.int 0), (.int 15)])
  rw [List.append_nil]
  refine ishr C rs_length15_d9 (pc' := 10) rfl ?_
  show Wk p l e _ _ m _ below meth c _ _ _ _ _ _ (mkF m 10 #[.val (.ref a)] [(.int 15)])
  exact ret_I C rs_length15_d10 rfl (by decide) (by decide) ⟨rfl, rfl, rfl⟩
theorem rs_max_14_18_d0 : decode jdk_29_method_65_code 0 = .ok (.iload_n 0, 1) := by decide +kernel
theorem rs_max_14_18_d1 : decode jdk_29_method_65_code 1 = .ok (.iload_n 1, 1) := by decide +kernel
theorem rs_max_14_18_d2 : decode jdk_29_method_65_code 2 = .ok (.if_icmp .lt 7, 3) := by decide +kernel
theorem rs_max_14_18_d9 : decode jdk_29_method_65_code 9 = .ok (.iload_n 1, 1) := by decide +kernel
theorem rs_max_14_18_d10 : decode jdk_29_method_65_code 10 = .ok (.ireturn, 1) := by decide +kernel
set_option maxRecDepth 65536 in
set_option maxHeartbeats 40000000 in
theorem rs_max_14_18 (l : Launch) (Z : State) (a0 : Array Value) (hw : ∀ d ∈ tables_1, d.before a0 Z = true) (cs : Int32) (Sc : Sta Z Z.heap "java/lang/String" "COMPACT_STRINGS" "Z" (.int cs)) (hcs : ¬ cs = 0)  (h0 : Heap) (O : Old Z Z.heap.size h0) :
    Met0 l Z (⟨"java/lang/Math", "max", "(II)I"⟩ : MethodName) [] jdk_29_method_65_code 2 (some .int) ({ frames := 0, cells := 0, slots := 0, locals := 0 } : Room) #[(.int 14), (.int 18)] h0 (fun v h L => v = some (.int 18) ∧ h0 = h ∧ L = []) := by
  have N := Fr.nil Z.heap.size
  have P := Keep.refl h0 []
  refine Met0.of_walk (Jvm.Free.JP.mathPlain rfl (by decide +kernel)) (Ls := #[.val (.int 14), .val (.int 18)]) (fun m => by first | rfl | (simp [entryFrame, mkF, argsToLocals, Value.category]; done)) ?_
  intro p e s m below meth c C
  refine iloadN C rs_max_14_18_d0 (pc' := 1) rfl rfl ?_
  refine iloadN C rs_max_14_18_d1 (pc' := 2) rfl rfl ?_
  refine icmp_lt C 9 5 rs_max_14_18_d2 (by decide) rfl rfl (fun q2 => ?_) (fun q2 => ?_)
  · skip
    refine iloadN C rs_max_14_18_d9 (pc' := 10) rfl rfl ?_
    exact ret_I C rs_max_14_18_d10 rfl (by decide) (by decide) ⟨rfl, rfl, rfl⟩
  · exact absurd q2 (by decide)
theorem rs_max_13_36_d0 : decode jdk_29_method_65_code 0 = .ok (.iload_n 0, 1) := by decide +kernel
theorem rs_max_13_36_d1 : decode jdk_29_method_65_code 1 = .ok (.iload_n 1, 1) := by decide +kernel
theorem rs_max_13_36_d2 : decode jdk_29_method_65_code 2 = .ok (.if_icmp .lt 7, 3) := by decide +kernel
theorem rs_max_13_36_d9 : decode jdk_29_method_65_code 9 = .ok (.iload_n 1, 1) := by decide +kernel
theorem rs_max_13_36_d10 : decode jdk_29_method_65_code 10 = .ok (.ireturn, 1) := by decide +kernel
set_option maxRecDepth 65536 in
set_option maxHeartbeats 40000000 in
theorem rs_max_13_36 (l : Launch) (Z : State) (a0 : Array Value) (hw : ∀ d ∈ tables_1, d.before a0 Z = true) (cs : Int32) (Sc : Sta Z Z.heap "java/lang/String" "COMPACT_STRINGS" "Z" (.int cs)) (hcs : ¬ cs = 0)  (h0 : Heap) (O : Old Z Z.heap.size h0) :
    Met0 l Z (⟨"java/lang/Math", "max", "(II)I"⟩ : MethodName) [] jdk_29_method_65_code 2 (some .int) ({ frames := 0, cells := 0, slots := 0, locals := 0 } : Room) #[(.int 13), (.int 36)] h0 (fun v h L => v = some (.int 36) ∧ h0 = h ∧ L = []) := by
  have N := Fr.nil Z.heap.size
  have P := Keep.refl h0 []
  refine Met0.of_walk (Jvm.Free.JP.mathPlain rfl (by decide +kernel)) (Ls := #[.val (.int 13), .val (.int 36)]) (fun m => by first | rfl | (simp [entryFrame, mkF, argsToLocals, Value.category]; done)) ?_
  intro p e s m below meth c C
  refine iloadN C rs_max_13_36_d0 (pc' := 1) rfl rfl ?_
  refine iloadN C rs_max_13_36_d1 (pc' := 2) rfl rfl ?_
  refine icmp_lt C 9 5 rs_max_13_36_d2 (by decide) rfl rfl (fun q2 => ?_) (fun q2 => ?_)
  · skip
    refine iloadN C rs_max_13_36_d9 (pc' := 10) rfl rfl ?_
    exact ret_I C rs_max_13_36_d10 rfl (by decide) (by decide) ⟨rfl, rfl, rfl⟩
  · exact absurd q2 (by decide)
theorem rs_min_16_34_d0 : decode jdk_29_method_69_code 0 = .ok (.iload_n 0, 1) := by decide +kernel
theorem rs_min_16_34_d1 : decode jdk_29_method_69_code 1 = .ok (.iload_n 1, 1) := by decide +kernel
theorem rs_min_16_34_d2 : decode jdk_29_method_69_code 2 = .ok (.if_icmp .gt 7, 3) := by decide +kernel
theorem rs_min_16_34_d5 : decode jdk_29_method_69_code 5 = .ok (.iload_n 0, 1) := by decide +kernel
theorem rs_min_16_34_d6 : decode jdk_29_method_69_code 6 = .ok (.goto 4, 3) := by decide +kernel
theorem rs_min_16_34_d10 : decode jdk_29_method_69_code 10 = .ok (.ireturn, 1) := by decide +kernel
set_option maxRecDepth 65536 in
set_option maxHeartbeats 40000000 in
theorem rs_min_16_34 (l : Launch) (Z : State) (a0 : Array Value) (hw : ∀ d ∈ tables_1, d.before a0 Z = true) (cs : Int32) (Sc : Sta Z Z.heap "java/lang/String" "COMPACT_STRINGS" "Z" (.int cs)) (hcs : ¬ cs = 0)  (h0 : Heap) (O : Old Z Z.heap.size h0) :
    Met0 l Z (⟨"java/lang/Math", "min", "(II)I"⟩ : MethodName) [] jdk_29_method_69_code 2 (some .int) ({ frames := 0, cells := 0, slots := 0, locals := 0 } : Room) #[(.int 16), (.int 34)] h0 (fun v h L => v = some (.int 16) ∧ h0 = h ∧ L = []) := by
  have N := Fr.nil Z.heap.size
  have P := Keep.refl h0 []
  refine Met0.of_walk (Jvm.Free.JP.mathPlain rfl (by decide +kernel)) (Ls := #[.val (.int 16), .val (.int 34)]) (fun m => by first | rfl | (simp [entryFrame, mkF, argsToLocals, Value.category]; done)) ?_
  intro p e s m below meth c C
  refine iloadN C rs_min_16_34_d0 (pc' := 1) rfl rfl ?_
  refine iloadN C rs_min_16_34_d1 (pc' := 2) rfl rfl ?_
  refine icmp_gt C 9 5 rs_min_16_34_d2 (by decide) rfl rfl (fun q2 => ?_) (fun q2 => ?_)
  · exact absurd q2 (by decide)
  refine iloadN C rs_min_16_34_d5 (pc' := 6) rfl rfl ?_
  refine goto_ C rs_min_16_34_d6 (by decide) (pc' := 10) rfl ?_
  exact ret_I C rs_min_16_34_d10 rfl (by decide) (by decide) ⟨rfl, rfl, rfl⟩
theorem rs_min_34_70_d0 : decode jdk_29_method_69_code 0 = .ok (.iload_n 0, 1) := by decide +kernel
theorem rs_min_34_70_d1 : decode jdk_29_method_69_code 1 = .ok (.iload_n 1, 1) := by decide +kernel
theorem rs_min_34_70_d2 : decode jdk_29_method_69_code 2 = .ok (.if_icmp .gt 7, 3) := by decide +kernel
theorem rs_min_34_70_d5 : decode jdk_29_method_69_code 5 = .ok (.iload_n 0, 1) := by decide +kernel
theorem rs_min_34_70_d6 : decode jdk_29_method_69_code 6 = .ok (.goto 4, 3) := by decide +kernel
theorem rs_min_34_70_d10 : decode jdk_29_method_69_code 10 = .ok (.ireturn, 1) := by decide +kernel
set_option maxRecDepth 65536 in
set_option maxHeartbeats 40000000 in
theorem rs_min_34_70 (l : Launch) (Z : State) (a0 : Array Value) (hw : ∀ d ∈ tables_1, d.before a0 Z = true) (cs : Int32) (Sc : Sta Z Z.heap "java/lang/String" "COMPACT_STRINGS" "Z" (.int cs)) (hcs : ¬ cs = 0)  (h0 : Heap) (O : Old Z Z.heap.size h0) :
    Met0 l Z (⟨"java/lang/Math", "min", "(II)I"⟩ : MethodName) [] jdk_29_method_69_code 2 (some .int) ({ frames := 0, cells := 0, slots := 0, locals := 0 } : Room) #[(.int 34), (.int 70)] h0 (fun v h L => v = some (.int 34) ∧ h0 = h ∧ L = []) := by
  have N := Fr.nil Z.heap.size
  have P := Keep.refl h0 []
  refine Met0.of_walk (Jvm.Free.JP.mathPlain rfl (by decide +kernel)) (Ls := #[.val (.int 34), .val (.int 70)]) (fun m => by first | rfl | (simp [entryFrame, mkF, argsToLocals, Value.category]; done)) ?_
  intro p e s m below meth c C
  refine iloadN C rs_min_34_70_d0 (pc' := 1) rfl rfl ?_
  refine iloadN C rs_min_34_70_d1 (pc' := 2) rfl rfl ?_
  refine icmp_gt C 9 5 rs_min_34_70_d2 (by decide) rfl rfl (fun q2 => ?_) (fun q2 => ?_)
  · exact absurd q2 (by decide)
  refine iloadN C rs_min_34_70_d5 (pc' := 6) rfl rfl ?_
  refine goto_ C rs_min_34_70_d6 (by decide) (pc' := 10) rfl ?_
  exact ret_I C rs_min_34_70_d10 rfl (by decide) (by decide) ⟨rfl, rfl, rfl⟩
theorem rs_min_70_47_d0 : decode jdk_29_method_69_code 0 = .ok (.iload_n 0, 1) := by decide +kernel
theorem rs_min_70_47_d1 : decode jdk_29_method_69_code 1 = .ok (.iload_n 1, 1) := by decide +kernel
theorem rs_min_70_47_d2 : decode jdk_29_method_69_code 2 = .ok (.if_icmp .gt 7, 3) := by decide +kernel
theorem rs_min_70_47_d9 : decode jdk_29_method_69_code 9 = .ok (.iload_n 1, 1) := by decide +kernel
theorem rs_min_70_47_d10 : decode jdk_29_method_69_code 10 = .ok (.ireturn, 1) := by decide +kernel
set_option maxRecDepth 65536 in
set_option maxHeartbeats 40000000 in
theorem rs_min_70_47 (l : Launch) (Z : State) (a0 : Array Value) (hw : ∀ d ∈ tables_1, d.before a0 Z = true) (cs : Int32) (Sc : Sta Z Z.heap "java/lang/String" "COMPACT_STRINGS" "Z" (.int cs)) (hcs : ¬ cs = 0)  (h0 : Heap) (O : Old Z Z.heap.size h0) :
    Met0 l Z (⟨"java/lang/Math", "min", "(II)I"⟩ : MethodName) [] jdk_29_method_69_code 2 (some .int) ({ frames := 0, cells := 0, slots := 0, locals := 0 } : Room) #[(.int 70), (.int 47)] h0 (fun v h L => v = some (.int 47) ∧ h0 = h ∧ L = []) := by
  have N := Fr.nil Z.heap.size
  have P := Keep.refl h0 []
  refine Met0.of_walk (Jvm.Free.JP.mathPlain rfl (by decide +kernel)) (Ls := #[.val (.int 70), .val (.int 47)]) (fun m => by first | rfl | (simp [entryFrame, mkF, argsToLocals, Value.category]; done)) ?_
  intro p e s m below meth c C
  refine iloadN C rs_min_70_47_d0 (pc' := 1) rfl rfl ?_
  refine iloadN C rs_min_70_47_d1 (pc' := 2) rfl rfl ?_
  refine icmp_gt C 9 5 rs_min_70_47_d2 (by decide) rfl rfl (fun q2 => ?_) (fun q2 => ?_)
  · skip
    refine iloadN C rs_min_70_47_d9 (pc' := 10) rfl rfl ?_
    exact ret_I C rs_min_70_47_d10 rfl (by decide) (by decide) ⟨rfl, rfl, rfl⟩
  · exact absurd q2 (by decide)
theorem pd_1 : parseMethodDescriptor "(II)I" = some ⟨[.int, .int], some .int⟩ := by decide +kernel
theorem pn_jdk_internal_util_ArraysSupport : plainName "jdk/internal/util/ArraysSupport" = true := by first | (simp [plainName, overriddenIn]; done) | decide +kernel
theorem rs_newLength_16_d0 : decode jdk_48_method_27_code 0 = .ok (.iload_n 0, 1) := by decide +kernel
theorem rs_newLength_16_d1 : decode jdk_48_method_27_code 1 = .ok (.iload_n 1, 1) := by decide +kernel
theorem rs_newLength_16_d2 : decode jdk_48_method_27_code 2 = .ok (.iload_n 2, 1) := by decide +kernel
theorem rs_newLength_16_d3 : decode jdk_48_method_27_code 3 = .ok (.invokestatic 194, 3) := by decide +kernel
theorem rs_newLength_16_d6 : decode jdk_48_method_27_code 6 = .ok (.iadd, 1) := by decide +kernel
theorem rs_newLength_16_d7 : decode jdk_48_method_27_code 7 = .ok (.istore_n 3, 1) := by decide +kernel
theorem rs_newLength_16_d8 : decode jdk_48_method_27_code 8 = .ok (.iconst 0, 1) := by decide +kernel
theorem rs_newLength_16_d9 : decode jdk_48_method_27_code 9 = .ok (.iload_n 3, 1) := by decide +kernel
theorem rs_newLength_16_d10 : decode jdk_48_method_27_code 10 = .ok (.if_icmp .ge 11, 3) := by decide +kernel
theorem rs_newLength_16_d13 : decode jdk_48_method_27_code 13 = .ok (.iload_n 3, 1) := by decide +kernel
theorem rs_newLength_16_d14 : decode jdk_48_method_27_code 14 = .ok (.ldc 200, 2) := by decide +kernel
theorem rs_newLength_16_d16 : decode jdk_48_method_27_code 16 = .ok (.if_icmp .gt 5, 3) := by decide +kernel
theorem rs_newLength_16_d19 : decode jdk_48_method_27_code 19 = .ok (.iload_n 3, 1) := by decide +kernel
theorem rs_newLength_16_d20 : decode jdk_48_method_27_code 20 = .ok (.ireturn, 1) := by decide +kernel
set_option maxRecDepth 65536 in
set_option maxHeartbeats 40000000 in
theorem rs_newLength_16 (l : Launch) (Z : State) (a0 : Array Value) (hw : ∀ d ∈ tables_1, d.before a0 Z = true) (cs : Int32) (Sc : Sta Z Z.heap "java/lang/String" "COMPACT_STRINGS" "Z" (.int cs)) (hcs : ¬ cs = 0)  (h0 : Heap) (O : Old Z Z.heap.size h0) :
    Met0 l Z (⟨"jdk/internal/util/ArraysSupport", "newLength", "(III)I"⟩ : MethodName) [] jdk_48_method_27_code 4 (some .int) ({ frames := 1, cells := 0, slots := 0, locals := 14 } : Room) #[(.int 16), (.int 14), (.int 18)] h0 (fun v h L => v = some (.int 34) ∧ h0 = h ∧ L = []) := by
  have N := Fr.nil Z.heap.size
  have P := Keep.refl h0 []
  refine Met0.of_walk (plainFor_of_name pn_jdk_internal_util_ArraysSupport) (Ls := #[.val (.int 16), .val (.int 14), .val (.int 18), .unset]) (fun m => by first | rfl | (simp [entryFrame, mkF, argsToLocals, Value.category]; done)) ?_
  intro p e s m below meth c C
  refine iloadN C rs_newLength_16_d0 (pc' := 1) rfl rfl ?_
  refine iloadN C rs_newLength_16_d1 (pc' := 2) rfl rfl ?_
  refine iloadN C rs_newLength_16_d2 (pc' := 3) rfl rfl ?_
  refine callS_ C (y := (⟨"java/lang/Math", "max", "(II)I"⟩ : MethodName)) (hw _ (List.mem_of_getElem? (i := 91) rfl)) (hw _ (List.mem_of_getElem? (i := 92) rfl)) (hw _ (List.mem_of_getElem? (i := 93) rfl)) (hw _ (List.mem_of_getElem? (i := 94) rfl)) (by decide) pd_1 [(.int 14), (.int 18)] [(.int 16)] rfl rfl (W := 1) rfl (by decide) (by decide) (by decide) (by decide) (rs_max_14_18 l Z a0 hw cs Sc hcs  h0 O ) rfl rs_newLength_16_d3 (pc' := 6) rfl ?_
  rintro _ _ _ ⟨rfl, rfl, rfl⟩
  show Wk p l e _ _ m _ below meth c _ _ _ _ _ _ (mkF m 6 #[.val (.int 16), .val (.int 14), .val (.int 18), .unset] [(.int 18), (.int 16)])
  rw [List.append_nil]
  refine iadd C rs_newLength_16_d6 (pc' := 7) rfl ?_
  show Wk p l e _ _ m _ below meth c _ _ _ _ _ _ (mkF m 7 #[.val (.int 16), .val (.int 14), .val (.int 18), .unset] [(.int 34)])
  refine istoreN C rs_newLength_16_d7 (pc' := 8) rfl (Ls' := #[.val (.int 16), .val (.int 14), .val (.int 18), .val (.int 34)]) rfl ?_
  refine iconst C rs_newLength_16_d8 (pc' := 9) rfl (v := 0) rfl ?_
  refine iloadN C rs_newLength_16_d9 (pc' := 10) rfl rfl ?_
  refine icmp_ge C 21 13 rs_newLength_16_d10 (by decide) rfl rfl (fun q10 => ?_) (fun q10 => ?_)
  · exact absurd q10 (by decide)
  refine iloadN C rs_newLength_16_d13 (pc' := 14) rfl rfl ?_
  refine ldcInt C (hw _ (List.mem_of_getElem? (i := 95) rfl)) rs_newLength_16_d14 (pc' := 16) rfl ?_
  refine icmp_gt C 21 19 rs_newLength_16_d16 (by decide) rfl rfl (fun q16 => ?_) (fun q16 => ?_)
  · exact absurd q16 (by decide)
  refine iloadN C rs_newLength_16_d19 (pc' := 20) rfl rfl ?_
  exact ret_I C rs_newLength_16_d20 rfl (by decide) (by decide) ⟨rfl, rfl, rfl⟩
theorem rs_newLength_34_d0 : decode jdk_48_method_27_code 0 = .ok (.iload_n 0, 1) := by decide +kernel
theorem rs_newLength_34_d1 : decode jdk_48_method_27_code 1 = .ok (.iload_n 1, 1) := by decide +kernel
theorem rs_newLength_34_d2 : decode jdk_48_method_27_code 2 = .ok (.iload_n 2, 1) := by decide +kernel
theorem rs_newLength_34_d3 : decode jdk_48_method_27_code 3 = .ok (.invokestatic 194, 3) := by decide +kernel
theorem rs_newLength_34_d6 : decode jdk_48_method_27_code 6 = .ok (.iadd, 1) := by decide +kernel
theorem rs_newLength_34_d7 : decode jdk_48_method_27_code 7 = .ok (.istore_n 3, 1) := by decide +kernel
theorem rs_newLength_34_d8 : decode jdk_48_method_27_code 8 = .ok (.iconst 0, 1) := by decide +kernel
theorem rs_newLength_34_d9 : decode jdk_48_method_27_code 9 = .ok (.iload_n 3, 1) := by decide +kernel
theorem rs_newLength_34_d10 : decode jdk_48_method_27_code 10 = .ok (.if_icmp .ge 11, 3) := by decide +kernel
theorem rs_newLength_34_d13 : decode jdk_48_method_27_code 13 = .ok (.iload_n 3, 1) := by decide +kernel
theorem rs_newLength_34_d14 : decode jdk_48_method_27_code 14 = .ok (.ldc 200, 2) := by decide +kernel
theorem rs_newLength_34_d16 : decode jdk_48_method_27_code 16 = .ok (.if_icmp .gt 5, 3) := by decide +kernel
theorem rs_newLength_34_d19 : decode jdk_48_method_27_code 19 = .ok (.iload_n 3, 1) := by decide +kernel
theorem rs_newLength_34_d20 : decode jdk_48_method_27_code 20 = .ok (.ireturn, 1) := by decide +kernel
set_option maxRecDepth 65536 in
set_option maxHeartbeats 40000000 in
theorem rs_newLength_34 (l : Launch) (Z : State) (a0 : Array Value) (hw : ∀ d ∈ tables_1, d.before a0 Z = true) (cs : Int32) (Sc : Sta Z Z.heap "java/lang/String" "COMPACT_STRINGS" "Z" (.int cs)) (hcs : ¬ cs = 0)  (h0 : Heap) (O : Old Z Z.heap.size h0) :
    Met0 l Z (⟨"jdk/internal/util/ArraysSupport", "newLength", "(III)I"⟩ : MethodName) [] jdk_48_method_27_code 4 (some .int) ({ frames := 1, cells := 0, slots := 0, locals := 14 } : Room) #[(.int 34), (.int 13), (.int 36)] h0 (fun v h L => v = some (.int 70) ∧ h0 = h ∧ L = []) := by
  have N := Fr.nil Z.heap.size
  have P := Keep.refl h0 []
  refine Met0.of_walk (plainFor_of_name pn_jdk_internal_util_ArraysSupport) (Ls := #[.val (.int 34), .val (.int 13), .val (.int 36), .unset]) (fun m => by first | rfl | (simp [entryFrame, mkF, argsToLocals, Value.category]; done)) ?_
  intro p e s m below meth c C
  refine iloadN C rs_newLength_34_d0 (pc' := 1) rfl rfl ?_
  refine iloadN C rs_newLength_34_d1 (pc' := 2) rfl rfl ?_
  refine iloadN C rs_newLength_34_d2 (pc' := 3) rfl rfl ?_
  refine callS_ C (y := (⟨"java/lang/Math", "max", "(II)I"⟩ : MethodName)) (hw _ (List.mem_of_getElem? (i := 91) rfl)) (hw _ (List.mem_of_getElem? (i := 92) rfl)) (hw _ (List.mem_of_getElem? (i := 93) rfl)) (hw _ (List.mem_of_getElem? (i := 94) rfl)) (by decide) pd_1 [(.int 13), (.int 36)] [(.int 34)] rfl rfl (W := 1) rfl (by decide) (by decide) (by decide) (by decide) (rs_max_13_36 l Z a0 hw cs Sc hcs  h0 O ) rfl rs_newLength_34_d3 (pc' := 6) rfl ?_
  rintro _ _ _ ⟨rfl, rfl, rfl⟩
  show Wk p l e _ _ m _ below meth c _ _ _ _ _ _ (mkF m 6 #[.val (.int 34), .val (.int 13), .val (.int 36), .unset] [(.int 36), (.int 34)])
  rw [List.append_nil]
  refine iadd C rs_newLength_34_d6 (pc' := 7) rfl ?_
  show Wk p l e _ _ m _ below meth c _ _ _ _ _ _ (mkF m 7 #[.val (.int 34), .val (.int 13), .val (.int 36), .unset] [(.int 70)])
  refine istoreN C rs_newLength_34_d7 (pc' := 8) rfl (Ls' := #[.val (.int 34), .val (.int 13), .val (.int 36), .val (.int 70)]) rfl ?_
  refine iconst C rs_newLength_34_d8 (pc' := 9) rfl (v := 0) rfl ?_
  refine iloadN C rs_newLength_34_d9 (pc' := 10) rfl rfl ?_
  refine icmp_ge C 21 13 rs_newLength_34_d10 (by decide) rfl rfl (fun q10 => ?_) (fun q10 => ?_)
  · exact absurd q10 (by decide)
  refine iloadN C rs_newLength_34_d13 (pc' := 14) rfl rfl ?_
  refine ldcInt C (hw _ (List.mem_of_getElem? (i := 95) rfl)) rs_newLength_34_d14 (pc' := 16) rfl ?_
  refine icmp_gt C 21 19 rs_newLength_34_d16 (by decide) rfl rfl (fun q16 => ?_) (fun q16 => ?_)
  · exact absurd q16 (by decide)
  refine iloadN C rs_newLength_34_d19 (pc' := 20) rfl rfl ?_
  exact ret_I C rs_newLength_34_d20 rfl (by decide) (by decide) ⟨rfl, rfl, rfl⟩
abbrev V2 : List Value := [.int 0, .int 0, .int 0, .int 0, .int 0, .int 0, .int 0, .int 0, .int 0, .int 0, .int 0, .int 0, .int 0, .int 0, .int 0, .int 0]
theorem pd_2 : parseMethodDescriptor "(III)I" = some ⟨[.int, .int, .int], some .int⟩ := by decide +kernel
theorem pn_java_lang_AbstractStringBuilder : plainName "java/lang/AbstractStringBuilder" = true := by first | (simp [plainName, overriddenIn]; done) | decide +kernel
theorem rs_newCapacity_16_d0 : decode jdk_68_method_10_code 0 = .ok (.aload_n 0, 1) := by decide +kernel
theorem rs_newCapacity_16_d1 : decode jdk_68_method_10_code 1 = .ok (.getfield 15, 3) := by decide +kernel
theorem rs_newCapacity_16_d4 : decode jdk_68_method_10_code 4 = .ok (.arraylength, 1) := by decide +kernel
theorem rs_newCapacity_16_d5 : decode jdk_68_method_10_code 5 = .ok (.istore_n 2, 1) := by decide +kernel
theorem rs_newCapacity_16_d6 : decode jdk_68_method_10_code 6 = .ok (.iload_n 1, 1) := by decide +kernel
theorem rs_newCapacity_16_d7 : decode jdk_68_method_10_code 7 = .ok (.aload_n 0, 1) := by decide +kernel
theorem rs_newCapacity_16_d8 : decode jdk_68_method_10_code 8 = .ok (.getfield 22, 3) := by decide +kernel
theorem rs_newCapacity_16_d11 : decode jdk_68_method_10_code 11 = .ok (.ishl, 1) := by decide +kernel
theorem rs_newCapacity_16_d12 : decode jdk_68_method_10_code 12 = .ok (.istore_n 3, 1) := by decide +kernel
theorem rs_newCapacity_16_d13 : decode jdk_68_method_10_code 13 = .ok (.iload_n 3, 1) := by decide +kernel
theorem rs_newCapacity_16_d14 : decode jdk_68_method_10_code 14 = .ok (.iload_n 2, 1) := by decide +kernel
theorem rs_newCapacity_16_d15 : decode jdk_68_method_10_code 15 = .ok (.isub, 1) := by decide +kernel
theorem rs_newCapacity_16_d16 : decode jdk_68_method_10_code 16 = .ok (.istore 4, 2) := by decide +kernel
theorem rs_newCapacity_16_d18 : decode jdk_68_method_10_code 18 = .ok (.iload_n 2, 1) := by decide +kernel
theorem rs_newCapacity_16_d19 : decode jdk_68_method_10_code 19 = .ok (.iload 4, 2) := by decide +kernel
theorem rs_newCapacity_16_d21 : decode jdk_68_method_10_code 21 = .ok (.iload_n 2, 1) := by decide +kernel
theorem rs_newCapacity_16_d22 : decode jdk_68_method_10_code 22 = .ok (.iconst 2, 1) := by decide +kernel
theorem rs_newCapacity_16_d23 : decode jdk_68_method_10_code 23 = .ok (.aload_n 0, 1) := by decide +kernel
theorem rs_newCapacity_16_d24 : decode jdk_68_method_10_code 24 = .ok (.getfield 22, 3) := by decide +kernel
theorem rs_newCapacity_16_d27 : decode jdk_68_method_10_code 27 = .ok (.ishl, 1) := by decide +kernel
theorem rs_newCapacity_16_d28 : decode jdk_68_method_10_code 28 = .ok (.iadd, 1) := by decide +kernel
theorem rs_newCapacity_16_d29 : decode jdk_68_method_10_code 29 = .ok (.invokestatic 114, 3) := by decide +kernel
theorem rs_newCapacity_16_d32 : decode jdk_68_method_10_code 32 = .ok (.istore 5, 2) := by decide +kernel
theorem rs_newCapacity_16_d34 : decode jdk_68_method_10_code 34 = .ok (.iload 5, 2) := by decide +kernel
theorem rs_newCapacity_16_d36 : decode jdk_68_method_10_code 36 = .ok (.ldc 39, 2) := by decide +kernel
theorem rs_newCapacity_16_d38 : decode jdk_68_method_10_code 38 = .ok (.if_icmp .ne 13, 3) := by decide +kernel
theorem rs_newCapacity_16_d51 : decode jdk_68_method_10_code 51 = .ok (.iload 5, 2) := by decide +kernel
theorem rs_newCapacity_16_d53 : decode jdk_68_method_10_code 53 = .ok (.aload_n 0, 1) := by decide +kernel
theorem rs_newCapacity_16_d54 : decode jdk_68_method_10_code 54 = .ok (.getfield 22, 3) := by decide +kernel
theorem rs_newCapacity_16_d57 : decode jdk_68_method_10_code 57 = .ok (.ishr, 1) := by decide +kernel
theorem rs_newCapacity_16_d58 : decode jdk_68_method_10_code 58 = .ok (.ireturn, 1) := by decide +kernel
set_option maxRecDepth 65536 in
set_option maxHeartbeats 40000000 in
theorem rs_newCapacity_16 (l : Launch) (Z : State) (a0 : Array Value) (hw : ∀ d ∈ tables_1, d.before a0 Z = true) (cs : Int32) (Sc : Sta Z Z.heap "java/lang/String" "COMPACT_STRINGS" "Z" (.int cs)) (hcs : ¬ cs = 0) (a : Addr) (d : Addr) (k_d : ClassId) (h0 : Heap) (O : Old Z Z.heap.size h0) (X_a : Exa Z h0 a "java/lang/StringBuilder") (F_a_value : Fld Z h0 a "java/lang/AbstractStringBuilder" "value" "[B" (.ref d)) (F_a_coder : Fld Z h0 a "java/lang/AbstractStringBuilder" "coder" "B" (.int 0)) (F_a_count : Fld Z h0 a "java/lang/AbstractStringBuilder" "count" "I" (.int 0)) (A_d : Arv Z h0 d k_d .byte 16 V2 (.int 0)) :
    Met0 l Z (⟨"java/lang/AbstractStringBuilder", "newCapacity", "(I)I"⟩ : MethodName) [] jdk_68_method_10_code 6 (some .int) ({ frames := 2, cells := 0, slots := 0, locals := 29 } : Room) #[(.ref a), (.int 30)] h0 (fun v h L => v = some (.int 34) ∧ h0 = h ∧ L = []) := by
  have N := Fr.nil Z.heap.size
  have P := Keep.refl h0 []
  refine Met0.of_walk (plainFor_of_name pn_java_lang_AbstractStringBuilder) (Ls := #[.val (.ref a), .val (.int 30), .unset, .unset, .unset, .unset]) (fun m => by first | rfl | (simp [entryFrame, mkF, argsToLocals, Value.category]; done)) ?_
  intro p e s m below meth c C
  refine aloadN C rs_newCapacity_16_d0 (pc' := 1) rfl rfl rfl ?_
  refine getF_ C (hw _ (List.mem_of_getElem? (i := 47) rfl)) Via.refl F_a_value rs_newCapacity_16_d1 (pc' := 4) rfl ?_
  refine alen_ C A_d rs_newCapacity_16_d4 (pc' := 5) rfl ?_
  refine istoreN C rs_newCapacity_16_d5 (pc' := 6) rfl (Ls' := #[.val (.ref a), .val (.int 30), .val (.int 16), .unset, .unset, .unset]) rfl ?_
  refine iloadN C rs_newCapacity_16_d6 (pc' := 7) rfl rfl ?_
  refine aloadN C rs_newCapacity_16_d7 (pc' := 8) rfl rfl rfl ?_
  refine getF_ C (hw _ (List.mem_of_getElem? (i := 49) rfl)) Via.refl F_a_coder rs_newCapacity_16_d8 (pc' := 11) rfl ?_
  refine ishl C rs_newCapacity_16_d11 (pc' := 12) rfl ?_
  show Wk p l e _ _ m _ below meth c _ _ _ _ _ _ (mkF m 12 #[.val (.ref a), .val (.int 30), .val (.int 16), .unset, .unset, .unset] [(.int 30)])
  refine istoreN C rs_newCapacity_16_d12 (pc' := 13) rfl (Ls' := #[.val (.ref a), .val (.int 30), .val (.int 16), .val (.int 30), .unset, .unset]) rfl ?_
  refine iloadN C rs_newCapacity_16_d13 (pc' := 14) rfl rfl ?_
  refine iloadN C rs_newCapacity_16_d14 (pc' := 15) rfl rfl ?_
  refine isub C rs_newCapacity_16_d15 (pc' := 16) rfl ?_
  show Wk p l e _ _ m _ below meth c _ _ _ _ _ _ (mkF m 16 #[.val (.ref a), .val (.int 30), .val (.int 16), .val (.int 30), .unset, .unset] [(.int 14)])
  refine istore C rs_newCapacity_16_d16 (pc' := 18) rfl (Ls' := #[.val (.ref a), .val (.int 30), .val (.int 16), .val (.int 30), .val (.int 14), .unset]) rfl ?_
  refine iloadN C rs_newCapacity_16_d18 (pc' := 19) rfl rfl ?_
  refine iload C rs_newCapacity_16_d19 (pc' := 21) rfl rfl ?_
  refine iloadN C rs_newCapacity_16_d21 (pc' := 22) rfl rfl ?_
  refine iconst C rs_newCapacity_16_d22 (pc' := 23) rfl (v := 2) rfl ?_
  refine aloadN C rs_newCapacity_16_d23 (pc' := 24) rfl rfl rfl ?_
  refine getF_ C (hw _ (List.mem_of_getElem? (i := 49) rfl)) Via.refl F_a_coder rs_newCapacity_16_d24 (pc' := 27) rfl ?_
  refine ishl C rs_newCapacity_16_d27 (pc' := 28) rfl ?_
  show Wk p l e _ _ m _ below meth c _ _ _ _ _ _ (mkF m 28 #[.val (.ref a), .val (.int 30), .val (.int 16), .val (.int 30), .val (.int 14), .unset] [(.int 2), (.int 16), (.int 14), (.int 16)])
  refine iadd C rs_newCapacity_16_d28 (pc' := 29) rfl ?_
  show Wk p l e _ _ m _ below meth c _ _ _ _ _ _ (mkF m 29 #[.val (.ref a), .val (.int 30), .val (.int 16), .val (.int 30), .val (.int 14), .unset] [(.int 18), (.int 14), (.int 16)])
  refine callS_ C (y := (⟨"jdk/internal/util/ArraysSupport", "newLength", "(III)I"⟩ : MethodName)) (hw _ (List.mem_of_getElem? (i := 87) rfl)) (hw _ (List.mem_of_getElem? (i := 88) rfl)) (hw _ (List.mem_of_getElem? (i := 89) rfl)) (hw _ (List.mem_of_getElem? (i := 90) rfl)) (by decide) pd_2 [(.int 16), (.int 14), (.int 18)] [] rfl rfl (W := 0) rfl (by decide) (by decide) (by decide) (by decide) (rs_newLength_16 l Z a0 hw cs Sc hcs  h0 O ) rfl rs_newCapacity_16_d29 (pc' := 32) rfl ?_
  rintro _ _ _ ⟨rfl, rfl, rfl⟩
  show Wk p l e _ _ m _ below meth c _ _ _ _ _ _ (mkF m 32 #[.val (.ref a), .val (.int 30), .val (.int 16), .val (.int 30), .val (.int 14), .unset] [(.int 34)])
  rw [List.append_nil]
  refine istore C rs_newCapacity_16_d32 (pc' := 34) rfl (Ls' := #[.val (.ref a), .val (.int 30), .val (.int 16), .val (.int 30), .val (.int 14), .val (.int 34)]) rfl ?_
  refine iload C rs_newCapacity_16_d34 (pc' := 36) rfl rfl ?_
  refine ldcInt C (hw _ (List.mem_of_getElem? (i := 96) rfl)) rs_newCapacity_16_d36 (pc' := 38) rfl ?_
  refine icmp_ne C 51 41 rs_newCapacity_16_d38 (by decide) rfl rfl (fun q38 => ?_) (fun q38 => ?_)
  · skip
    refine iload C rs_newCapacity_16_d51 (pc' := 53) rfl rfl ?_
    refine aloadN C rs_newCapacity_16_d53 (pc' := 54) rfl rfl rfl ?_
    refine getF_ C (hw _ (List.mem_of_getElem? (i := 49) rfl)) Via.refl F_a_coder rs_newCapacity_16_d54 (pc' := 57) rfl ?_
    refine ishr C rs_newCapacity_16_d57 (pc' := 58) rfl ?_
    show Wk p l e _ _ m _ below meth c _ _ _ _ _ _ (mkF m 58 #[.val (.ref a), .val (.int 30), .val (.int 16), .val (.int 30), .val (.int 14), .val (.int 34)] [(.int 34)])
    exact ret_I C rs_newCapacity_16_d58 rfl (by decide) (by decide) ⟨rfl, rfl, rfl⟩
  · exact absurd q38 (by decide)
abbrev V3 : List Value := [.int 0, .int 0, .int 0, .int 0, .int 0, .int 0, .int 0, .int 0, .int 0, .int 0, .int 0, .int 0, .int 0, .int 0, .int 0, .int 0, .int 0, .int 0, .int 0, .int 0, .int 0, .int 0, .int 0, .int 0, .int 0, .int 0, .int 0, .int 0, .int 0, .int 0, .int 0, .int 0, .int 0, .int 0]
theorem pn_java_util_Arrays : plainName "java/util/Arrays" = true := by first | (simp [plainName, overriddenIn]; done) | decide +kernel
theorem rs_copyOf_16_d0 : decode jdk_65_method_121_code 0 = .ok (.iload_n 1, 1) := by decide +kernel
theorem rs_copyOf_16_d1 : decode jdk_65_method_121_code 1 = .ok (.aload_n 0, 1) := by decide +kernel
theorem rs_copyOf_16_d2 : decode jdk_65_method_121_code 2 = .ok (.arraylength, 1) := by decide +kernel
theorem rs_copyOf_16_d3 : decode jdk_65_method_121_code 3 = .ok (.if_icmp .ne 11, 3) := by decide +kernel
theorem rs_copyOf_16_d14 : decode jdk_65_method_121_code 14 = .ok (.iload_n 1, 1) := by decide +kernel
theorem rs_copyOf_16_d15 : decode jdk_65_method_121_code 15 = .ok (.newarray .byte, 2) := by decide +kernel
theorem rs_copyOf_16_d17 : decode jdk_65_method_121_code 17 = .ok (.astore_n 2, 1) := by decide +kernel
theorem rs_copyOf_16_d18 : decode jdk_65_method_121_code 18 = .ok (.aload_n 0, 1) := by decide +kernel
theorem rs_copyOf_16_d19 : decode jdk_65_method_121_code 19 = .ok (.iconst 0, 1) := by decide +kernel
theorem rs_copyOf_16_d20 : decode jdk_65_method_121_code 20 = .ok (.aload_n 2, 1) := by decide +kernel
theorem rs_copyOf_16_d21 : decode jdk_65_method_121_code 21 = .ok (.iconst 0, 1) := by decide +kernel
theorem rs_copyOf_16_d22 : decode jdk_65_method_121_code 22 = .ok (.aload_n 0, 1) := by decide +kernel
theorem rs_copyOf_16_d23 : decode jdk_65_method_121_code 23 = .ok (.arraylength, 1) := by decide +kernel
theorem rs_copyOf_16_d24 : decode jdk_65_method_121_code 24 = .ok (.iload_n 1, 1) := by decide +kernel
theorem rs_copyOf_16_d25 : decode jdk_65_method_121_code 25 = .ok (.invokestatic 304, 3) := by decide +kernel
theorem rs_copyOf_16_d28 : decode jdk_65_method_121_code 28 = .ok (.invokestatic 150, 3) := by decide +kernel
theorem rs_copyOf_16_d31 : decode jdk_65_method_121_code 31 = .ok (.aload_n 2, 1) := by decide +kernel
theorem rs_copyOf_16_d32 : decode jdk_65_method_121_code 32 = .ok (.areturn, 1) := by decide +kernel
set_option maxRecDepth 65536 in
set_option maxHeartbeats 40000000 in
theorem rs_copyOf_16 (l : Launch) (Z : State) (a0 : Array Value) (hw : ∀ d ∈ tables_1, d.before a0 Z = true) (cs : Int32) (Sc : Sta Z Z.heap "java/lang/String" "COMPACT_STRINGS" "Z" (.int cs)) (hcs : ¬ cs = 0) (d : Addr) (k_d : ClassId) (h0 : Heap) (O : Old Z Z.heap.size h0) (A_d : Arv Z h0 d k_d .byte 16 V2 (.int 0)) :
    Met0 l Z (⟨"java/util/Arrays", "copyOf", "([BI)[B"⟩ : MethodName) [] jdk_65_method_121_code 3 (some (.array .byte)) ({ frames := 1, cells := 1, slots := 34, locals := 18 } : Room) #[(.ref d), (.int 34)] h0 (fun v h L => ∃ (r : Addr) (k_r : ClassId), v = some (.ref r) ∧ Fr Z.heap.size L ∧ Keep h0 h [] ∧ h0.size ≤ r ∧ Arv Z h r k_r .byte 34 V3 (.int 0)) := by
  have N := Fr.nil Z.heap.size
  have P := Keep.refl h0 []
  refine Met0.of_walk (plainFor_of_name pn_java_util_Arrays) (Ls := #[.val (.ref d), .val (.int 34), .unset]) (fun m => by first | rfl | (simp [entryFrame, mkF, argsToLocals, Value.category]; done)) ?_
  intro p e s m below meth c C
  refine iloadN C rs_copyOf_16_d0 (pc' := 1) rfl rfl ?_
  refine aloadN C rs_copyOf_16_d1 (pc' := 2) rfl rfl rfl ?_
  refine alen_ C A_d rs_copyOf_16_d2 (pc' := 3) rfl ?_
  refine icmp_ne C 14 6 rs_copyOf_16_d3 (by decide) rfl rfl (fun q3 => ?_) (fun q3 => ?_)
  · skip
    refine iloadN C rs_copyOf_16_d14 (pc' := 15) rfl rfl ?_
    have lt6_d := A_d.lt
    refine newP_ C (ty := .byte) rfl (hw _ (List.mem_of_getElem? (i := 12) rfl)) rs_copyOf_16_d15 (pc' := 17) rfl (by decide) (cap := 34) (by decide) (by decide) (by decide) (by decide) ?_
    intro h6 k_b6 b6 g6 E6 A6'
    have ge6_b6 : Z.heap.size ≤ b6 := by rw [g6]; exact O.2.1
    have sz6_b6 : h0.size ≤ b6 := by rw [g6]; exact P.1
    have ne6_d_b6 : d ≠ b6 := Nat.ne_of_lt (Nat.lt_of_lt_of_le lt6_d (Nat.le_of_eq g6.symm))
    have A6_b6 : Arv Z h6 b6 k_b6 .byte 34 V3 (.int 0) := A6'.pad (pad_rep [] _ 34)
    have O6 := O.ext E6
    have A6_d := A_d.ext E6
    have P6 := P.ext E6
    refine astoreN C rs_copyOf_16_d17 (pc' := 18) rfl rfl (Ls' := #[.val (.ref d), .val (.int 34), .val (.ref b6)]) rfl ?_
    refine aloadN C rs_copyOf_16_d18 (pc' := 19) rfl rfl rfl ?_
    refine iconst C rs_copyOf_16_d19 (pc' := 20) rfl (v := 0) rfl ?_
    refine aloadN C rs_copyOf_16_d20 (pc' := 21) rfl rfl rfl ?_
    refine iconst C rs_copyOf_16_d21 (pc' := 22) rfl (v := 0) rfl ?_
    refine aloadN C rs_copyOf_16_d22 (pc' := 23) rfl rfl rfl ?_
    refine alen_ C A6_d rs_copyOf_16_d23 (pc' := 24) rfl ?_
    refine iloadN C rs_copyOf_16_d24 (pc' := 25) rfl rfl ?_
    refine callS_ C (y := (⟨"java/lang/Math", "min", "(II)I"⟩ : MethodName)) (hw _ (List.mem_of_getElem? (i := 101) rfl)) (hw _ (List.mem_of_getElem? (i := 102) rfl)) (hw _ (List.mem_of_getElem? (i := 93) rfl)) (hw _ (List.mem_of_getElem? (i := 103) rfl)) (by decide) pd_1 [(.int 16), (.int 34)] [(.int 0), (.ref b6), (.int 0), (.ref d)] rfl rfl (W := 4) rfl (by decide) (by decide) (by decide) (by decide) (rs_min_16_34 l Z a0 hw cs Sc hcs  h6 O6 ) rfl rs_copyOf_16_d25 (pc' := 28) rfl ?_
    rintro _ _ _ ⟨rfl, rfl, rfl⟩
    show Wk p l e _ _ m _ below meth c _ _ _ _ _ _ (mkF m 28 #[.val (.ref d), .val (.int 34), .val (.ref b6)] [(.int 16), (.int 0), (.ref b6), (.int 0), (.ref d)])
    rw [List.append_nil]
    refine cpA_ C (us := V2) (hw _ (List.mem_of_getElem? (i := 104) rfl)) (hw _ (List.mem_of_getElem? (i := 107) rfl)) (hw _ (List.mem_of_getElem? (i := 105) rfl)) (hw _ (List.mem_of_getElem? (i := 106) rfl)) A6_d A6_b6 (by decide) (by decide) (by decide) (by decide) (by decide) (by rfl) (Nat.le_of_ble_eq_true rfl) N ge6_b6 rfl (W := 0) rfl (by decide) (by decide) rs_copyOf_16_d28 (pc' := 31) rfl ?_
    intro h8 L8 N8 K8 A8'
    have A8_b6 : Arv Z h8 b6 k_b6 .byte 34 V3 (.int 0) := A8'
    have O8 := O6.keep K8 (allS ge6_b6 all0)
    have P8 := P6.trans K8 (allS (Or.inr sz6_b6) all0)
    have A8_d := A6_d.keep K8 (ninS ne6_d_b6 nin0)
    refine aloadN C rs_copyOf_16_d31 (pc' := 32) rfl rfl rfl ?_
    exact ret_A C rs_copyOf_16_d32 rfl rfl rfl rfl (by decide) (by decide) ⟨b6, k_b6, rfl, N8, P8, sz6_b6, A8_b6⟩
  · exact absurd q3 (by decide)
theorem pd_3 : parseMethodDescriptor "(I)I" = some ⟨[.int], some .int⟩ := by decide +kernel
theorem pd_4 : parseMethodDescriptor "([BI)[B" = some ⟨[(.array .byte), .int], some (.array .byte)⟩ := by decide +kernel
theorem rs_ensure_16_d0 : decode jdk_68_method_9_code 0 = .ok (.aload_n 0, 1) := by decide +kernel
theorem rs_ensure_16_d1 : decode jdk_68_method_9_code 1 = .ok (.getfield 15, 3) := by decide +kernel
theorem rs_ensure_16_d4 : decode jdk_68_method_9_code 4 = .ok (.arraylength, 1) := by decide +kernel
theorem rs_ensure_16_d5 : decode jdk_68_method_9_code 5 = .ok (.aload_n 0, 1) := by decide +kernel
theorem rs_ensure_16_d6 : decode jdk_68_method_9_code 6 = .ok (.getfield 22, 3) := by decide +kernel
theorem rs_ensure_16_d9 : decode jdk_68_method_9_code 9 = .ok (.ishr, 1) := by decide +kernel
theorem rs_ensure_16_d10 : decode jdk_68_method_9_code 10 = .ok (.istore_n 2, 1) := by decide +kernel
theorem rs_ensure_16_d11 : decode jdk_68_method_9_code 11 = .ok (.iload_n 1, 1) := by decide +kernel
theorem rs_ensure_16_d12 : decode jdk_68_method_9_code 12 = .ok (.iload_n 2, 1) := by decide +kernel
theorem rs_ensure_16_d13 : decode jdk_68_method_9_code 13 = .ok (.isub, 1) := by decide +kernel
theorem rs_ensure_16_d14 : decode jdk_68_method_9_code 14 = .ok (.ifCond .le 24, 3) := by decide +kernel
theorem rs_ensure_16_d17 : decode jdk_68_method_9_code 17 = .ok (.aload_n 0, 1) := by decide +kernel
theorem rs_ensure_16_d18 : decode jdk_68_method_9_code 18 = .ok (.aload_n 0, 1) := by decide +kernel
theorem rs_ensure_16_d19 : decode jdk_68_method_9_code 19 = .ok (.getfield 15, 3) := by decide +kernel
theorem rs_ensure_16_d22 : decode jdk_68_method_9_code 22 = .ok (.aload_n 0, 1) := by decide +kernel
theorem rs_ensure_16_d23 : decode jdk_68_method_9_code 23 = .ok (.iload_n 1, 1) := by decide +kernel
theorem rs_ensure_16_d24 : decode jdk_68_method_9_code 24 = .ok (.invokevirtual 104, 3) := by decide +kernel
theorem rs_ensure_16_d27 : decode jdk_68_method_9_code 27 = .ok (.aload_n 0, 1) := by decide +kernel
theorem rs_ensure_16_d28 : decode jdk_68_method_9_code 28 = .ok (.getfield 22, 3) := by decide +kernel
theorem rs_ensure_16_d31 : decode jdk_68_method_9_code 31 = .ok (.ishl, 1) := by decide +kernel
theorem rs_ensure_16_d32 : decode jdk_68_method_9_code 32 = .ok (.invokestatic 108, 3) := by decide +kernel
theorem rs_ensure_16_d35 : decode jdk_68_method_9_code 35 = .ok (.putfield 15, 3) := by decide +kernel
theorem rs_ensure_16_d38 : decode jdk_68_method_9_code 38 = .ok (.return_, 1) := by decide +kernel
set_option maxRecDepth 65536 in
set_option maxHeartbeats 40000000 in
theorem rs_ensure_16 (l : Launch) (Z : State) (a0 : Array Value) (hw : ∀ d ∈ tables_1, d.before a0 Z = true) (cs : Int32) (Sc : Sta Z Z.heap "java/lang/String" "COMPACT_STRINGS" "Z" (.int cs)) (hcs : ¬ cs = 0) (a : Addr) (d : Addr) (k_d : ClassId) (h0 : Heap) (O : Old Z Z.heap.size h0) (X_a : Exa Z h0 a "java/lang/StringBuilder") (F_a_value : Fld Z h0 a "java/lang/AbstractStringBuilder" "value" "[B" (.ref d)) (F_a_coder : Fld Z h0 a "java/lang/AbstractStringBuilder" "coder" "B" (.int 0)) (F_a_count : Fld Z h0 a "java/lang/AbstractStringBuilder" "count" "I" (.int 0)) (A_d : Arv Z h0 d k_d .byte 16 V2 (.int 0)) (ge_a : Z.heap.size ≤ a) (ne_a_d : a ≠ d) :
    Met0 l Z (⟨"java/lang/AbstractStringBuilder", "ensureCapacityInternal", "(I)V"⟩ : MethodName) [] jdk_68_method_9_code 3 none ({ frames := 3, cells := 1, slots := 34, locals := 48 } : Room) #[(.ref a), (.int 30)] h0 (fun v h L => ∃ (r : Addr) (k_r : ClassId), v = none ∧ Fr Z.heap.size L ∧ Keep h0 h [a] ∧ Exa Z h a "java/lang/StringBuilder" ∧ Fld Z h a "java/lang/AbstractStringBuilder" "value" "[B" (.ref r) ∧ Fld Z h a "java/lang/AbstractStringBuilder" "coder" "B" (.int 0) ∧ Fld Z h a "java/lang/AbstractStringBuilder" "count" "I" (.int 0) ∧ h0.size ≤ r ∧ Arv Z h r k_r .byte 34 V3 (.int 0)) := by
  have N := Fr.nil Z.heap.size
  have P := Keep.refl h0 [a]
  refine Met0.of_walk (plainFor_of_name pn_java_lang_AbstractStringBuilder) (Ls := #[.val (.ref a), .val (.int 30), .unset]) (fun m => by first | rfl | (simp [entryFrame, mkF, argsToLocals, Value.category]; done)) ?_
  intro p e s m below meth c C
  refine aloadN C rs_ensure_16_d0 (pc' := 1) rfl rfl rfl ?_
  refine getF_ C (hw _ (List.mem_of_getElem? (i := 47) rfl)) Via.refl F_a_value rs_ensure_16_d1 (pc' := 4) rfl ?_
  refine alen_ C A_d rs_ensure_16_d4 (pc' := 5) rfl ?_
  refine aloadN C rs_ensure_16_d5 (pc' := 6) rfl rfl rfl ?_
  refine getF_ C (hw _ (List.mem_of_getElem? (i := 49) rfl)) Via.refl F_a_coder rs_ensure_16_d6 (pc' := 9) rfl ?_
  refine ishr C rs_ensure_16_d9 (pc' := 10) rfl ?_
  show Wk p l e _ _ m _ below meth c _ _ _ _ _ _ (mkF m 10 #[.val (.ref a), .val (.int 30), .unset] [(.int 16)])
  refine istoreN C rs_ensure_16_d10 (pc' := 11) rfl (Ls' := #[.val (.ref a), .val (.int 30), .val (.int 16)]) rfl ?_
  refine iloadN C rs_ensure_16_d11 (pc' := 12) rfl rfl ?_
  refine iloadN C rs_ensure_16_d12 (pc' := 13) rfl rfl ?_
  refine isub C rs_ensure_16_d13 (pc' := 14) rfl ?_
  show Wk p l e _ _ m _ below meth c _ _ _ _ _ _ (mkF m 14 #[.val (.ref a), .val (.int 30), .val (.int 16)] [(.int 14)])
  refine if_le C 38 17 rs_ensure_16_d14 (by decide) rfl rfl (fun q14 => ?_) (fun q14 => ?_)
  · exact absurd q14 (by decide)
  refine aloadN C rs_ensure_16_d17 (pc' := 18) rfl rfl rfl ?_
  refine aloadN C rs_ensure_16_d18 (pc' := 19) rfl rfl rfl ?_
  refine getF_ C (hw _ (List.mem_of_getElem? (i := 47) rfl)) Via.refl F_a_value rs_ensure_16_d19 (pc' := 22) rfl ?_
  refine aloadN C rs_ensure_16_d22 (pc' := 23) rfl rfl rfl ?_
  refine iloadN C rs_ensure_16_d23 (pc' := 24) rfl rfl ?_
  refine callP_ C (y := (⟨"java/lang/AbstractStringBuilder", "newCapacity", "(I)I"⟩ : MethodName)) (zs := (⟨"java/lang/AbstractStringBuilder", "isLatin1", "()Z"⟩ : MethodName)) (hw _ (List.mem_of_getElem? (i := 82) rfl)) (hw _ (List.mem_of_getElem? (i := 83) rfl)) (hw _ (List.mem_of_getElem? (i := 84) rfl)) (hw _ (List.mem_of_getElem? (i := 141) rfl)) rfl (hw _ (List.mem_of_getElem? (i := 41) rfl)) (hw _ (List.mem_of_getElem? (i := 86) rfl)) (by decide) X_a pd_3 [(.int 30)] [(.ref d), (.ref a)] rfl rfl (W := 2) rfl (by decide) (by decide) (by decide) (by decide) (rs_newCapacity_16 l Z a0 hw cs Sc hcs a d k_d h0 O X_a F_a_value F_a_coder F_a_count A_d) rfl rs_ensure_16_d24 (pc' := 27) rfl ?_
  rintro _ _ _ ⟨rfl, rfl, rfl⟩
  show Wk p l e _ _ m _ below meth c _ _ _ _ _ _ (mkF m 27 #[.val (.ref a), .val (.int 30), .val (.int 16)] [(.int 34), (.ref d), (.ref a)])
  rw [List.append_nil]
  refine aloadN C rs_ensure_16_d27 (pc' := 28) rfl rfl rfl ?_
  refine getF_ C (hw _ (List.mem_of_getElem? (i := 49) rfl)) Via.refl F_a_coder rs_ensure_16_d28 (pc' := 31) rfl ?_
  refine ishl C rs_ensure_16_d31 (pc' := 32) rfl ?_
  show Wk p l e _ _ m _ below meth c _ _ _ _ _ _ (mkF m 32 #[.val (.ref a), .val (.int 30), .val (.int 16)] [(.int 34), (.ref d), (.ref a)])
  have lt10_a := X_a.lt
  have lt10_d := A_d.lt
  refine callS_ C (y := (⟨"java/util/Arrays", "copyOf", "([BI)[B"⟩ : MethodName)) (hw _ (List.mem_of_getElem? (i := 97) rfl)) (hw _ (List.mem_of_getElem? (i := 98) rfl)) (hw _ (List.mem_of_getElem? (i := 99) rfl)) (hw _ (List.mem_of_getElem? (i := 100) rfl)) (by decide) pd_4 [(.ref d), (.int 34)] [(.ref a)] rfl rfl (W := 1) rfl (by decide) (by decide) (by decide) (by decide) (rs_copyOf_16 l Z a0 hw cs Sc hcs d k_d h0 O A_d) rfl rs_ensure_16_d32 (pc' := 35) rfl ?_
  rintro _ h10 L10 ⟨b10r, k_b10r, rfl, N10', K10, z10_b10r, A10_b10r⟩
  have N10 := Fr.app N N10'
  have O10 := O.keep K10 all0
  have P10 := P.trans K10 all0
  have X10_a := X_a.keep K10
  have F10_a_value := F_a_value.keep K10 nin0
  have F10_a_coder := F_a_coder.keep K10 nin0
  have F10_a_count := F_a_count.keep K10 nin0
  have A10_d := A_d.keep K10 nin0
  have ge10_b10r : Z.heap.size ≤ b10r := Nat.le_trans O.2.1 z10_b10r
  have sz10_b10r : h0.size ≤ b10r := Nat.le_trans P.1 z10_b10r
  have ne10_a_b10r : a ≠ b10r := Nat.ne_of_lt (Nat.lt_of_lt_of_le lt10_a z10_b10r)
  have ne10_d_b10r : d ≠ b10r := Nat.ne_of_lt (Nat.lt_of_lt_of_le lt10_d z10_b10r)
  show Wk p l e _ _ m _ below meth c _ _ _ _ _ _ (mkF m 35 #[.val (.ref a), .val (.int 30), .val (.int 16)] [(.ref b10r), (.ref a)])
  refine putF_ C (hw _ (List.mem_of_getElem? (i := 47) rfl)) Via.refl F10_a_value X10_a (Or.inl (hw _ (List.mem_of_getElem? (i := 48) rfl))) (hw _ (List.mem_of_getElem? (i := 32) rfl)) (ty := (.array .byte)) (by decide) rfl rfl rs_ensure_16_d35 (pc' := 38) rfl ?_
  intro h11 W11
  have O11 := O10.wr W11 ge_a
  have N11 := Fr.put (i := Jvm.RoadKit.slotOf Z "java/lang/AbstractStringBuilder" "value" "[B") N10 ge_a
  have P11 := P10.wr W11 (Or.inl (List.mem_of_getElem? (i := 0) rfl))
  have X11_a := X10_a.wr W11
  have F11_a_value := F10_a_value.same W11
  have F11_a_coder := F10_a_coder.other W11 (Or.inr (slot_ne (Or.inl (hw _ (List.mem_of_getElem? (i := 50) rfl))) (Or.inl (hw _ (List.mem_of_getElem? (i := 48) rfl))) (by decide) (t := .byte) (t' := (.array .byte)) (by decide) (by decide)))
  have F11_a_count := F10_a_count.other W11 (Or.inr (slot_ne (Or.inl (hw _ (List.mem_of_getElem? (i := 76) rfl))) (Or.inl (hw _ (List.mem_of_getElem? (i := 48) rfl))) (by decide) (t := .int) (t' := (.array .byte)) (by decide) (by decide)))
  have A11_d := A10_d.other W11 (Ne.symm ne_a_d)
  have A11_b10r := A10_b10r.other W11 (Ne.symm ne10_a_b10r)
  exact ret_V C rs_ensure_16_d38 rfl (by decide) (by decide) ⟨b10r, k_b10r, rfl, N11, P11, X11_a, F11_a_value, F11_a_coder, F11_a_count, sz10_b10r, A11_b10r⟩
abbrev V4 : List Value := [.int 97, .int 32, .int 110, .int 117, .int 109, .int 98, .int 101, .int 114, .int 32, .int 111, .int 102, .int 32, .int 115, .int 104, .int 97, .int 114, .int 101, .int 115, .int 32, .int 111, .int 102, .int 32, .int 97, .int 116, .int 32, .int 109, .int 111, .int 115, .int 116, .int 32, .int 49, .int 48, .int 0, .int 0]
theorem rs_newCapacity_34_d0 : decode jdk_68_method_10_code 0 = .ok (.aload_n 0, 1) := by decide +kernel
theorem rs_newCapacity_34_d1 : decode jdk_68_method_10_code 1 = .ok (.getfield 15, 3) := by decide +kernel
theorem rs_newCapacity_34_d4 : decode jdk_68_method_10_code 4 = .ok (.arraylength, 1) := by decide +kernel
theorem rs_newCapacity_34_d5 : decode jdk_68_method_10_code 5 = .ok (.istore_n 2, 1) := by decide +kernel
theorem rs_newCapacity_34_d6 : decode jdk_68_method_10_code 6 = .ok (.iload_n 1, 1) := by decide +kernel
theorem rs_newCapacity_34_d7 : decode jdk_68_method_10_code 7 = .ok (.aload_n 0, 1) := by decide +kernel
theorem rs_newCapacity_34_d8 : decode jdk_68_method_10_code 8 = .ok (.getfield 22, 3) := by decide +kernel
theorem rs_newCapacity_34_d11 : decode jdk_68_method_10_code 11 = .ok (.ishl, 1) := by decide +kernel
theorem rs_newCapacity_34_d12 : decode jdk_68_method_10_code 12 = .ok (.istore_n 3, 1) := by decide +kernel
theorem rs_newCapacity_34_d13 : decode jdk_68_method_10_code 13 = .ok (.iload_n 3, 1) := by decide +kernel
theorem rs_newCapacity_34_d14 : decode jdk_68_method_10_code 14 = .ok (.iload_n 2, 1) := by decide +kernel
theorem rs_newCapacity_34_d15 : decode jdk_68_method_10_code 15 = .ok (.isub, 1) := by decide +kernel
theorem rs_newCapacity_34_d16 : decode jdk_68_method_10_code 16 = .ok (.istore 4, 2) := by decide +kernel
theorem rs_newCapacity_34_d18 : decode jdk_68_method_10_code 18 = .ok (.iload_n 2, 1) := by decide +kernel
theorem rs_newCapacity_34_d19 : decode jdk_68_method_10_code 19 = .ok (.iload 4, 2) := by decide +kernel
theorem rs_newCapacity_34_d21 : decode jdk_68_method_10_code 21 = .ok (.iload_n 2, 1) := by decide +kernel
theorem rs_newCapacity_34_d22 : decode jdk_68_method_10_code 22 = .ok (.iconst 2, 1) := by decide +kernel
theorem rs_newCapacity_34_d23 : decode jdk_68_method_10_code 23 = .ok (.aload_n 0, 1) := by decide +kernel
theorem rs_newCapacity_34_d24 : decode jdk_68_method_10_code 24 = .ok (.getfield 22, 3) := by decide +kernel
theorem rs_newCapacity_34_d27 : decode jdk_68_method_10_code 27 = .ok (.ishl, 1) := by decide +kernel
theorem rs_newCapacity_34_d28 : decode jdk_68_method_10_code 28 = .ok (.iadd, 1) := by decide +kernel
theorem rs_newCapacity_34_d29 : decode jdk_68_method_10_code 29 = .ok (.invokestatic 114, 3) := by decide +kernel
theorem rs_newCapacity_34_d32 : decode jdk_68_method_10_code 32 = .ok (.istore 5, 2) := by decide +kernel
theorem rs_newCapacity_34_d34 : decode jdk_68_method_10_code 34 = .ok (.iload 5, 2) := by decide +kernel
theorem rs_newCapacity_34_d36 : decode jdk_68_method_10_code 36 = .ok (.ldc 39, 2) := by decide +kernel
theorem rs_newCapacity_34_d38 : decode jdk_68_method_10_code 38 = .ok (.if_icmp .ne 13, 3) := by decide +kernel
theorem rs_newCapacity_34_d51 : decode jdk_68_method_10_code 51 = .ok (.iload 5, 2) := by decide +kernel
theorem rs_newCapacity_34_d53 : decode jdk_68_method_10_code 53 = .ok (.aload_n 0, 1) := by decide +kernel
theorem rs_newCapacity_34_d54 : decode jdk_68_method_10_code 54 = .ok (.getfield 22, 3) := by decide +kernel
theorem rs_newCapacity_34_d57 : decode jdk_68_method_10_code 57 = .ok (.ishr, 1) := by decide +kernel
theorem rs_newCapacity_34_d58 : decode jdk_68_method_10_code 58 = .ok (.ireturn, 1) := by decide +kernel
set_option maxRecDepth 65536 in
set_option maxHeartbeats 40000000 in
theorem rs_newCapacity_34 (l : Launch) (Z : State) (a0 : Array Value) (hw : ∀ d ∈ tables_1, d.before a0 Z = true) (cs : Int32) (Sc : Sta Z Z.heap "java/lang/String" "COMPACT_STRINGS" "Z" (.int cs)) (hcs : ¬ cs = 0) (a : Addr) (d : Addr) (k_d : ClassId) (h0 : Heap) (O : Old Z Z.heap.size h0) (X_a : Exa Z h0 a "java/lang/StringBuilder") (F_a_value : Fld Z h0 a "java/lang/AbstractStringBuilder" "value" "[B" (.ref d)) (F_a_coder : Fld Z h0 a "java/lang/AbstractStringBuilder" "coder" "B" (.int 0)) (F_a_count : Fld Z h0 a "java/lang/AbstractStringBuilder" "count" "I" (.int 32)) (A_d : Arv Z h0 d k_d .byte 34 V4 (.int 0)) :
    Met0 l Z (⟨"java/lang/AbstractStringBuilder", "newCapacity", "(I)I"⟩ : MethodName) [] jdk_68_method_10_code 6 (some .int) ({ frames := 2, cells := 0, slots := 0, locals := 29 } : Room) #[(.ref a), (.int 47)] h0 (fun v h L => v = some (.int 70) ∧ h0 = h ∧ L = []) := by
  have N := Fr.nil Z.heap.size
  have P := Keep.refl h0 []
  refine Met0.of_walk (plainFor_of_name pn_java_lang_AbstractStringBuilder) (Ls := #[.val (.ref a), .val (.int 47), .unset, .unset, .unset, .unset]) (fun m => by first | rfl | (simp [entryFrame, mkF, argsToLocals, Value.category]; done)) ?_
  intro p e s m below meth c C
  refine aloadN C rs_newCapacity_34_d0 (pc' := 1) rfl rfl rfl ?_
  refine getF_ C (hw _ (List.mem_of_getElem? (i := 47) rfl)) Via.refl F_a_value rs_newCapacity_34_d1 (pc' := 4) rfl ?_
  refine alen_ C A_d rs_newCapacity_34_d4 (pc' := 5) rfl ?_
  refine istoreN C rs_newCapacity_34_d5 (pc' := 6) rfl (Ls' := #[.val (.ref a), .val (.int 47), .val (.int 34), .unset, .unset, .unset]) rfl ?_
  refine iloadN C rs_newCapacity_34_d6 (pc' := 7) rfl rfl ?_
  refine aloadN C rs_newCapacity_34_d7 (pc' := 8) rfl rfl rfl ?_
  refine getF_ C (hw _ (List.mem_of_getElem? (i := 49) rfl)) Via.refl F_a_coder rs_newCapacity_34_d8 (pc' := 11) rfl ?_
  refine ishl C rs_newCapacity_34_d11 (pc' := 12) rfl ?_
  show Wk p l e _ _ m _ below meth c _ _ _ _ _ _ (mkF m 12 #[.val (.ref a), .val (.int 47), .val (.int 34), .unset, .unset, .unset] [(.int 47)])
  refine istoreN C rs_newCapacity_34_d12 (pc' := 13) rfl (Ls' := #[.val (.ref a), .val (.int 47), .val (.int 34), .val (.int 47), .unset, .unset]) rfl ?_
  refine iloadN C rs_newCapacity_34_d13 (pc' := 14) rfl rfl ?_
  refine iloadN C rs_newCapacity_34_d14 (pc' := 15) rfl rfl ?_
  refine isub C rs_newCapacity_34_d15 (pc' := 16) rfl ?_
  show Wk p l e _ _ m _ below meth c _ _ _ _ _ _ (mkF m 16 #[.val (.ref a), .val (.int 47), .val (.int 34), .val (.int 47), .unset, .unset] [(.int 13)])
  refine istore C rs_newCapacity_34_d16 (pc' := 18) rfl (Ls' := #[.val (.ref a), .val (.int 47), .val (.int 34), .val (.int 47), .val (.int 13), .unset]) rfl ?_
  refine iloadN C rs_newCapacity_34_d18 (pc' := 19) rfl rfl ?_
  refine iload C rs_newCapacity_34_d19 (pc' := 21) rfl rfl ?_
  refine iloadN C rs_newCapacity_34_d21 (pc' := 22) rfl rfl ?_
  refine iconst C rs_newCapacity_34_d22 (pc' := 23) rfl (v := 2) rfl ?_
  refine aloadN C rs_newCapacity_34_d23 (pc' := 24) rfl rfl rfl ?_
  refine getF_ C (hw _ (List.mem_of_getElem? (i := 49) rfl)) Via.refl F_a_coder rs_newCapacity_34_d24 (pc' := 27) rfl ?_
  refine ishl C rs_newCapacity_34_d27 (pc' := 28) rfl ?_
  show Wk p l e _ _ m _ below meth c _ _ _ _ _ _ (mkF m 28 #[.val (.ref a), .val (.int 47), .val (.int 34), .val (.int 47), .val (.int 13), .unset] [(.int 2), (.int 34), (.int 13), (.int 34)])
  refine iadd C rs_newCapacity_34_d28 (pc' := 29) rfl ?_
  show Wk p l e _ _ m _ below meth c _ _ _ _ _ _ (mkF m 29 #[.val (.ref a), .val (.int 47), .val (.int 34), .val (.int 47), .val (.int 13), .unset] [(.int 36), (.int 13), (.int 34)])
  refine callS_ C (y := (⟨"jdk/internal/util/ArraysSupport", "newLength", "(III)I"⟩ : MethodName)) (hw _ (List.mem_of_getElem? (i := 87) rfl)) (hw _ (List.mem_of_getElem? (i := 88) rfl)) (hw _ (List.mem_of_getElem? (i := 89) rfl)) (hw _ (List.mem_of_getElem? (i := 90) rfl)) (by decide) pd_2 [(.int 34), (.int 13), (.int 36)] [] rfl rfl (W := 0) rfl (by decide) (by decide) (by decide) (by decide) (rs_newLength_34 l Z a0 hw cs Sc hcs  h0 O ) rfl rs_newCapacity_34_d29 (pc' := 32) rfl ?_
  rintro _ _ _ ⟨rfl, rfl, rfl⟩
  show Wk p l e _ _ m _ below meth c _ _ _ _ _ _ (mkF m 32 #[.val (.ref a), .val (.int 47), .val (.int 34), .val (.int 47), .val (.int 13), .unset] [(.int 70)])
  rw [List.append_nil]
  refine istore C rs_newCapacity_34_d32 (pc' := 34) rfl (Ls' := #[.val (.ref a), .val (.int 47), .val (.int 34), .val (.int 47), .val (.int 13), .val (.int 70)]) rfl ?_
  refine iload C rs_newCapacity_34_d34 (pc' := 36) rfl rfl ?_
  refine ldcInt C (hw _ (List.mem_of_getElem? (i := 96) rfl)) rs_newCapacity_34_d36 (pc' := 38) rfl ?_
  refine icmp_ne C 51 41 rs_newCapacity_34_d38 (by decide) rfl rfl (fun q38 => ?_) (fun q38 => ?_)
  · skip
    refine iload C rs_newCapacity_34_d51 (pc' := 53) rfl rfl ?_
    refine aloadN C rs_newCapacity_34_d53 (pc' := 54) rfl rfl rfl ?_
    refine getF_ C (hw _ (List.mem_of_getElem? (i := 49) rfl)) Via.refl F_a_coder rs_newCapacity_34_d54 (pc' := 57) rfl ?_
    refine ishr C rs_newCapacity_34_d57 (pc' := 58) rfl ?_
    show Wk p l e _ _ m _ below meth c _ _ _ _ _ _ (mkF m 58 #[.val (.ref a), .val (.int 47), .val (.int 34), .val (.int 47), .val (.int 13), .val (.int 70)] [(.int 70)])
    exact ret_I C rs_newCapacity_34_d58 rfl (by decide) (by decide) ⟨rfl, rfl, rfl⟩
  · exact absurd q38 (by decide)
abbrev V5 : List Value := [.int 97, .int 32, .int 110, .int 117, .int 109, .int 98, .int 101, .int 114, .int 32, .int 111, .int 102, .int 32, .int 115, .int 104, .int 97, .int 114, .int 101, .int 115, .int 32, .int 111, .int 102, .int 32, .int 97, .int 116, .int 32, .int 109, .int 111, .int 115, .int 116, .int 32, .int 49, .int 48, .int 0, .int 0, .int 0, .int 0, .int 0, .int 0, .int 0, .int 0, .int 0, .int 0, .int 0, .int 0, .int 0, .int 0, .int 0, .int 0, .int 0, .int 0, .int 0, .int 0, .int 0, .int 0, .int 0, .int 0, .int 0, .int 0, .int 0, .int 0, .int 0, .int 0, .int 0, .int 0, .int 0, .int 0, .int 0, .int 0, .int 0, .int 0]
abbrev V6 : List Value := [.int 0, .int 0, .int 0, .int 0, .int 0, .int 0, .int 0, .int 0, .int 0, .int 0, .int 0, .int 0, .int 0, .int 0, .int 0, .int 0, .int 0, .int 0, .int 0, .int 0, .int 0, .int 0, .int 0, .int 0, .int 0, .int 0, .int 0, .int 0, .int 0, .int 0, .int 0, .int 0, .int 0, .int 0, .int 0, .int 0, .int 0, .int 0, .int 0, .int 0, .int 0, .int 0, .int 0, .int 0, .int 0, .int 0, .int 0, .int 0, .int 0, .int 0, .int 0, .int 0, .int 0, .int 0, .int 0, .int 0, .int 0, .int 0, .int 0, .int 0, .int 0, .int 0, .int 0, .int 0, .int 0, .int 0, .int 0, .int 0, .int 0, .int 0]
theorem rs_copyOf_34_d0 : decode jdk_65_method_121_code 0 = .ok (.iload_n 1, 1) := by decide +kernel
theorem rs_copyOf_34_d1 : decode jdk_65_method_121_code 1 = .ok (.aload_n 0, 1) := by decide +kernel
theorem rs_copyOf_34_d2 : decode jdk_65_method_121_code 2 = .ok (.arraylength, 1) := by decide +kernel
theorem rs_copyOf_34_d3 : decode jdk_65_method_121_code 3 = .ok (.if_icmp .ne 11, 3) := by decide +kernel
theorem rs_copyOf_34_d14 : decode jdk_65_method_121_code 14 = .ok (.iload_n 1, 1) := by decide +kernel
theorem rs_copyOf_34_d15 : decode jdk_65_method_121_code 15 = .ok (.newarray .byte, 2) := by decide +kernel
theorem rs_copyOf_34_d17 : decode jdk_65_method_121_code 17 = .ok (.astore_n 2, 1) := by decide +kernel
theorem rs_copyOf_34_d18 : decode jdk_65_method_121_code 18 = .ok (.aload_n 0, 1) := by decide +kernel
theorem rs_copyOf_34_d19 : decode jdk_65_method_121_code 19 = .ok (.iconst 0, 1) := by decide +kernel
theorem rs_copyOf_34_d20 : decode jdk_65_method_121_code 20 = .ok (.aload_n 2, 1) := by decide +kernel
theorem rs_copyOf_34_d21 : decode jdk_65_method_121_code 21 = .ok (.iconst 0, 1) := by decide +kernel
theorem rs_copyOf_34_d22 : decode jdk_65_method_121_code 22 = .ok (.aload_n 0, 1) := by decide +kernel
theorem rs_copyOf_34_d23 : decode jdk_65_method_121_code 23 = .ok (.arraylength, 1) := by decide +kernel
theorem rs_copyOf_34_d24 : decode jdk_65_method_121_code 24 = .ok (.iload_n 1, 1) := by decide +kernel
theorem rs_copyOf_34_d25 : decode jdk_65_method_121_code 25 = .ok (.invokestatic 304, 3) := by decide +kernel
theorem rs_copyOf_34_d28 : decode jdk_65_method_121_code 28 = .ok (.invokestatic 150, 3) := by decide +kernel
theorem rs_copyOf_34_d31 : decode jdk_65_method_121_code 31 = .ok (.aload_n 2, 1) := by decide +kernel
theorem rs_copyOf_34_d32 : decode jdk_65_method_121_code 32 = .ok (.areturn, 1) := by decide +kernel
set_option maxRecDepth 65536 in
set_option maxHeartbeats 40000000 in
theorem rs_copyOf_34 (l : Launch) (Z : State) (a0 : Array Value) (hw : ∀ d ∈ tables_1, d.before a0 Z = true) (cs : Int32) (Sc : Sta Z Z.heap "java/lang/String" "COMPACT_STRINGS" "Z" (.int cs)) (hcs : ¬ cs = 0) (d : Addr) (k_d : ClassId) (h0 : Heap) (O : Old Z Z.heap.size h0) (A_d : Arv Z h0 d k_d .byte 34 V4 (.int 0)) :
    Met0 l Z (⟨"java/util/Arrays", "copyOf", "([BI)[B"⟩ : MethodName) [] jdk_65_method_121_code 3 (some (.array .byte)) ({ frames := 1, cells := 1, slots := 70, locals := 18 } : Room) #[(.ref d), (.int 70)] h0 (fun v h L => ∃ (r : Addr) (k_r : ClassId), v = some (.ref r) ∧ Fr Z.heap.size L ∧ Keep h0 h [] ∧ h0.size ≤ r ∧ Arv Z h r k_r .byte 70 V5 (.int 0)) := by
  have N := Fr.nil Z.heap.size
  have P := Keep.refl h0 []
  refine Met0.of_walk (plainFor_of_name pn_java_util_Arrays) (Ls := #[.val (.ref d), .val (.int 70), .unset]) (fun m => by first | rfl | (simp [entryFrame, mkF, argsToLocals, Value.category]; done)) ?_
  intro p e s m below meth c C
  refine iloadN C rs_copyOf_34_d0 (pc' := 1) rfl rfl ?_
  refine aloadN C rs_copyOf_34_d1 (pc' := 2) rfl rfl rfl ?_
  refine alen_ C A_d rs_copyOf_34_d2 (pc' := 3) rfl ?_
  refine icmp_ne C 14 6 rs_copyOf_34_d3 (by decide) rfl rfl (fun q3 => ?_) (fun q3 => ?_)
  · skip
    refine iloadN C rs_copyOf_34_d14 (pc' := 15) rfl rfl ?_
    have lt13_d := A_d.lt
    refine newP_ C (ty := .byte) rfl (hw _ (List.mem_of_getElem? (i := 12) rfl)) rs_copyOf_34_d15 (pc' := 17) rfl (by decide) (cap := 70) (by decide) (by decide) (by decide) (by decide) ?_
    intro h13 k_b13 b13 g13 E13 A13'
    have ge13_b13 : Z.heap.size ≤ b13 := by rw [g13]; exact O.2.1
    have sz13_b13 : h0.size ≤ b13 := by rw [g13]; exact P.1
    have ne13_d_b13 : d ≠ b13 := Nat.ne_of_lt (Nat.lt_of_lt_of_le lt13_d (Nat.le_of_eq g13.symm))
    have A13_b13 : Arv Z h13 b13 k_b13 .byte 70 V6 (.int 0) := A13'.pad (pad_rep [] _ 70)
    have O13 := O.ext E13
    have A13_d := A_d.ext E13
    have P13 := P.ext E13
    refine astoreN C rs_copyOf_34_d17 (pc' := 18) rfl rfl (Ls' := #[.val (.ref d), .val (.int 70), .val (.ref b13)]) rfl ?_
    refine aloadN C rs_copyOf_34_d18 (pc' := 19) rfl rfl rfl ?_
    refine iconst C rs_copyOf_34_d19 (pc' := 20) rfl (v := 0) rfl ?_
    refine aloadN C rs_copyOf_34_d20 (pc' := 21) rfl rfl rfl ?_
    refine iconst C rs_copyOf_34_d21 (pc' := 22) rfl (v := 0) rfl ?_
    refine aloadN C rs_copyOf_34_d22 (pc' := 23) rfl rfl rfl ?_
    refine alen_ C A13_d rs_copyOf_34_d23 (pc' := 24) rfl ?_
    refine iloadN C rs_copyOf_34_d24 (pc' := 25) rfl rfl ?_
    refine callS_ C (y := (⟨"java/lang/Math", "min", "(II)I"⟩ : MethodName)) (hw _ (List.mem_of_getElem? (i := 101) rfl)) (hw _ (List.mem_of_getElem? (i := 102) rfl)) (hw _ (List.mem_of_getElem? (i := 93) rfl)) (hw _ (List.mem_of_getElem? (i := 103) rfl)) (by decide) pd_1 [(.int 34), (.int 70)] [(.int 0), (.ref b13), (.int 0), (.ref d)] rfl rfl (W := 4) rfl (by decide) (by decide) (by decide) (by decide) (rs_min_34_70 l Z a0 hw cs Sc hcs  h13 O13 ) rfl rs_copyOf_34_d25 (pc' := 28) rfl ?_
    rintro _ _ _ ⟨rfl, rfl, rfl⟩
    show Wk p l e _ _ m _ below meth c _ _ _ _ _ _ (mkF m 28 #[.val (.ref d), .val (.int 70), .val (.ref b13)] [(.int 34), (.int 0), (.ref b13), (.int 0), (.ref d)])
    rw [List.append_nil]
    refine cpA_ C (us := V4) (hw _ (List.mem_of_getElem? (i := 104) rfl)) (hw _ (List.mem_of_getElem? (i := 107) rfl)) (hw _ (List.mem_of_getElem? (i := 105) rfl)) (hw _ (List.mem_of_getElem? (i := 106) rfl)) A13_d A13_b13 (by decide) (by decide) (by decide) (by decide) (by decide) (by rfl) (Nat.le_of_ble_eq_true rfl) N ge13_b13 rfl (W := 0) rfl (by decide) (by decide) rs_copyOf_34_d28 (pc' := 31) rfl ?_
    intro h15 L15 N15 K15 A15'
    have A15_b13 : Arv Z h15 b13 k_b13 .byte 70 V5 (.int 0) := A15'
    have O15 := O13.keep K15 (allS ge13_b13 all0)
    have P15 := P13.trans K15 (allS (Or.inr sz13_b13) all0)
    have A15_d := A13_d.keep K15 (ninS ne13_d_b13 nin0)
    refine aloadN C rs_copyOf_34_d31 (pc' := 32) rfl rfl rfl ?_
    exact ret_A C rs_copyOf_34_d32 rfl rfl rfl rfl (by decide) (by decide) ⟨b13, k_b13, rfl, N15, P15, sz13_b13, A15_b13⟩
  · exact absurd q3 (by decide)
theorem rs_ensure_34_d0 : decode jdk_68_method_9_code 0 = .ok (.aload_n 0, 1) := by decide +kernel
theorem rs_ensure_34_d1 : decode jdk_68_method_9_code 1 = .ok (.getfield 15, 3) := by decide +kernel
theorem rs_ensure_34_d4 : decode jdk_68_method_9_code 4 = .ok (.arraylength, 1) := by decide +kernel
theorem rs_ensure_34_d5 : decode jdk_68_method_9_code 5 = .ok (.aload_n 0, 1) := by decide +kernel
theorem rs_ensure_34_d6 : decode jdk_68_method_9_code 6 = .ok (.getfield 22, 3) := by decide +kernel
theorem rs_ensure_34_d9 : decode jdk_68_method_9_code 9 = .ok (.ishr, 1) := by decide +kernel
theorem rs_ensure_34_d10 : decode jdk_68_method_9_code 10 = .ok (.istore_n 2, 1) := by decide +kernel
theorem rs_ensure_34_d11 : decode jdk_68_method_9_code 11 = .ok (.iload_n 1, 1) := by decide +kernel
theorem rs_ensure_34_d12 : decode jdk_68_method_9_code 12 = .ok (.iload_n 2, 1) := by decide +kernel
theorem rs_ensure_34_d13 : decode jdk_68_method_9_code 13 = .ok (.isub, 1) := by decide +kernel
theorem rs_ensure_34_d14 : decode jdk_68_method_9_code 14 = .ok (.ifCond .le 24, 3) := by decide +kernel
theorem rs_ensure_34_d17 : decode jdk_68_method_9_code 17 = .ok (.aload_n 0, 1) := by decide +kernel
theorem rs_ensure_34_d18 : decode jdk_68_method_9_code 18 = .ok (.aload_n 0, 1) := by decide +kernel
theorem rs_ensure_34_d19 : decode jdk_68_method_9_code 19 = .ok (.getfield 15, 3) := by decide +kernel
theorem rs_ensure_34_d22 : decode jdk_68_method_9_code 22 = .ok (.aload_n 0, 1) := by decide +kernel
theorem rs_ensure_34_d23 : decode jdk_68_method_9_code 23 = .ok (.iload_n 1, 1) := by decide +kernel
theorem rs_ensure_34_d24 : decode jdk_68_method_9_code 24 = .ok (.invokevirtual 104, 3) := by decide +kernel
theorem rs_ensure_34_d27 : decode jdk_68_method_9_code 27 = .ok (.aload_n 0, 1) := by decide +kernel
theorem rs_ensure_34_d28 : decode jdk_68_method_9_code 28 = .ok (.getfield 22, 3) := by decide +kernel
theorem rs_ensure_34_d31 : decode jdk_68_method_9_code 31 = .ok (.ishl, 1) := by decide +kernel
theorem rs_ensure_34_d32 : decode jdk_68_method_9_code 32 = .ok (.invokestatic 108, 3) := by decide +kernel
theorem rs_ensure_34_d35 : decode jdk_68_method_9_code 35 = .ok (.putfield 15, 3) := by decide +kernel
theorem rs_ensure_34_d38 : decode jdk_68_method_9_code 38 = .ok (.return_, 1) := by decide +kernel
set_option maxRecDepth 65536 in
set_option maxHeartbeats 40000000 in
theorem rs_ensure_34 (l : Launch) (Z : State) (a0 : Array Value) (hw : ∀ d ∈ tables_1, d.before a0 Z = true) (cs : Int32) (Sc : Sta Z Z.heap "java/lang/String" "COMPACT_STRINGS" "Z" (.int cs)) (hcs : ¬ cs = 0) (a : Addr) (d : Addr) (k_d : ClassId) (h0 : Heap) (O : Old Z Z.heap.size h0) (X_a : Exa Z h0 a "java/lang/StringBuilder") (F_a_value : Fld Z h0 a "java/lang/AbstractStringBuilder" "value" "[B" (.ref d)) (F_a_coder : Fld Z h0 a "java/lang/AbstractStringBuilder" "coder" "B" (.int 0)) (F_a_count : Fld Z h0 a "java/lang/AbstractStringBuilder" "count" "I" (.int 32)) (A_d : Arv Z h0 d k_d .byte 34 V4 (.int 0)) (ge_a : Z.heap.size ≤ a) (ne_a_d : a ≠ d) :
    Met0 l Z (⟨"java/lang/AbstractStringBuilder", "ensureCapacityInternal", "(I)V"⟩ : MethodName) [] jdk_68_method_9_code 3 none ({ frames := 3, cells := 1, slots := 70, locals := 48 } : Room) #[(.ref a), (.int 47)] h0 (fun v h L => ∃ (r : Addr) (k_r : ClassId), v = none ∧ Fr Z.heap.size L ∧ Keep h0 h [a] ∧ Exa Z h a "java/lang/StringBuilder" ∧ Fld Z h a "java/lang/AbstractStringBuilder" "value" "[B" (.ref r) ∧ Fld Z h a "java/lang/AbstractStringBuilder" "coder" "B" (.int 0) ∧ Fld Z h a "java/lang/AbstractStringBuilder" "count" "I" (.int 32) ∧ h0.size ≤ r ∧ Arv Z h r k_r .byte 70 V5 (.int 0)) := by
  have N := Fr.nil Z.heap.size
  have P := Keep.refl h0 [a]
  refine Met0.of_walk (plainFor_of_name pn_java_lang_AbstractStringBuilder) (Ls := #[.val (.ref a), .val (.int 47), .unset]) (fun m => by first | rfl | (simp [entryFrame, mkF, argsToLocals, Value.category]; done)) ?_
  intro p e s m below meth c C
  refine aloadN C rs_ensure_34_d0 (pc' := 1) rfl rfl rfl ?_
  refine getF_ C (hw _ (List.mem_of_getElem? (i := 47) rfl)) Via.refl F_a_value rs_ensure_34_d1 (pc' := 4) rfl ?_
  refine alen_ C A_d rs_ensure_34_d4 (pc' := 5) rfl ?_
  refine aloadN C rs_ensure_34_d5 (pc' := 6) rfl rfl rfl ?_
  refine getF_ C (hw _ (List.mem_of_getElem? (i := 49) rfl)) Via.refl F_a_coder rs_ensure_34_d6 (pc' := 9) rfl ?_
  refine ishr C rs_ensure_34_d9 (pc' := 10) rfl ?_
  show Wk p l e _ _ m _ below meth c _ _ _ _ _ _ (mkF m 10 #[.val (.ref a), .val (.int 47), .unset] [(.int 34)])
  refine istoreN C rs_ensure_34_d10 (pc' := 11) rfl (Ls' := #[.val (.ref a), .val (.int 47), .val (.int 34)]) rfl ?_
  refine iloadN C rs_ensure_34_d11 (pc' := 12) rfl rfl ?_
  refine iloadN C rs_ensure_34_d12 (pc' := 13) rfl rfl ?_
  refine isub C rs_ensure_34_d13 (pc' := 14) rfl ?_
  show Wk p l e _ _ m _ below meth c _ _ _ _ _ _ (mkF m 14 #[.val (.ref a), .val (.int 47), .val (.int 34)] [(.int 13)])
  refine if_le C 38 17 rs_ensure_34_d14 (by decide) rfl rfl (fun q14 => ?_) (fun q14 => ?_)
  · exact absurd q14 (by decide)
  refine aloadN C rs_ensure_34_d17 (pc' := 18) rfl rfl rfl ?_
  refine aloadN C rs_ensure_34_d18 (pc' := 19) rfl rfl rfl ?_
  refine getF_ C (hw _ (List.mem_of_getElem? (i := 47) rfl)) Via.refl F_a_value rs_ensure_34_d19 (pc' := 22) rfl ?_
  refine aloadN C rs_ensure_34_d22 (pc' := 23) rfl rfl rfl ?_
  refine iloadN C rs_ensure_34_d23 (pc' := 24) rfl rfl ?_
  refine callP_ C (y := (⟨"java/lang/AbstractStringBuilder", "newCapacity", "(I)I"⟩ : MethodName)) (zs := (⟨"java/lang/AbstractStringBuilder", "isLatin1", "()Z"⟩ : MethodName)) (hw _ (List.mem_of_getElem? (i := 82) rfl)) (hw _ (List.mem_of_getElem? (i := 83) rfl)) (hw _ (List.mem_of_getElem? (i := 84) rfl)) (hw _ (List.mem_of_getElem? (i := 141) rfl)) rfl (hw _ (List.mem_of_getElem? (i := 41) rfl)) (hw _ (List.mem_of_getElem? (i := 86) rfl)) (by decide) X_a pd_3 [(.int 47)] [(.ref d), (.ref a)] rfl rfl (W := 2) rfl (by decide) (by decide) (by decide) (by decide) (rs_newCapacity_34 l Z a0 hw cs Sc hcs a d k_d h0 O X_a F_a_value F_a_coder F_a_count A_d) rfl rs_ensure_34_d24 (pc' := 27) rfl ?_
  rintro _ _ _ ⟨rfl, rfl, rfl⟩
  show Wk p l e _ _ m _ below meth c _ _ _ _ _ _ (mkF m 27 #[.val (.ref a), .val (.int 47), .val (.int 34)] [(.int 70), (.ref d), (.ref a)])
  rw [List.append_nil]
  refine aloadN C rs_ensure_34_d27 (pc' := 28) rfl rfl rfl ?_
  refine getF_ C (hw _ (List.mem_of_getElem? (i := 49) rfl)) Via.refl F_a_coder rs_ensure_34_d28 (pc' := 31) rfl ?_
  refine ishl C rs_ensure_34_d31 (pc' := 32) rfl ?_
  show Wk p l e _ _ m _ below meth c _ _ _ _ _ _ (mkF m 32 #[.val (.ref a), .val (.int 47), .val (.int 34)] [(.int 70), (.ref d), (.ref a)])
  have lt17_a := X_a.lt
  have lt17_d := A_d.lt
  refine callS_ C (y := (⟨"java/util/Arrays", "copyOf", "([BI)[B"⟩ : MethodName)) (hw _ (List.mem_of_getElem? (i := 97) rfl)) (hw _ (List.mem_of_getElem? (i := 98) rfl)) (hw _ (List.mem_of_getElem? (i := 99) rfl)) (hw _ (List.mem_of_getElem? (i := 100) rfl)) (by decide) pd_4 [(.ref d), (.int 70)] [(.ref a)] rfl rfl (W := 1) rfl (by decide) (by decide) (by decide) (by decide) (rs_copyOf_34 l Z a0 hw cs Sc hcs d k_d h0 O A_d) rfl rs_ensure_34_d32 (pc' := 35) rfl ?_
  rintro _ h17 L17 ⟨b17r, k_b17r, rfl, N17', K17, z17_b17r, A17_b17r⟩
  have N17 := Fr.app N N17'
  have O17 := O.keep K17 all0
  have P17 := P.trans K17 all0
  have X17_a := X_a.keep K17
  have F17_a_value := F_a_value.keep K17 nin0
  have F17_a_coder := F_a_coder.keep K17 nin0
  have F17_a_count := F_a_count.keep K17 nin0
  have A17_d := A_d.keep K17 nin0
  have ge17_b17r : Z.heap.size ≤ b17r := Nat.le_trans O.2.1 z17_b17r
  have sz17_b17r : h0.size ≤ b17r := Nat.le_trans P.1 z17_b17r
  have ne17_a_b17r : a ≠ b17r := Nat.ne_of_lt (Nat.lt_of_lt_of_le lt17_a z17_b17r)
  have ne17_d_b17r : d ≠ b17r := Nat.ne_of_lt (Nat.lt_of_lt_of_le lt17_d z17_b17r)
  show Wk p l e _ _ m _ below meth c _ _ _ _ _ _ (mkF m 35 #[.val (.ref a), .val (.int 47), .val (.int 34)] [(.ref b17r), (.ref a)])
  refine putF_ C (hw _ (List.mem_of_getElem? (i := 47) rfl)) Via.refl F17_a_value X17_a (Or.inl (hw _ (List.mem_of_getElem? (i := 48) rfl))) (hw _ (List.mem_of_getElem? (i := 32) rfl)) (ty := (.array .byte)) (by decide) rfl rfl rs_ensure_34_d35 (pc' := 38) rfl ?_
  intro h18 W18
  have O18 := O17.wr W18 ge_a
  have N18 := Fr.put (i := Jvm.RoadKit.slotOf Z "java/lang/AbstractStringBuilder" "value" "[B") N17 ge_a
  have P18 := P17.wr W18 (Or.inl (List.mem_of_getElem? (i := 0) rfl))
  have X18_a := X17_a.wr W18
  have F18_a_value := F17_a_value.same W18
  have F18_a_coder := F17_a_coder.other W18 (Or.inr (slot_ne (Or.inl (hw _ (List.mem_of_getElem? (i := 50) rfl))) (Or.inl (hw _ (List.mem_of_getElem? (i := 48) rfl))) (by decide) (t := .byte) (t' := (.array .byte)) (by decide) (by decide)))
  have F18_a_count := F17_a_count.other W18 (Or.inr (slot_ne (Or.inl (hw _ (List.mem_of_getElem? (i := 76) rfl))) (Or.inl (hw _ (List.mem_of_getElem? (i := 48) rfl))) (by decide) (t := .int) (t' := (.array .byte)) (by decide) (by decide)))
  have A18_d := A17_d.other W18 (Ne.symm ne_a_d)
  have A18_b17r := A17_b17r.other W18 (Ne.symm ne17_a_b17r)
  exact ret_V C rs_ensure_34_d38 rfl (by decide) (by decide) ⟨b17r, k_b17r, rfl, N18, P18, X18_a, F18_a_value, F18_a_coder, F18_a_count, sz17_b17r, A18_b17r⟩
abbrev V7 : List Value := [.int 97, .int 32, .int 110, .int 117, .int 109, .int 98, .int 101, .int 114, .int 32, .int 111, .int 102, .int 32, .int 115, .int 104, .int 97, .int 114, .int 101, .int 115, .int 32, .int 111, .int 102, .int 32, .int 97, .int 116, .int 32, .int 109, .int 111, .int 115, .int 116, .int 32, .int 0, .int 0, .int 0, .int 0]
theorem rs_ensure_no_d0 : decode jdk_68_method_9_code 0 = .ok (.aload_n 0, 1) := by decide +kernel
theorem rs_ensure_no_d1 : decode jdk_68_method_9_code 1 = .ok (.getfield 15, 3) := by decide +kernel
theorem rs_ensure_no_d4 : decode jdk_68_method_9_code 4 = .ok (.arraylength, 1) := by decide +kernel
theorem rs_ensure_no_d5 : decode jdk_68_method_9_code 5 = .ok (.aload_n 0, 1) := by decide +kernel
theorem rs_ensure_no_d6 : decode jdk_68_method_9_code 6 = .ok (.getfield 22, 3) := by decide +kernel
theorem rs_ensure_no_d9 : decode jdk_68_method_9_code 9 = .ok (.ishr, 1) := by decide +kernel
theorem rs_ensure_no_d10 : decode jdk_68_method_9_code 10 = .ok (.istore_n 2, 1) := by decide +kernel
theorem rs_ensure_no_d11 : decode jdk_68_method_9_code 11 = .ok (.iload_n 1, 1) := by decide +kernel
theorem rs_ensure_no_d12 : decode jdk_68_method_9_code 12 = .ok (.iload_n 2, 1) := by decide +kernel
theorem rs_ensure_no_d13 : decode jdk_68_method_9_code 13 = .ok (.isub, 1) := by decide +kernel
theorem rs_ensure_no_d14 : decode jdk_68_method_9_code 14 = .ok (.ifCond .le 24, 3) := by decide +kernel
theorem rs_ensure_no_d38 : decode jdk_68_method_9_code 38 = .ok (.return_, 1) := by decide +kernel
set_option maxRecDepth 65536 in
set_option maxHeartbeats 40000000 in
theorem rs_ensure_no (l : Launch) (Z : State) (a0 : Array Value) (hw : ∀ d ∈ tables_1, d.before a0 Z = true) (cs : Int32) (Sc : Sta Z Z.heap "java/lang/String" "COMPACT_STRINGS" "Z" (.int cs)) (hcs : ¬ cs = 0) (a : Addr) (d : Addr) (k_d : ClassId) (h0 : Heap) (O : Old Z Z.heap.size h0) (X_a : Exa Z h0 a "java/lang/StringBuilder") (F_a_value : Fld Z h0 a "java/lang/AbstractStringBuilder" "value" "[B" (.ref d)) (F_a_coder : Fld Z h0 a "java/lang/AbstractStringBuilder" "coder" "B" (.int 0)) (F_a_count : Fld Z h0 a "java/lang/AbstractStringBuilder" "count" "I" (.int 30)) (A_d : Arv Z h0 d k_d .byte 34 V7 (.int 0)) :
    Met0 l Z (⟨"java/lang/AbstractStringBuilder", "ensureCapacityInternal", "(I)V"⟩ : MethodName) [] jdk_68_method_9_code 3 none ({ frames := 0, cells := 0, slots := 0, locals := 0 } : Room) #[(.ref a), (.int 32)] h0 (fun v h L => v = none ∧ h0 = h ∧ L = []) := by
  have N := Fr.nil Z.heap.size
  have P := Keep.refl h0 []
  refine Met0.of_walk (plainFor_of_name pn_java_lang_AbstractStringBuilder) (Ls := #[.val (.ref a), .val (.int 32), .unset]) (fun m => by first | rfl | (simp [entryFrame, mkF, argsToLocals, Value.category]; done)) ?_
  intro p e s m below meth c C
  refine aloadN C rs_ensure_no_d0 (pc' := 1) rfl rfl rfl ?_
  refine getF_ C (hw _ (List.mem_of_getElem? (i := 47) rfl)) Via.refl F_a_value rs_ensure_no_d1 (pc' := 4) rfl ?_
  refine alen_ C A_d rs_ensure_no_d4 (pc' := 5) rfl ?_
  refine aloadN C rs_ensure_no_d5 (pc' := 6) rfl rfl rfl ?_
  refine getF_ C (hw _ (List.mem_of_getElem? (i := 49) rfl)) Via.refl F_a_coder rs_ensure_no_d6 (pc' := 9) rfl ?_
  refine ishr C rs_ensure_no_d9 (pc' := 10) rfl ?_
  show Wk p l e _ _ m _ below meth c _ _ _ _ _ _ (mkF m 10 #[.val (.ref a), .val (.int 32), .unset] [(.int 34)])
  refine istoreN C rs_ensure_no_d10 (pc' := 11) rfl (Ls' := #[.val (.ref a), .val (.int 32), .val (.int 34)]) rfl ?_
  refine iloadN C rs_ensure_no_d11 (pc' := 12) rfl rfl ?_
  refine iloadN C rs_ensure_no_d12 (pc' := 13) rfl rfl ?_
  refine isub C rs_ensure_no_d13 (pc' := 14) rfl ?_
  show Wk p l e _ _ m _ below meth c _ _ _ _ _ _ (mkF m 14 #[.val (.ref a), .val (.int 32), .val (.int 34)] [(.int (-2))])
  refine if_le C 38 17 rs_ensure_no_d14 (by decide) rfl rfl (fun q14 => ?_) (fun q14 => ?_)
  · skip
    exact ret_V C rs_ensure_no_d38 rfl (by decide) (by decide) ⟨rfl, rfl, rfl⟩
  · exact absurd q14 (by decide)
theorem rs_inflate_d0 : decode jdk_68_method_71_code 0 = .ok (.getstatic 18, 3) := by decide +kernel
theorem rs_inflate_d3 : decode jdk_68_method_71_code 3 = .ok (.ifCond .eq 18, 3) := by decide +kernel
theorem rs_inflate_d6 : decode jdk_68_method_71_code 6 = .ok (.aload_n 0, 1) := by decide +kernel
theorem rs_inflate_d7 : decode jdk_68_method_71_code 7 = .ok (.getfield 22, 3) := by decide +kernel
theorem rs_inflate_d10 : decode jdk_68_method_71_code 10 = .ok (.aload_n 1, 1) := by decide +kernel
theorem rs_inflate_d11 : decode jdk_68_method_71_code 11 = .ok (.invokevirtual 40, 3) := by decide +kernel
theorem rs_inflate_d14 : decode jdk_68_method_71_code 14 = .ok (.if_icmp .eq 7, 3) := by decide +kernel
theorem rs_inflate_d21 : decode jdk_68_method_71_code 21 = .ok (.return_, 1) := by decide +kernel
set_option maxRecDepth 65536 in
set_option maxHeartbeats 40000000 in
theorem rs_inflate (l : Launch) (Z : State) (a0 : Array Value) (hw : ∀ d ∈ tables_1, d.before a0 Z = true) (cs : Int32) (Sc : Sta Z Z.heap "java/lang/String" "COMPACT_STRINGS" "Z" (.int cs)) (hcs : ¬ cs = 0) (a : Addr) (b : Addr) (h0 : Heap) (O : Old Z Z.heap.size h0) (X_a : Exa Z h0 a "java/lang/StringBuilder") (F_a_coder : Fld Z h0 a "java/lang/AbstractStringBuilder" "coder" "B" (.int 0)) (X_b : Exa Z h0 b "java/lang/String") (F_b_coder : Fld Z h0 b "java/lang/String" "coder" "B" (.int 0)) :
    Met0 l Z (⟨"java/lang/AbstractStringBuilder", "inflateIfNeededFor", "(Ljava/lang/String;)V"⟩ : MethodName) [] jdk_68_method_71_code 2 none ({ frames := 1, cells := 0, slots := 0, locals := 13 } : Room) #[(.ref a), (.ref b)] h0 (fun v h L => v = none ∧ h0 = h ∧ L = []) := by
  have N := Fr.nil Z.heap.size
  have P := Keep.refl h0 []
  refine Met0.of_walk (plainFor_of_name pn_java_lang_AbstractStringBuilder) (Ls := #[.val (.ref a), .val (.ref b)]) (fun m => by first | rfl | (simp [entryFrame, mkF, argsToLocals, Value.category]; done)) ?_
  intro p e s m below meth c C
  refine getS_ C (hw _ (List.mem_of_getElem? (i := 46) rfl)) (Sc.ext O.2) rs_inflate_d0 (pc' := 3) rfl ?_
  refine if_eq C 21 6 rs_inflate_d3 (by decide) rfl rfl (fun q3 => ?_) (fun q3 => ?_)
  · exact absurd q3 hcs
  refine aloadN C rs_inflate_d6 (pc' := 7) rfl rfl rfl ?_
  refine getF_ C (hw _ (List.mem_of_getElem? (i := 49) rfl)) Via.refl F_a_coder rs_inflate_d7 (pc' := 10) rfl ?_
  refine aloadN C rs_inflate_d10 (pc' := 11) rfl rfl rfl ?_
  refine callV_ C (y := (⟨"java/lang/String", "coder", "()B"⟩ : MethodName)) (z := (⟨"java/lang/String", "coder", "()B"⟩ : MethodName)) (hw _ (List.mem_of_getElem? (i := 118) rfl)) (hw _ (List.mem_of_getElem? (i := 69) rfl)) (nf_sel (hw _ (List.mem_of_getElem? (i := 71) rfl))) (hw _ (List.mem_of_getElem? (i := 71) rfl)) (hw _ (List.mem_of_getElem? (i := 70) rfl)) (hw _ (List.mem_of_getElem? (i := 10) rfl)) (hw _ (List.mem_of_getElem? (i := 72) rfl)) (by decide) X_b pd_0 [] [(.int 0)] rfl rfl (W := 1) rfl (by decide) (by decide) (by decide) (by decide) (rs_coder l Z a0 hw cs Sc hcs b h0 O X_b F_b_coder) rfl rs_inflate_d11 (pc' := 14) rfl ?_
  rintro _ _ _ ⟨rfl, rfl, rfl⟩
  show Wk p l e _ _ m _ below meth c _ _ _ _ _ _ (mkF m 14 #[.val (.ref a), .val (.ref b)] [(.int 0), (.int 0)])
  rw [List.append_nil]
  refine icmp_eq C 21 17 rs_inflate_d14 (by decide) rfl rfl (fun q14 => ?_) (fun q14 => ?_)
  · skip
    exact ret_V C rs_inflate_d21 rfl (by decide) (by decide) ⟨rfl, rfl, rfl⟩
  · exact absurd q14 (by decide)
theorem rs_getBytes_30_d0 : decode jdk_42_method_147_code 0 = .ok (.aload_n 0, 1) := by decide +kernel
theorem rs_getBytes_30_d1 : decode jdk_42_method_147_code 1 = .ok (.invokevirtual 335, 3) := by decide +kernel
theorem rs_getBytes_30_d4 : decode jdk_42_method_147_code 4 = .ok (.iload_n 3, 1) := by decide +kernel
theorem rs_getBytes_30_d5 : decode jdk_42_method_147_code 5 = .ok (.if_icmp .ne 23, 3) := by decide +kernel
theorem rs_getBytes_30_d8 : decode jdk_42_method_147_code 8 = .ok (.aload_n 0, 1) := by decide +kernel
theorem rs_getBytes_30_d9 : decode jdk_42_method_147_code 9 = .ok (.getfield 9, 3) := by decide +kernel
theorem rs_getBytes_30_d12 : decode jdk_42_method_147_code 12 = .ok (.iconst 0, 1) := by decide +kernel
theorem rs_getBytes_30_d13 : decode jdk_42_method_147_code 13 = .ok (.aload_n 1, 1) := by decide +kernel
theorem rs_getBytes_30_d14 : decode jdk_42_method_147_code 14 = .ok (.iload_n 2, 1) := by decide +kernel
theorem rs_getBytes_30_d15 : decode jdk_42_method_147_code 15 = .ok (.iload_n 3, 1) := by decide +kernel
theorem rs_getBytes_30_d16 : decode jdk_42_method_147_code 16 = .ok (.ishl, 1) := by decide +kernel
theorem rs_getBytes_30_d17 : decode jdk_42_method_147_code 17 = .ok (.aload_n 0, 1) := by decide +kernel
theorem rs_getBytes_30_d18 : decode jdk_42_method_147_code 18 = .ok (.getfield 9, 3) := by decide +kernel
theorem rs_getBytes_30_d21 : decode jdk_42_method_147_code 21 = .ok (.arraylength, 1) := by decide +kernel
theorem rs_getBytes_30_d22 : decode jdk_42_method_147_code 22 = .ok (.invokestatic 212, 3) := by decide +kernel
theorem rs_getBytes_30_d25 : decode jdk_42_method_147_code 25 = .ok (.goto 18, 3) := by decide +kernel
theorem rs_getBytes_30_d43 : decode jdk_42_method_147_code 43 = .ok (.return_, 1) := by decide +kernel
set_option maxRecDepth 65536 in
set_option maxHeartbeats 40000000 in
theorem rs_getBytes_30 (l : Launch) (Z : State) (a0 : Array Value) (hw : ∀ d ∈ tables_1, d.before a0 Z = true) (cs : Int32) (Sc : Sta Z Z.heap "java/lang/String" "COMPACT_STRINGS" "Z" (.int cs)) (hcs : ¬ cs = 0) (a : Addr) (d : Addr) (k_d : ClassId) (e1 : Addr) (k_e1 : ClassId) (h0 : Heap) (O : Old Z Z.heap.size h0) (X_a : Exa Z h0 a "java/lang/String") (F_a_value : Fld Z h0 a "java/lang/String" "value" "[B" (.ref d)) (F_a_coder : Fld Z h0 a "java/lang/String" "coder" "B" (.int 0)) (A_d : Arv Z h0 d k_d .byte 30 V0 (.int 0)) (A_e1 : Arv Z h0 e1 k_e1 .byte 34 V3 (.int 0)) (ge_e1 : Z.heap.size ≤ e1) (ne_a_e1 : a ≠ e1) (ne_d_e1 : d ≠ e1) :
    Met0 l Z (⟨"java/lang/String", "getBytes", "([BIB)V"⟩ : MethodName) [] jdk_42_method_147_code 4 none ({ frames := 1, cells := 0, slots := 0, locals := 18 } : Room) #[(.ref a), (.ref e1), (.int 0), (.int 0)] h0 (fun v h L => v = none ∧ Fr Z.heap.size L ∧ Keep h0 h [e1] ∧ Arv Z h e1 k_e1 .byte 34 V7 (.int 0)) := by
  have N := Fr.nil Z.heap.size
  have P := Keep.refl h0 [e1]
  refine Met0.of_walk (plainFor_of_name pn_java_lang_String) (Ls := #[.val (.ref a), .val (.ref e1), .val (.int 0), .val (.int 0)]) (fun m => by first | rfl | (simp [entryFrame, mkF, argsToLocals, Value.category]; done)) ?_
  intro p e s m below meth c C
  refine aloadN C rs_getBytes_30_d0 (pc' := 1) rfl rfl rfl ?_
  refine callV_ C (y := (⟨"java/lang/String", "coder", "()B"⟩ : MethodName)) (z := (⟨"java/lang/String", "coder", "()B"⟩ : MethodName)) (hw _ (List.mem_of_getElem? (i := 68) rfl)) (hw _ (List.mem_of_getElem? (i := 69) rfl)) (nf_sel (hw _ (List.mem_of_getElem? (i := 71) rfl))) (hw _ (List.mem_of_getElem? (i := 71) rfl)) (hw _ (List.mem_of_getElem? (i := 70) rfl)) (hw _ (List.mem_of_getElem? (i := 10) rfl)) (hw _ (List.mem_of_getElem? (i := 72) rfl)) (by decide) X_a pd_0 [] [] rfl rfl (W := 0) rfl (by decide) (by decide) (by decide) (by decide) (rs_coder l Z a0 hw cs Sc hcs a h0 O X_a F_a_coder) rfl rs_getBytes_30_d1 (pc' := 4) rfl ?_
  rintro _ _ _ ⟨rfl, rfl, rfl⟩
  show Wk p l e _ _ m _ below meth c _ _ _ _ _ _ (mkF m 4 #[.val (.ref a), .val (.ref e1), .val (.int 0), .val (.int 0)] [(.int 0)])
  rw [List.append_nil]
  refine iloadN C rs_getBytes_30_d4 (pc' := 5) rfl rfl ?_
  refine icmp_ne C 28 8 rs_getBytes_30_d5 (by decide) rfl rfl (fun q5 => ?_) (fun q5 => ?_)
  · exact absurd q5 (by decide)
  refine aloadN C rs_getBytes_30_d8 (pc' := 9) rfl rfl rfl ?_
  refine getF_ C (hw _ (List.mem_of_getElem? (i := 67) rfl)) Via.refl F_a_value rs_getBytes_30_d9 (pc' := 12) rfl ?_
  refine iconst C rs_getBytes_30_d12 (pc' := 13) rfl (v := 0) rfl ?_
  refine aloadN C rs_getBytes_30_d13 (pc' := 14) rfl rfl rfl ?_
  refine iloadN C rs_getBytes_30_d14 (pc' := 15) rfl rfl ?_
  refine iloadN C rs_getBytes_30_d15 (pc' := 16) rfl rfl ?_
  refine ishl C rs_getBytes_30_d16 (pc' := 17) rfl ?_
  show Wk p l e _ _ m _ below meth c _ _ _ _ _ _ (mkF m 17 #[.val (.ref a), .val (.ref e1), .val (.int 0), .val (.int 0)] [(.int 0), (.ref e1), (.int 0), (.ref d)])
  refine aloadN C rs_getBytes_30_d17 (pc' := 18) rfl rfl rfl ?_
  refine getF_ C (hw _ (List.mem_of_getElem? (i := 67) rfl)) Via.refl F_a_value rs_getBytes_30_d18 (pc' := 21) rfl ?_
  refine alen_ C A_d rs_getBytes_30_d21 (pc' := 22) rfl ?_
  refine cpA_ C (us := V0) (hw _ (List.mem_of_getElem? (i := 124) rfl)) (hw _ (List.mem_of_getElem? (i := 107) rfl)) (hw _ (List.mem_of_getElem? (i := 105) rfl)) (hw _ (List.mem_of_getElem? (i := 106) rfl)) A_d A_e1 (by decide) (by decide) (by decide) (by decide) (by decide) (by rfl) (Nat.le_of_ble_eq_true rfl) N ge_e1 rfl (W := 0) rfl (by decide) (by decide) rs_getBytes_30_d22 (pc' := 25) rfl ?_
  intro h21 L21 N21 K21 A21'
  have A21_e1 : Arv Z h21 e1 k_e1 .byte 34 V7 (.int 0) := A21'
  have O21 := O.keep K21 (allS ge_e1 all0)
  have P21 := P.trans K21 (allS (Or.inl (List.mem_of_getElem? (i := 0) rfl)) all0)
  have X21_a := X_a.keep K21
  have F21_a_value := F_a_value.keep K21 (ninS ne_a_e1 nin0)
  have F21_a_coder := F_a_coder.keep K21 (ninS ne_a_e1 nin0)
  have A21_d := A_d.keep K21 (ninS ne_d_e1 nin0)
  refine goto_ C rs_getBytes_30_d25 (by decide) (pc' := 43) rfl ?_
  exact ret_V C rs_getBytes_30_d43 rfl (by decide) (by decide) ⟨rfl, N21, P21, A21_e1⟩
theorem pd_5 : parseMethodDescriptor "(Ljava/lang/String;)V" = some ⟨[(.object "java/lang/String")], none⟩ := by decide +kernel
theorem pd_6 : parseMethodDescriptor "([BIB)V" = some ⟨[(.array .byte), .int, .byte], none⟩ := by decide +kernel
theorem rs_putStringAt_30_d0 : decode jdk_68_method_73_code 0 = .ok (.aload_n 0, 1) := by decide +kernel
theorem rs_putStringAt_30_d1 : decode jdk_68_method_73_code 1 = .ok (.aload_n 2, 1) := by decide +kernel
theorem rs_putStringAt_30_d2 : decode jdk_68_method_73_code 2 = .ok (.invokevirtual 397, 3) := by decide +kernel
theorem rs_putStringAt_30_d5 : decode jdk_68_method_73_code 5 = .ok (.aload_n 2, 1) := by decide +kernel
theorem rs_putStringAt_30_d6 : decode jdk_68_method_73_code 6 = .ok (.aload_n 0, 1) := by decide +kernel
theorem rs_putStringAt_30_d7 : decode jdk_68_method_73_code 7 = .ok (.getfield 15, 3) := by decide +kernel
theorem rs_putStringAt_30_d10 : decode jdk_68_method_73_code 10 = .ok (.iload_n 1, 1) := by decide +kernel
theorem rs_putStringAt_30_d11 : decode jdk_68_method_73_code 11 = .ok (.aload_n 0, 1) := by decide +kernel
theorem rs_putStringAt_30_d12 : decode jdk_68_method_73_code 12 = .ok (.getfield 22, 3) := by decide +kernel
theorem rs_putStringAt_30_d15 : decode jdk_68_method_73_code 15 = .ok (.invokevirtual 399, 3) := by decide +kernel
theorem rs_putStringAt_30_d18 : decode jdk_68_method_73_code 18 = .ok (.return_, 1) := by decide +kernel
set_option maxRecDepth 65536 in
set_option maxHeartbeats 40000000 in
theorem rs_putStringAt_30 (l : Launch) (Z : State) (a0 : Array Value) (hw : ∀ d ∈ tables_1, d.before a0 Z = true) (cs : Int32) (Sc : Sta Z Z.heap "java/lang/String" "COMPACT_STRINGS" "Z" (.int cs)) (hcs : ¬ cs = 0) (b : Addr) (a : Addr) (d : Addr) (k_d : ClassId) (e1 : Addr) (k_e1 : ClassId) (h0 : Heap) (O : Old Z Z.heap.size h0) (X_b : Exa Z h0 b "java/lang/StringBuilder") (F_b_value : Fld Z h0 b "java/lang/AbstractStringBuilder" "value" "[B" (.ref e1)) (F_b_coder : Fld Z h0 b "java/lang/AbstractStringBuilder" "coder" "B" (.int 0)) (F_b_count : Fld Z h0 b "java/lang/AbstractStringBuilder" "count" "I" (.int 0)) (X_a : Exa Z h0 a "java/lang/String") (F_a_value : Fld Z h0 a "java/lang/String" "value" "[B" (.ref d)) (F_a_coder : Fld Z h0 a "java/lang/String" "coder" "B" (.int 0)) (A_d : Arv Z h0 d k_d .byte 30 V0 (.int 0)) (A_e1 : Arv Z h0 e1 k_e1 .byte 34 V3 (.int 0)) (ge_e1 : Z.heap.size ≤ e1) (ne_b_e1 : b ≠ e1) (ne_a_e1 : a ≠ e1) (ne_d_e1 : d ≠ e1) :
    Met0 l Z (⟨"java/lang/AbstractStringBuilder", "putStringAt", "(ILjava/lang/String;)V"⟩ : MethodName) [] jdk_68_method_73_code 3 none ({ frames := 2, cells := 0, slots := 0, locals := 33 } : Room) #[(.ref b), (.int 0), (.ref a)] h0 (fun v h L => v = none ∧ Fr Z.heap.size L ∧ Keep h0 h [e1] ∧ Arv Z h e1 k_e1 .byte 34 V7 (.int 0)) := by
  have N := Fr.nil Z.heap.size
  have P := Keep.refl h0 [e1]
  refine Met0.of_walk (plainFor_of_name pn_java_lang_AbstractStringBuilder) (Ls := #[.val (.ref b), .val (.int 0), .val (.ref a)]) (fun m => by first | rfl | (simp [entryFrame, mkF, argsToLocals, Value.category]; done)) ?_
  intro p e s m below meth c C
  refine aloadN C rs_putStringAt_30_d0 (pc' := 1) rfl rfl rfl ?_
  refine aloadN C rs_putStringAt_30_d1 (pc' := 2) rfl rfl rfl ?_
  refine callP_ C (y := (⟨"java/lang/AbstractStringBuilder", "inflateIfNeededFor", "(Ljava/lang/String;)V"⟩ : MethodName)) (zs := (⟨"java/lang/AbstractStringBuilder", "isLatin1", "()Z"⟩ : MethodName)) (hw _ (List.mem_of_getElem? (i := 113) rfl)) (hw _ (List.mem_of_getElem? (i := 114) rfl)) (hw _ (List.mem_of_getElem? (i := 115) rfl)) (hw _ (List.mem_of_getElem? (i := 141) rfl)) rfl (hw _ (List.mem_of_getElem? (i := 41) rfl)) (hw _ (List.mem_of_getElem? (i := 117) rfl)) (by decide) X_b pd_5 [(.ref a)] [] rfl rfl (W := 0) rfl (by decide) (by decide) (by decide) (by decide) (rs_inflate l Z a0 hw cs Sc hcs b a h0 O X_b F_b_coder X_a F_a_coder) rfl rs_putStringAt_30_d2 (pc' := 5) rfl ?_
  rintro _ _ _ ⟨rfl, rfl, rfl⟩
  show Wk p l e _ _ m _ below meth c _ _ _ _ _ _ (mkF m 5 #[.val (.ref b), .val (.int 0), .val (.ref a)] [])
  rw [List.append_nil]
  refine aloadN C rs_putStringAt_30_d5 (pc' := 6) rfl rfl rfl ?_
  refine aloadN C rs_putStringAt_30_d6 (pc' := 7) rfl rfl rfl ?_
  refine getF_ C (hw _ (List.mem_of_getElem? (i := 47) rfl)) Via.refl F_b_value rs_putStringAt_30_d7 (pc' := 10) rfl ?_
  refine iloadN C rs_putStringAt_30_d10 (pc' := 11) rfl rfl ?_
  refine aloadN C rs_putStringAt_30_d11 (pc' := 12) rfl rfl rfl ?_
  refine getF_ C (hw _ (List.mem_of_getElem? (i := 49) rfl)) Via.refl F_b_coder rs_putStringAt_30_d12 (pc' := 15) rfl ?_
  have lt23_b := X_b.lt
  have lt23_a := X_a.lt
  have lt23_d := A_d.lt
  have lt23_e1 := A_e1.lt
  refine callV_ C (y := (⟨"java/lang/String", "getBytes", "([BIB)V"⟩ : MethodName)) (z := (⟨"java/lang/String", "getBytes", "([BIB)V"⟩ : MethodName)) (hw _ (List.mem_of_getElem? (i := 119) rfl)) (hw _ (List.mem_of_getElem? (i := 120) rfl)) (nf_sel (hw _ (List.mem_of_getElem? (i := 122) rfl))) (hw _ (List.mem_of_getElem? (i := 122) rfl)) (hw _ (List.mem_of_getElem? (i := 121) rfl)) (hw _ (List.mem_of_getElem? (i := 10) rfl)) (hw _ (List.mem_of_getElem? (i := 123) rfl)) (by decide) X_a pd_6 [(.ref e1), (.int 0), (.int 0)] [] rfl rfl (W := 0) rfl (by decide) (by decide) (by decide) (by decide) (rs_getBytes_30 l Z a0 hw cs Sc hcs a d k_d e1 k_e1 h0 O X_a F_a_value F_a_coder A_d A_e1 ge_e1 ne_a_e1 ne_d_e1) rfl rs_putStringAt_30_d15 (pc' := 18) rfl ?_
  rintro _ h23 L23 ⟨rfl, N23', K23, A23_e1⟩
  have N23 := Fr.app N N23'
  have O23 := O.keep K23 (allS ge_e1 all0)
  have P23 := P.trans K23 (allS (Or.inl (List.mem_of_getElem? (i := 0) rfl)) all0)
  have X23_b := X_b.keep K23
  have F23_b_value := F_b_value.keep K23 (ninS ne_b_e1 (nin0))
  have F23_b_coder := F_b_coder.keep K23 (ninS ne_b_e1 (nin0))
  have F23_b_count := F_b_count.keep K23 (ninS ne_b_e1 (nin0))
  have X23_a := X_a.keep K23
  have F23_a_value := F_a_value.keep K23 (ninS ne_a_e1 (nin0))
  have F23_a_coder := F_a_coder.keep K23 (ninS ne_a_e1 (nin0))
  have A23_d := A_d.keep K23 (ninS ne_d_e1 (nin0))
  show Wk p l e _ _ m _ below meth c _ _ _ _ _ _ (mkF m 18 #[.val (.ref b), .val (.int 0), .val (.ref a)] [])
  exact ret_V C rs_putStringAt_30_d18 rfl (by decide) (by decide) ⟨rfl, N23, P23, A23_e1⟩
abbrev V8 : List Value := [.int 97, .int 32, .int 110, .int 117, .int 109, .int 98, .int 101, .int 114, .int 32, .int 111, .int 102, .int 32, .int 115, .int 104, .int 97, .int 114, .int 101, .int 115, .int 32, .int 111, .int 102, .int 32, .int 97, .int 116, .int 32, .int 109, .int 111, .int 115, .int 116, .int 32, .int 49, .int 48, .int 32, .int 100, .int 101, .int 99, .int 105, .int 109, .int 97, .int 108, .int 32, .int 112, .int 108, .int 97, .int 99, .int 101, .int 115, .int 0, .int 0, .int 0, .int 0, .int 0, .int 0, .int 0, .int 0, .int 0, .int 0, .int 0, .int 0, .int 0, .int 0, .int 0, .int 0, .int 0, .int 0, .int 0, .int 0, .int 0, .int 0, .int 0]
theorem rs_getBytes_15_d0 : decode jdk_42_method_147_code 0 = .ok (.aload_n 0, 1) := by decide +kernel
theorem rs_getBytes_15_d1 : decode jdk_42_method_147_code 1 = .ok (.invokevirtual 335, 3) := by decide +kernel
theorem rs_getBytes_15_d4 : decode jdk_42_method_147_code 4 = .ok (.iload_n 3, 1) := by decide +kernel
theorem rs_getBytes_15_d5 : decode jdk_42_method_147_code 5 = .ok (.if_icmp .ne 23, 3) := by decide +kernel
theorem rs_getBytes_15_d8 : decode jdk_42_method_147_code 8 = .ok (.aload_n 0, 1) := by decide +kernel
theorem rs_getBytes_15_d9 : decode jdk_42_method_147_code 9 = .ok (.getfield 9, 3) := by decide +kernel
theorem rs_getBytes_15_d12 : decode jdk_42_method_147_code 12 = .ok (.iconst 0, 1) := by decide +kernel
theorem rs_getBytes_15_d13 : decode jdk_42_method_147_code 13 = .ok (.aload_n 1, 1) := by decide +kernel
theorem rs_getBytes_15_d14 : decode jdk_42_method_147_code 14 = .ok (.iload_n 2, 1) := by decide +kernel
theorem rs_getBytes_15_d15 : decode jdk_42_method_147_code 15 = .ok (.iload_n 3, 1) := by decide +kernel
theorem rs_getBytes_15_d16 : decode jdk_42_method_147_code 16 = .ok (.ishl, 1) := by decide +kernel
theorem rs_getBytes_15_d17 : decode jdk_42_method_147_code 17 = .ok (.aload_n 0, 1) := by decide +kernel
theorem rs_getBytes_15_d18 : decode jdk_42_method_147_code 18 = .ok (.getfield 9, 3) := by decide +kernel
theorem rs_getBytes_15_d21 : decode jdk_42_method_147_code 21 = .ok (.arraylength, 1) := by decide +kernel
theorem rs_getBytes_15_d22 : decode jdk_42_method_147_code 22 = .ok (.invokestatic 212, 3) := by decide +kernel
theorem rs_getBytes_15_d25 : decode jdk_42_method_147_code 25 = .ok (.goto 18, 3) := by decide +kernel
theorem rs_getBytes_15_d43 : decode jdk_42_method_147_code 43 = .ok (.return_, 1) := by decide +kernel
set_option maxRecDepth 65536 in
set_option maxHeartbeats 40000000 in
theorem rs_getBytes_15 (l : Launch) (Z : State) (a0 : Array Value) (hw : ∀ d ∈ tables_1, d.before a0 Z = true) (cs : Int32) (Sc : Sta Z Z.heap "java/lang/String" "COMPACT_STRINGS" "Z" (.int cs)) (hcs : ¬ cs = 0) (a : Addr) (d : Addr) (k_d : ClassId) (e1 : Addr) (k_e1 : ClassId) (h0 : Heap) (O : Old Z Z.heap.size h0) (X_a : Exa Z h0 a "java/lang/String") (F_a_value : Fld Z h0 a "java/lang/String" "value" "[B" (.ref d)) (F_a_coder : Fld Z h0 a "java/lang/String" "coder" "B" (.int 0)) (A_d : Arv Z h0 d k_d .byte 15 V1 (.int 0)) (A_e1 : Arv Z h0 e1 k_e1 .byte 70 V5 (.int 0)) (ge_e1 : Z.heap.size ≤ e1) (ne_a_e1 : a ≠ e1) (ne_d_e1 : d ≠ e1) :
    Met0 l Z (⟨"java/lang/String", "getBytes", "([BIB)V"⟩ : MethodName) [] jdk_42_method_147_code 4 none ({ frames := 1, cells := 0, slots := 0, locals := 18 } : Room) #[(.ref a), (.ref e1), (.int 32), (.int 0)] h0 (fun v h L => v = none ∧ Fr Z.heap.size L ∧ Keep h0 h [e1] ∧ Arv Z h e1 k_e1 .byte 70 V8 (.int 0)) := by
  have N := Fr.nil Z.heap.size
  have P := Keep.refl h0 [e1]
  refine Met0.of_walk (plainFor_of_name pn_java_lang_String) (Ls := #[.val (.ref a), .val (.ref e1), .val (.int 32), .val (.int 0)]) (fun m => by first | rfl | (simp [entryFrame, mkF, argsToLocals, Value.category]; done)) ?_
  intro p e s m below meth c C
  refine aloadN C rs_getBytes_15_d0 (pc' := 1) rfl rfl rfl ?_
  refine callV_ C (y := (⟨"java/lang/String", "coder", "()B"⟩ : MethodName)) (z := (⟨"java/lang/String", "coder", "()B"⟩ : MethodName)) (hw _ (List.mem_of_getElem? (i := 68) rfl)) (hw _ (List.mem_of_getElem? (i := 69) rfl)) (nf_sel (hw _ (List.mem_of_getElem? (i := 71) rfl))) (hw _ (List.mem_of_getElem? (i := 71) rfl)) (hw _ (List.mem_of_getElem? (i := 70) rfl)) (hw _ (List.mem_of_getElem? (i := 10) rfl)) (hw _ (List.mem_of_getElem? (i := 72) rfl)) (by decide) X_a pd_0 [] [] rfl rfl (W := 0) rfl (by decide) (by decide) (by decide) (by decide) (rs_coder l Z a0 hw cs Sc hcs a h0 O X_a F_a_coder) rfl rs_getBytes_15_d1 (pc' := 4) rfl ?_
  rintro _ _ _ ⟨rfl, rfl, rfl⟩
  show Wk p l e _ _ m _ below meth c _ _ _ _ _ _ (mkF m 4 #[.val (.ref a), .val (.ref e1), .val (.int 32), .val (.int 0)] [(.int 0)])
  rw [List.append_nil]
  refine iloadN C rs_getBytes_15_d4 (pc' := 5) rfl rfl ?_
  refine icmp_ne C 28 8 rs_getBytes_15_d5 (by decide) rfl rfl (fun q5 => ?_) (fun q5 => ?_)
  · exact absurd q5 (by decide)
  refine aloadN C rs_getBytes_15_d8 (pc' := 9) rfl rfl rfl ?_
  refine getF_ C (hw _ (List.mem_of_getElem? (i := 67) rfl)) Via.refl F_a_value rs_getBytes_15_d9 (pc' := 12) rfl ?_
  refine iconst C rs_getBytes_15_d12 (pc' := 13) rfl (v := 0) rfl ?_
  refine aloadN C rs_getBytes_15_d13 (pc' := 14) rfl rfl rfl ?_
  refine iloadN C rs_getBytes_15_d14 (pc' := 15) rfl rfl ?_
  refine iloadN C rs_getBytes_15_d15 (pc' := 16) rfl rfl ?_
  refine ishl C rs_getBytes_15_d16 (pc' := 17) rfl ?_
  show Wk p l e _ _ m _ below meth c _ _ _ _ _ _ (mkF m 17 #[.val (.ref a), .val (.ref e1), .val (.int 32), .val (.int 0)] [(.int 32), (.ref e1), (.int 0), (.ref d)])
  refine aloadN C rs_getBytes_15_d17 (pc' := 18) rfl rfl rfl ?_
  refine getF_ C (hw _ (List.mem_of_getElem? (i := 67) rfl)) Via.refl F_a_value rs_getBytes_15_d18 (pc' := 21) rfl ?_
  refine alen_ C A_d rs_getBytes_15_d21 (pc' := 22) rfl ?_
  refine cpA_ C (us := V1) (hw _ (List.mem_of_getElem? (i := 124) rfl)) (hw _ (List.mem_of_getElem? (i := 107) rfl)) (hw _ (List.mem_of_getElem? (i := 105) rfl)) (hw _ (List.mem_of_getElem? (i := 106) rfl)) A_d A_e1 (by decide) (by decide) (by decide) (by decide) (by decide) (by rfl) (Nat.le_of_ble_eq_true rfl) N ge_e1 rfl (W := 0) rfl (by decide) (by decide) rs_getBytes_15_d22 (pc' := 25) rfl ?_
  intro h25 L25 N25 K25 A25'
  have A25_e1 : Arv Z h25 e1 k_e1 .byte 70 V8 (.int 0) := A25'
  have O25 := O.keep K25 (allS ge_e1 all0)
  have P25 := P.trans K25 (allS (Or.inl (List.mem_of_getElem? (i := 0) rfl)) all0)
  have X25_a := X_a.keep K25
  have F25_a_value := F_a_value.keep K25 (ninS ne_a_e1 nin0)
  have F25_a_coder := F_a_coder.keep K25 (ninS ne_a_e1 nin0)
  have A25_d := A_d.keep K25 (ninS ne_d_e1 nin0)
  refine goto_ C rs_getBytes_15_d25 (by decide) (pc' := 43) rfl ?_
  exact ret_V C rs_getBytes_15_d43 rfl (by decide) (by decide) ⟨rfl, N25, P25, A25_e1⟩
theorem rs_putStringAt_15_d0 : decode jdk_68_method_73_code 0 = .ok (.aload_n 0, 1) := by decide +kernel
theorem rs_putStringAt_15_d1 : decode jdk_68_method_73_code 1 = .ok (.aload_n 2, 1) := by decide +kernel
theorem rs_putStringAt_15_d2 : decode jdk_68_method_73_code 2 = .ok (.invokevirtual 397, 3) := by decide +kernel
theorem rs_putStringAt_15_d5 : decode jdk_68_method_73_code 5 = .ok (.aload_n 2, 1) := by decide +kernel
theorem rs_putStringAt_15_d6 : decode jdk_68_method_73_code 6 = .ok (.aload_n 0, 1) := by decide +kernel
theorem rs_putStringAt_15_d7 : decode jdk_68_method_73_code 7 = .ok (.getfield 15, 3) := by decide +kernel
theorem rs_putStringAt_15_d10 : decode jdk_68_method_73_code 10 = .ok (.iload_n 1, 1) := by decide +kernel
theorem rs_putStringAt_15_d11 : decode jdk_68_method_73_code 11 = .ok (.aload_n 0, 1) := by decide +kernel
theorem rs_putStringAt_15_d12 : decode jdk_68_method_73_code 12 = .ok (.getfield 22, 3) := by decide +kernel
theorem rs_putStringAt_15_d15 : decode jdk_68_method_73_code 15 = .ok (.invokevirtual 399, 3) := by decide +kernel
theorem rs_putStringAt_15_d18 : decode jdk_68_method_73_code 18 = .ok (.return_, 1) := by decide +kernel
set_option maxRecDepth 65536 in
set_option maxHeartbeats 40000000 in
theorem rs_putStringAt_15 (l : Launch) (Z : State) (a0 : Array Value) (hw : ∀ d ∈ tables_1, d.before a0 Z = true) (cs : Int32) (Sc : Sta Z Z.heap "java/lang/String" "COMPACT_STRINGS" "Z" (.int cs)) (hcs : ¬ cs = 0) (b : Addr) (a : Addr) (d : Addr) (k_d : ClassId) (e1 : Addr) (k_e1 : ClassId) (h0 : Heap) (O : Old Z Z.heap.size h0) (X_b : Exa Z h0 b "java/lang/StringBuilder") (F_b_value : Fld Z h0 b "java/lang/AbstractStringBuilder" "value" "[B" (.ref e1)) (F_b_coder : Fld Z h0 b "java/lang/AbstractStringBuilder" "coder" "B" (.int 0)) (F_b_count : Fld Z h0 b "java/lang/AbstractStringBuilder" "count" "I" (.int 32)) (X_a : Exa Z h0 a "java/lang/String") (F_a_value : Fld Z h0 a "java/lang/String" "value" "[B" (.ref d)) (F_a_coder : Fld Z h0 a "java/lang/String" "coder" "B" (.int 0)) (A_d : Arv Z h0 d k_d .byte 15 V1 (.int 0)) (A_e1 : Arv Z h0 e1 k_e1 .byte 70 V5 (.int 0)) (ge_e1 : Z.heap.size ≤ e1) (ne_b_e1 : b ≠ e1) (ne_a_e1 : a ≠ e1) (ne_d_e1 : d ≠ e1) :
    Met0 l Z (⟨"java/lang/AbstractStringBuilder", "putStringAt", "(ILjava/lang/String;)V"⟩ : MethodName) [] jdk_68_method_73_code 3 none ({ frames := 2, cells := 0, slots := 0, locals := 33 } : Room) #[(.ref b), (.int 32), (.ref a)] h0 (fun v h L => v = none ∧ Fr Z.heap.size L ∧ Keep h0 h [e1] ∧ Arv Z h e1 k_e1 .byte 70 V8 (.int 0)) := by
  have N := Fr.nil Z.heap.size
  have P := Keep.refl h0 [e1]
  refine Met0.of_walk (plainFor_of_name pn_java_lang_AbstractStringBuilder) (Ls := #[.val (.ref b), .val (.int 32), .val (.ref a)]) (fun m => by first | rfl | (simp [entryFrame, mkF, argsToLocals, Value.category]; done)) ?_
  intro p e s m below meth c C
  refine aloadN C rs_putStringAt_15_d0 (pc' := 1) rfl rfl rfl ?_
  refine aloadN C rs_putStringAt_15_d1 (pc' := 2) rfl rfl rfl ?_
  refine callP_ C (y := (⟨"java/lang/AbstractStringBuilder", "inflateIfNeededFor", "(Ljava/lang/String;)V"⟩ : MethodName)) (zs := (⟨"java/lang/AbstractStringBuilder", "isLatin1", "()Z"⟩ : MethodName)) (hw _ (List.mem_of_getElem? (i := 113) rfl)) (hw _ (List.mem_of_getElem? (i := 114) rfl)) (hw _ (List.mem_of_getElem? (i := 115) rfl)) (hw _ (List.mem_of_getElem? (i := 141) rfl)) rfl (hw _ (List.mem_of_getElem? (i := 41) rfl)) (hw _ (List.mem_of_getElem? (i := 117) rfl)) (by decide) X_b pd_5 [(.ref a)] [] rfl rfl (W := 0) rfl (by decide) (by decide) (by decide) (by decide) (rs_inflate l Z a0 hw cs Sc hcs b a h0 O X_b F_b_coder X_a F_a_coder) rfl rs_putStringAt_15_d2 (pc' := 5) rfl ?_
  rintro _ _ _ ⟨rfl, rfl, rfl⟩
  show Wk p l e _ _ m _ below meth c _ _ _ _ _ _ (mkF m 5 #[.val (.ref b), .val (.int 32), .val (.ref a)] [])
  rw [List.append_nil]
  refine aloadN C rs_putStringAt_15_d5 (pc' := 6) rfl rfl rfl ?_
  refine aloadN C rs_putStringAt_15_d6 (pc' := 7) rfl rfl rfl ?_
  refine getF_ C (hw _ (List.mem_of_getElem? (i := 47) rfl)) Via.refl F_b_value rs_putStringAt_15_d7 (pc' := 10) rfl ?_
  refine iloadN C rs_putStringAt_15_d10 (pc' := 11) rfl rfl ?_
  refine aloadN C rs_putStringAt_15_d11 (pc' := 12) rfl rfl rfl ?_
  refine getF_ C (hw _ (List.mem_of_getElem? (i := 49) rfl)) Via.refl F_b_coder rs_putStringAt_15_d12 (pc' := 15) rfl ?_
  have lt27_b := X_b.lt
  have lt27_a := X_a.lt
  have lt27_d := A_d.lt
  have lt27_e1 := A_e1.lt
  refine callV_ C (y := (⟨"java/lang/String", "getBytes", "([BIB)V"⟩ : MethodName)) (z := (⟨"java/lang/String", "getBytes", "([BIB)V"⟩ : MethodName)) (hw _ (List.mem_of_getElem? (i := 119) rfl)) (hw _ (List.mem_of_getElem? (i := 120) rfl)) (nf_sel (hw _ (List.mem_of_getElem? (i := 122) rfl))) (hw _ (List.mem_of_getElem? (i := 122) rfl)) (hw _ (List.mem_of_getElem? (i := 121) rfl)) (hw _ (List.mem_of_getElem? (i := 10) rfl)) (hw _ (List.mem_of_getElem? (i := 123) rfl)) (by decide) X_a pd_6 [(.ref e1), (.int 32), (.int 0)] [] rfl rfl (W := 0) rfl (by decide) (by decide) (by decide) (by decide) (rs_getBytes_15 l Z a0 hw cs Sc hcs a d k_d e1 k_e1 h0 O X_a F_a_value F_a_coder A_d A_e1 ge_e1 ne_a_e1 ne_d_e1) rfl rs_putStringAt_15_d15 (pc' := 18) rfl ?_
  rintro _ h27 L27 ⟨rfl, N27', K27, A27_e1⟩
  have N27 := Fr.app N N27'
  have O27 := O.keep K27 (allS ge_e1 all0)
  have P27 := P.trans K27 (allS (Or.inl (List.mem_of_getElem? (i := 0) rfl)) all0)
  have X27_b := X_b.keep K27
  have F27_b_value := F_b_value.keep K27 (ninS ne_b_e1 (nin0))
  have F27_b_coder := F_b_coder.keep K27 (ninS ne_b_e1 (nin0))
  have F27_b_count := F_b_count.keep K27 (ninS ne_b_e1 (nin0))
  have X27_a := X_a.keep K27
  have F27_a_value := F_a_value.keep K27 (ninS ne_a_e1 (nin0))
  have F27_a_coder := F_a_coder.keep K27 (ninS ne_a_e1 (nin0))
  have A27_d := A_d.keep K27 (ninS ne_d_e1 (nin0))
  show Wk p l e _ _ m _ below meth c _ _ _ _ _ _ (mkF m 18 #[.val (.ref b), .val (.int 32), .val (.ref a)] [])
  exact ret_V C rs_putStringAt_15_d18 rfl (by decide) (by decide) ⟨rfl, N27, P27, A27_e1⟩
theorem pd_7 : parseMethodDescriptor "()I" = some ⟨[], some .int⟩ := by decide +kernel
theorem pd_8 : parseMethodDescriptor "(I)V" = some ⟨[.int], none⟩ := by decide +kernel
theorem pd_9 : parseMethodDescriptor "(ILjava/lang/String;)V" = some ⟨[.int, (.object "java/lang/String")], none⟩ := by decide +kernel
theorem rs_appenda_30_d0 : decode jdk_68_method_22_code 0 = .ok (.aload_n 1, 1) := by decide +kernel
theorem rs_appenda_30_d1 : decode jdk_68_method_22_code 1 = .ok (.ifnonnull 8, 3) := by decide +kernel
theorem rs_appenda_30_d9 : decode jdk_68_method_22_code 9 = .ok (.aload_n 1, 1) := by decide +kernel
theorem rs_appenda_30_d10 : decode jdk_68_method_22_code 10 = .ok (.invokevirtual 32, 3) := by decide +kernel
theorem rs_appenda_30_d13 : decode jdk_68_method_22_code 13 = .ok (.istore_n 2, 1) := by decide +kernel
theorem rs_appenda_30_d14 : decode jdk_68_method_22_code 14 = .ok (.aload_n 0, 1) := by decide +kernel
theorem rs_appenda_30_d15 : decode jdk_68_method_22_code 15 = .ok (.aload_n 0, 1) := by decide +kernel
theorem rs_appenda_30_d16 : decode jdk_68_method_22_code 16 = .ok (.getfield 79, 3) := by decide +kernel
theorem rs_appenda_30_d19 : decode jdk_68_method_22_code 19 = .ok (.iload_n 2, 1) := by decide +kernel
theorem rs_appenda_30_d20 : decode jdk_68_method_22_code 20 = .ok (.iadd, 1) := by decide +kernel
theorem rs_appenda_30_d21 : decode jdk_68_method_22_code 21 = .ok (.invokevirtual 100, 3) := by decide +kernel
theorem rs_appenda_30_d24 : decode jdk_68_method_22_code 24 = .ok (.aload_n 0, 1) := by decide +kernel
theorem rs_appenda_30_d25 : decode jdk_68_method_22_code 25 = .ok (.aload_n 0, 1) := by decide +kernel
theorem rs_appenda_30_d26 : decode jdk_68_method_22_code 26 = .ok (.getfield 79, 3) := by decide +kernel
theorem rs_appenda_30_d29 : decode jdk_68_method_22_code 29 = .ok (.aload_n 1, 1) := by decide +kernel
theorem rs_appenda_30_d30 : decode jdk_68_method_22_code 30 = .ok (.invokevirtual 208, 3) := by decide +kernel
theorem rs_appenda_30_d33 : decode jdk_68_method_22_code 33 = .ok (.aload_n 0, 1) := by decide +kernel
theorem rs_appenda_30_d34 : decode jdk_68_method_22_code 34 = .ok (.dup, 1) := by decide +kernel
theorem rs_appenda_30_d35 : decode jdk_68_method_22_code 35 = .ok (.getfield 79, 3) := by decide +kernel
theorem rs_appenda_30_d38 : decode jdk_68_method_22_code 38 = .ok (.iload_n 2, 1) := by decide +kernel
theorem rs_appenda_30_d39 : decode jdk_68_method_22_code 39 = .ok (.iadd, 1) := by decide +kernel
theorem rs_appenda_30_d40 : decode jdk_68_method_22_code 40 = .ok (.putfield 79, 3) := by decide +kernel
theorem rs_appenda_30_d43 : decode jdk_68_method_22_code 43 = .ok (.aload_n 0, 1) := by decide +kernel
theorem rs_appenda_30_d44 : decode jdk_68_method_22_code 44 = .ok (.areturn, 1) := by decide +kernel
set_option maxRecDepth 65536 in
set_option maxHeartbeats 40000000 in
theorem rs_appenda_30 (l : Launch) (Z : State) (a0 : Array Value) (hw : ∀ d ∈ tables_1, d.before a0 Z = true) (cs : Int32) (Sc : Sta Z Z.heap "java/lang/String" "COMPACT_STRINGS" "Z" (.int cs)) (hcs : ¬ cs = 0) (b : Addr) (a : Addr) (d : Addr) (k_d : ClassId) (e1 : Addr) (k_e1 : ClassId) (h0 : Heap) (O : Old Z Z.heap.size h0) (X_b : Exa Z h0 b "java/lang/StringBuilder") (F_b_value : Fld Z h0 b "java/lang/AbstractStringBuilder" "value" "[B" (.ref e1)) (F_b_coder : Fld Z h0 b "java/lang/AbstractStringBuilder" "coder" "B" (.int 0)) (F_b_count : Fld Z h0 b "java/lang/AbstractStringBuilder" "count" "I" (.int 0)) (X_a : Exa Z h0 a "java/lang/String") (F_a_value : Fld Z h0 a "java/lang/String" "value" "[B" (.ref d)) (F_a_coder : Fld Z h0 a "java/lang/String" "coder" "B" (.int 0)) (A_d : Arv Z h0 d k_d .byte 30 V0 (.int 0)) (A_e1 : Arv Z h0 e1 k_e1 .byte 16 V2 (.int 0)) (ge_b : Z.heap.size ≤ b) (ne_b_a : b ≠ a) (ne_b_d : b ≠ d) (ne_b_e1 : b ≠ e1) :
    Met0 l Z (⟨"java/lang/AbstractStringBuilder", "append", "(Ljava/lang/String;)Ljava/lang/AbstractStringBuilder;"⟩ : MethodName) [] jdk_68_method_22_code 3 (some (.object "java/lang/AbstractStringBuilder")) ({ frames := 4, cells := 1, slots := 34, locals := 62 } : Room) #[(.ref b), (.ref a)] h0 (fun v h L => ∃ (r : Addr) (k_r : ClassId), v = some (.ref b) ∧ Fr Z.heap.size L ∧ Keep h0 h [b] ∧ Exa Z h b "java/lang/StringBuilder" ∧ Fld Z h b "java/lang/AbstractStringBuilder" "value" "[B" (.ref r) ∧ Fld Z h b "java/lang/AbstractStringBuilder" "coder" "B" (.int 0) ∧ Fld Z h b "java/lang/AbstractStringBuilder" "count" "I" (.int 30) ∧ h0.size ≤ r ∧ Arv Z h r k_r .byte 34 V7 (.int 0)) := by
  have N := Fr.nil Z.heap.size
  have P := Keep.refl h0 [b]
  refine Met0.of_walk (plainFor_of_name pn_java_lang_AbstractStringBuilder) (Ls := #[.val (.ref b), .val (.ref a), .unset]) (fun m => by first | rfl | (simp [entryFrame, mkF, argsToLocals, Value.category]; done)) ?_
  intro p e s m below meth c C
  refine aloadN C rs_appenda_30_d0 (pc' := 1) rfl rfl rfl ?_
  refine ifnonnull_ref C rs_appenda_30_d1 (by decide) (pc' := 9) rfl ?_
  refine aloadN C rs_appenda_30_d9 (pc' := 10) rfl rfl rfl ?_
  refine callV_ C (y := (⟨"java/lang/String", "length", "()I"⟩ : MethodName)) (z := (⟨"java/lang/String", "length", "()I"⟩ : MethodName)) (hw _ (List.mem_of_getElem? (i := 62) rfl)) (hw _ (List.mem_of_getElem? (i := 63) rfl)) (nf_sel (hw _ (List.mem_of_getElem? (i := 65) rfl))) (hw _ (List.mem_of_getElem? (i := 65) rfl)) (hw _ (List.mem_of_getElem? (i := 64) rfl)) (hw _ (List.mem_of_getElem? (i := 10) rfl)) (hw _ (List.mem_of_getElem? (i := 66) rfl)) (by decide) X_a pd_7 [] [] rfl rfl (W := 0) rfl (by decide) (by decide) (by decide) (by decide) (rs_length30 l Z a0 hw cs Sc hcs a d k_d h0 O X_a F_a_value F_a_coder A_d) rfl rs_appenda_30_d10 (pc' := 13) rfl ?_
  rintro _ _ _ ⟨rfl, rfl, rfl⟩
  show Wk p l e _ _ m _ below meth c _ _ _ _ _ _ (mkF m 13 #[.val (.ref b), .val (.ref a), .unset] [(.int 30)])
  rw [List.append_nil]
  refine istoreN C rs_appenda_30_d13 (pc' := 14) rfl (Ls' := #[.val (.ref b), .val (.ref a), .val (.int 30)]) rfl ?_
  refine aloadN C rs_appenda_30_d14 (pc' := 15) rfl rfl rfl ?_
  refine aloadN C rs_appenda_30_d15 (pc' := 16) rfl rfl rfl ?_
  refine getF_ C (hw _ (List.mem_of_getElem? (i := 75) rfl)) Via.refl F_b_count rs_appenda_30_d16 (pc' := 19) rfl ?_
  refine iloadN C rs_appenda_30_d19 (pc' := 20) rfl rfl ?_
  refine iadd C rs_appenda_30_d20 (pc' := 21) rfl ?_
  show Wk p l e _ _ m _ below meth c _ _ _ _ _ _ (mkF m 21 #[.val (.ref b), .val (.ref a), .val (.int 30)] [(.int 30), (.ref b)])
  have lt29_b := X_b.lt
  have lt29_a := X_a.lt
  have lt29_d := A_d.lt
  have lt29_e1 := A_e1.lt
  refine callP_ C (y := (⟨"java/lang/AbstractStringBuilder", "ensureCapacityInternal", "(I)V"⟩ : MethodName)) (zs := (⟨"java/lang/AbstractStringBuilder", "isLatin1", "()Z"⟩ : MethodName)) (hw _ (List.mem_of_getElem? (i := 77) rfl)) (hw _ (List.mem_of_getElem? (i := 78) rfl)) (hw _ (List.mem_of_getElem? (i := 79) rfl)) (hw _ (List.mem_of_getElem? (i := 141) rfl)) rfl (hw _ (List.mem_of_getElem? (i := 41) rfl)) (hw _ (List.mem_of_getElem? (i := 81) rfl)) (by decide) X_b pd_8 [(.int 30)] [] rfl rfl (W := 0) rfl (by decide) (by decide) (by decide) (by decide) (rs_ensure_16 l Z a0 hw cs Sc hcs b e1 k_e1 h0 O X_b F_b_value F_b_coder F_b_count A_e1 ge_b ne_b_e1) rfl rs_appenda_30_d21 (pc' := 24) rfl ?_
  rintro _ h29 L29 ⟨b29r, k_b29r, rfl, N29', K29, X29_b, F29_b_value, F29_b_coder, F29_b_count, z29_b29r, A29_b29r⟩
  have N29 := Fr.app N N29'
  have O29 := O.keep K29 (allS ge_b all0)
  have P29 := P.trans K29 (allS (Or.inl (List.mem_of_getElem? (i := 0) rfl)) all0)
  have X29_a := X_a.keep K29
  have F29_a_value := F_a_value.keep K29 (ninS (Ne.symm ne_b_a) (nin0))
  have F29_a_coder := F_a_coder.keep K29 (ninS (Ne.symm ne_b_a) (nin0))
  have A29_d := A_d.keep K29 (ninS (Ne.symm ne_b_d) (nin0))
  have A29_e1 := A_e1.keep K29 (ninS (Ne.symm ne_b_e1) (nin0))
  have ge29_b29r : Z.heap.size ≤ b29r := Nat.le_trans O.2.1 z29_b29r
  have sz29_b29r : h0.size ≤ b29r := Nat.le_trans P.1 z29_b29r
  have ne29_b_b29r : b ≠ b29r := Nat.ne_of_lt (Nat.lt_of_lt_of_le lt29_b z29_b29r)
  have ne29_a_b29r : a ≠ b29r := Nat.ne_of_lt (Nat.lt_of_lt_of_le lt29_a z29_b29r)
  have ne29_d_b29r : d ≠ b29r := Nat.ne_of_lt (Nat.lt_of_lt_of_le lt29_d z29_b29r)
  have ne29_e1_b29r : e1 ≠ b29r := Nat.ne_of_lt (Nat.lt_of_lt_of_le lt29_e1 z29_b29r)
  show Wk p l e _ _ m _ below meth c _ _ _ _ _ _ (mkF m 24 #[.val (.ref b), .val (.ref a), .val (.int 30)] [])
  refine aloadN C rs_appenda_30_d24 (pc' := 25) rfl rfl rfl ?_
  refine aloadN C rs_appenda_30_d25 (pc' := 26) rfl rfl rfl ?_
  refine getF_ C (hw _ (List.mem_of_getElem? (i := 75) rfl)) Via.refl F29_b_count rs_appenda_30_d26 (pc' := 29) rfl ?_
  refine aloadN C rs_appenda_30_d29 (pc' := 30) rfl rfl rfl ?_
  have lt30_b := X29_b.lt
  have lt30_a := X29_a.lt
  have lt30_d := A29_d.lt
  have lt30_e1 := A29_e1.lt
  have lt30_b29r := A29_b29r.lt
  refine callP_ C (y := (⟨"java/lang/AbstractStringBuilder", "putStringAt", "(ILjava/lang/String;)V"⟩ : MethodName)) (zs := (⟨"java/lang/AbstractStringBuilder", "isLatin1", "()Z"⟩ : MethodName)) (hw _ (List.mem_of_getElem? (i := 108) rfl)) (hw _ (List.mem_of_getElem? (i := 109) rfl)) (hw _ (List.mem_of_getElem? (i := 110) rfl)) (hw _ (List.mem_of_getElem? (i := 141) rfl)) rfl (hw _ (List.mem_of_getElem? (i := 41) rfl)) (hw _ (List.mem_of_getElem? (i := 112) rfl)) (by decide) X29_b pd_9 [(.int 0), (.ref a)] [] rfl rfl (W := 0) rfl (by decide) (by decide) (by decide) (by decide) (rs_putStringAt_30 l Z a0 hw cs Sc hcs b a d k_d b29r k_b29r h29 O29 X29_b F29_b_value F29_b_coder F29_b_count X29_a F29_a_value F29_a_coder A29_d A29_b29r ge29_b29r ne29_b_b29r ne29_a_b29r ne29_d_b29r) rfl rs_appenda_30_d30 (pc' := 33) rfl ?_
  rintro _ h30 L30 ⟨rfl, N30', K30, A30_b29r⟩
  have N30 := Fr.app N29 N30'
  have O30 := O29.keep K30 (allS ge29_b29r all0)
  have P30 := P29.trans K30 (allS (Or.inr sz29_b29r) all0)
  have X30_b := X29_b.keep K30
  have F30_b_value := F29_b_value.keep K30 (ninS ne29_b_b29r (nin0))
  have F30_b_coder := F29_b_coder.keep K30 (ninS ne29_b_b29r (nin0))
  have F30_b_count := F29_b_count.keep K30 (ninS ne29_b_b29r (nin0))
  have X30_a := X29_a.keep K30
  have F30_a_value := F29_a_value.keep K30 (ninS ne29_a_b29r (nin0))
  have F30_a_coder := F29_a_coder.keep K30 (ninS ne29_a_b29r (nin0))
  have A30_d := A29_d.keep K30 (ninS ne29_d_b29r (nin0))
  have A30_e1 := A29_e1.keep K30 (ninS ne29_e1_b29r (nin0))
  show Wk p l e _ _ m _ below meth c _ _ _ _ _ _ (mkF m 33 #[.val (.ref b), .val (.ref a), .val (.int 30)] [])
  refine aloadN C rs_appenda_30_d33 (pc' := 34) rfl rfl rfl ?_
  refine dup C rs_appenda_30_d34 (pc' := 35) rfl rfl ?_
  refine getF_ C (hw _ (List.mem_of_getElem? (i := 75) rfl)) Via.refl F30_b_count rs_appenda_30_d35 (pc' := 38) rfl ?_
  refine iloadN C rs_appenda_30_d38 (pc' := 39) rfl rfl ?_
  refine iadd C rs_appenda_30_d39 (pc' := 40) rfl ?_
  show Wk p l e _ _ m _ below meth c _ _ _ _ _ _ (mkF m 40 #[.val (.ref b), .val (.ref a), .val (.int 30)] [(.int 30), (.ref b)])
  refine putF_ C (hw _ (List.mem_of_getElem? (i := 75) rfl)) Via.refl F30_b_count X30_b (Or.inl (hw _ (List.mem_of_getElem? (i := 76) rfl))) (hw _ (List.mem_of_getElem? (i := 32) rfl)) (ty := .int) (by decide) rfl rfl rs_appenda_30_d40 (pc' := 43) rfl ?_
  intro h31 W31
  have O31 := O30.wr W31 ge_b
  have N31 := Fr.put (i := Jvm.RoadKit.slotOf Z "java/lang/AbstractStringBuilder" "count" "I") N30 ge_b
  have P31 := P30.wr W31 (Or.inl (List.mem_of_getElem? (i := 0) rfl))
  have X31_b := X30_b.wr W31
  have F31_b_value := F30_b_value.other W31 (Or.inr (slot_ne (Or.inl (hw _ (List.mem_of_getElem? (i := 48) rfl))) (Or.inl (hw _ (List.mem_of_getElem? (i := 76) rfl))) (by decide) (t := (.array .byte)) (t' := .int) (by decide) (by decide)))
  have F31_b_coder := F30_b_coder.other W31 (Or.inr (slot_ne (Or.inl (hw _ (List.mem_of_getElem? (i := 50) rfl))) (Or.inl (hw _ (List.mem_of_getElem? (i := 76) rfl))) (by decide) (t := .byte) (t' := .int) (by decide) (by decide)))
  have F31_b_count := F30_b_count.same W31
  have X31_a := X30_a.wr W31
  have F31_a_value := F30_a_value.other W31 (Or.inl (Ne.symm ne_b_a))
  have F31_a_coder := F30_a_coder.other W31 (Or.inl (Ne.symm ne_b_a))
  have A31_d := A30_d.other W31 (Ne.symm ne_b_d)
  have A31_e1 := A30_e1.other W31 (Ne.symm ne_b_e1)
  have A31_b29r := A30_b29r.other W31 (Ne.symm ne29_b_b29r)
  refine aloadN C rs_appenda_30_d43 (pc' := 44) rfl rfl rfl ?_
  exact ret_A C rs_appenda_30_d44 rfl rfl rfl rfl (by decide) (by decide) ⟨b29r, k_b29r, rfl, N31, P31, X31_b, F31_b_value, F31_b_coder, F31_b_count, sz29_b29r, A31_b29r⟩
theorem pd_10 : parseMethodDescriptor "(Ljava/lang/String;)Ljava/lang/AbstractStringBuilder;" = some ⟨[(.object "java/lang/String")], some (.object "java/lang/AbstractStringBuilder")⟩ := by decide +kernel
theorem pn_java_lang_StringBuilder : plainName "java/lang/StringBuilder" = true := by first | (simp [plainName, overriddenIn]; done) | decide +kernel
theorem rs_appends_30_d0 : decode jdk_67_method_7_code 0 = .ok (.aload_n 0, 1) := by decide +kernel
theorem rs_appends_30_d1 : decode jdk_67_method_7_code 1 = .ok (.aload_n 1, 1) := by decide +kernel
theorem rs_appends_30_d2 : decode jdk_67_method_7_code 2 = .ok (.invokespecial 29, 3) := by decide +kernel
theorem rs_appends_30_d5 : decode jdk_67_method_7_code 5 = .ok (.pop, 1) := by decide +kernel
theorem rs_appends_30_d6 : decode jdk_67_method_7_code 6 = .ok (.aload_n 0, 1) := by decide +kernel
theorem rs_appends_30_d7 : decode jdk_67_method_7_code 7 = .ok (.areturn, 1) := by decide +kernel
set_option maxRecDepth 65536 in
set_option maxHeartbeats 40000000 in
theorem rs_appends_30 (l : Launch) (Z : State) (a0 : Array Value) (hw : ∀ d ∈ tables_1, d.before a0 Z = true) (cs : Int32) (Sc : Sta Z Z.heap "java/lang/String" "COMPACT_STRINGS" "Z" (.int cs)) (hcs : ¬ cs = 0) (b : Addr) (a : Addr) (d : Addr) (k_d : ClassId) (e1 : Addr) (k_e1 : ClassId) (h0 : Heap) (O : Old Z Z.heap.size h0) (X_b : Exa Z h0 b "java/lang/StringBuilder") (F_b_value : Fld Z h0 b "java/lang/AbstractStringBuilder" "value" "[B" (.ref e1)) (F_b_coder : Fld Z h0 b "java/lang/AbstractStringBuilder" "coder" "B" (.int 0)) (F_b_count : Fld Z h0 b "java/lang/AbstractStringBuilder" "count" "I" (.int 0)) (X_a : Exa Z h0 a "java/lang/String") (F_a_value : Fld Z h0 a "java/lang/String" "value" "[B" (.ref d)) (F_a_coder : Fld Z h0 a "java/lang/String" "coder" "B" (.int 0)) (A_d : Arv Z h0 d k_d .byte 30 V0 (.int 0)) (A_e1 : Arv Z h0 e1 k_e1 .byte 16 V2 (.int 0)) (ge_b : Z.heap.size ≤ b) (ne_b_a : b ≠ a) (ne_b_d : b ≠ d) (ne_b_e1 : b ≠ e1) :
    Met0 l Z (⟨"java/lang/StringBuilder", "append", "(Ljava/lang/String;)Ljava/lang/StringBuilder;"⟩ : MethodName) [] jdk_67_method_7_code 2 (some (.object "java/lang/StringBuilder")) ({ frames := 5, cells := 1, slots := 34, locals := 76 } : Room) #[(.ref b), (.ref a)] h0 (fun v h L => ∃ (r : Addr) (k_r : ClassId), v = some (.ref b) ∧ Fr Z.heap.size L ∧ Keep h0 h [b] ∧ Exa Z h b "java/lang/StringBuilder" ∧ Fld Z h b "java/lang/AbstractStringBuilder" "value" "[B" (.ref r) ∧ Fld Z h b "java/lang/AbstractStringBuilder" "coder" "B" (.int 0) ∧ Fld Z h b "java/lang/AbstractStringBuilder" "count" "I" (.int 30) ∧ h0.size ≤ r ∧ Arv Z h r k_r .byte 34 V7 (.int 0)) := by
  have N := Fr.nil Z.heap.size
  have P := Keep.refl h0 [b]
  refine Met0.of_walk (plainFor_of_name pn_java_lang_StringBuilder) (Ls := #[.val (.ref b), .val (.ref a)]) (fun m => by first | rfl | (simp [entryFrame, mkF, argsToLocals, Value.category]; done)) ?_
  intro p e s m below meth c C
  refine aloadN C rs_appends_30_d0 (pc' := 1) rfl rfl rfl ?_
  refine aloadN C rs_appends_30_d1 (pc' := 2) rfl rfl rfl ?_
  have lt32_b := X_b.lt
  have lt32_a := X_a.lt
  have lt32_d := A_d.lt
  have lt32_e1 := A_e1.lt
  refine callSup_ C (y := (⟨"java/lang/AbstractStringBuilder", "append", "(Ljava/lang/String;)Ljava/lang/AbstractStringBuilder;"⟩ : MethodName)) (zs := (⟨"java/lang/AbstractStringBuilder", "isLatin1", "()Z"⟩ : MethodName)) (hw _ (List.mem_of_getElem? (i := 57) rfl)) (hw _ (List.mem_of_getElem? (i := 58) rfl)) (hw _ (List.mem_of_getElem? (i := 59) rfl)) (hw _ (List.mem_of_getElem? (i := 141) rfl)) rfl (by decide) (hw _ (List.mem_of_getElem? (i := 41) rfl)) (hw _ (List.mem_of_getElem? (i := 61) rfl)) (by decide) X_b pd_10 [(.ref a)] [] rfl rfl (W := 0) rfl (by decide) (by decide) (by decide) (by decide) (rs_appenda_30 l Z a0 hw cs Sc hcs b a d k_d e1 k_e1 h0 O X_b F_b_value F_b_coder F_b_count X_a F_a_value F_a_coder A_d A_e1 ge_b ne_b_a ne_b_d ne_b_e1) rfl rs_appends_30_d2 (pc' := 5) rfl ?_
  rintro _ h32 L32 ⟨b32r, k_b32r, rfl, N32', K32, X32_b, F32_b_value, F32_b_coder, F32_b_count, z32_b32r, A32_b32r⟩
  have N32 := Fr.app N N32'
  have O32 := O.keep K32 (allS ge_b all0)
  have P32 := P.trans K32 (allS (Or.inl (List.mem_of_getElem? (i := 0) rfl)) all0)
  have X32_a := X_a.keep K32
  have F32_a_value := F_a_value.keep K32 (ninS (Ne.symm ne_b_a) (nin0))
  have F32_a_coder := F_a_coder.keep K32 (ninS (Ne.symm ne_b_a) (nin0))
  have A32_d := A_d.keep K32 (ninS (Ne.symm ne_b_d) (nin0))
  have A32_e1 := A_e1.keep K32 (ninS (Ne.symm ne_b_e1) (nin0))
  have ge32_b32r : Z.heap.size ≤ b32r := Nat.le_trans O.2.1 z32_b32r
  have sz32_b32r : h0.size ≤ b32r := Nat.le_trans P.1 z32_b32r
  have ne32_b_b32r : b ≠ b32r := Nat.ne_of_lt (Nat.lt_of_lt_of_le lt32_b z32_b32r)
  have ne32_a_b32r : a ≠ b32r := Nat.ne_of_lt (Nat.lt_of_lt_of_le lt32_a z32_b32r)
  have ne32_d_b32r : d ≠ b32r := Nat.ne_of_lt (Nat.lt_of_lt_of_le lt32_d z32_b32r)
  have ne32_e1_b32r : e1 ≠ b32r := Nat.ne_of_lt (Nat.lt_of_lt_of_le lt32_e1 z32_b32r)
  show Wk p l e _ _ m _ below meth c _ _ _ _ _ _ (mkF m 5 #[.val (.ref b), .val (.ref a)] [(.ref b)])
  refine pop_ C rs_appends_30_d5 (pc' := 6) rfl rfl ?_
  refine aloadN C rs_appends_30_d6 (pc' := 7) rfl rfl rfl ?_
  exact ret_A C rs_appends_30_d7 rfl rfl rfl rfl (by decide) (by decide) ⟨b32r, k_b32r, rfl, N32, P32, X32_b, F32_b_value, F32_b_coder, F32_b_count, sz32_b32r, A32_b32r⟩
theorem rs_appenda_15_d0 : decode jdk_68_method_22_code 0 = .ok (.aload_n 1, 1) := by decide +kernel
theorem rs_appenda_15_d1 : decode jdk_68_method_22_code 1 = .ok (.ifnonnull 8, 3) := by decide +kernel
theorem rs_appenda_15_d9 : decode jdk_68_method_22_code 9 = .ok (.aload_n 1, 1) := by decide +kernel
theorem rs_appenda_15_d10 : decode jdk_68_method_22_code 10 = .ok (.invokevirtual 32, 3) := by decide +kernel
theorem rs_appenda_15_d13 : decode jdk_68_method_22_code 13 = .ok (.istore_n 2, 1) := by decide +kernel
theorem rs_appenda_15_d14 : decode jdk_68_method_22_code 14 = .ok (.aload_n 0, 1) := by decide +kernel
theorem rs_appenda_15_d15 : decode jdk_68_method_22_code 15 = .ok (.aload_n 0, 1) := by decide +kernel
theorem rs_appenda_15_d16 : decode jdk_68_method_22_code 16 = .ok (.getfield 79, 3) := by decide +kernel
theorem rs_appenda_15_d19 : decode jdk_68_method_22_code 19 = .ok (.iload_n 2, 1) := by decide +kernel
theorem rs_appenda_15_d20 : decode jdk_68_method_22_code 20 = .ok (.iadd, 1) := by decide +kernel
theorem rs_appenda_15_d21 : decode jdk_68_method_22_code 21 = .ok (.invokevirtual 100, 3) := by decide +kernel
theorem rs_appenda_15_d24 : decode jdk_68_method_22_code 24 = .ok (.aload_n 0, 1) := by decide +kernel
theorem rs_appenda_15_d25 : decode jdk_68_method_22_code 25 = .ok (.aload_n 0, 1) := by decide +kernel
theorem rs_appenda_15_d26 : decode jdk_68_method_22_code 26 = .ok (.getfield 79, 3) := by decide +kernel
theorem rs_appenda_15_d29 : decode jdk_68_method_22_code 29 = .ok (.aload_n 1, 1) := by decide +kernel
theorem rs_appenda_15_d30 : decode jdk_68_method_22_code 30 = .ok (.invokevirtual 208, 3) := by decide +kernel
theorem rs_appenda_15_d33 : decode jdk_68_method_22_code 33 = .ok (.aload_n 0, 1) := by decide +kernel
theorem rs_appenda_15_d34 : decode jdk_68_method_22_code 34 = .ok (.dup, 1) := by decide +kernel
theorem rs_appenda_15_d35 : decode jdk_68_method_22_code 35 = .ok (.getfield 79, 3) := by decide +kernel
theorem rs_appenda_15_d38 : decode jdk_68_method_22_code 38 = .ok (.iload_n 2, 1) := by decide +kernel
theorem rs_appenda_15_d39 : decode jdk_68_method_22_code 39 = .ok (.iadd, 1) := by decide +kernel
theorem rs_appenda_15_d40 : decode jdk_68_method_22_code 40 = .ok (.putfield 79, 3) := by decide +kernel
theorem rs_appenda_15_d43 : decode jdk_68_method_22_code 43 = .ok (.aload_n 0, 1) := by decide +kernel
theorem rs_appenda_15_d44 : decode jdk_68_method_22_code 44 = .ok (.areturn, 1) := by decide +kernel
set_option maxRecDepth 65536 in
set_option maxHeartbeats 40000000 in
theorem rs_appenda_15 (l : Launch) (Z : State) (a0 : Array Value) (hw : ∀ d ∈ tables_1, d.before a0 Z = true) (cs : Int32) (Sc : Sta Z Z.heap "java/lang/String" "COMPACT_STRINGS" "Z" (.int cs)) (hcs : ¬ cs = 0) (b : Addr) (a : Addr) (d : Addr) (k_d : ClassId) (e1 : Addr) (k_e1 : ClassId) (h0 : Heap) (O : Old Z Z.heap.size h0) (X_b : Exa Z h0 b "java/lang/StringBuilder") (F_b_value : Fld Z h0 b "java/lang/AbstractStringBuilder" "value" "[B" (.ref e1)) (F_b_coder : Fld Z h0 b "java/lang/AbstractStringBuilder" "coder" "B" (.int 0)) (F_b_count : Fld Z h0 b "java/lang/AbstractStringBuilder" "count" "I" (.int 32)) (X_a : Exa Z h0 a "java/lang/String") (F_a_value : Fld Z h0 a "java/lang/String" "value" "[B" (.ref d)) (F_a_coder : Fld Z h0 a "java/lang/String" "coder" "B" (.int 0)) (A_d : Arv Z h0 d k_d .byte 15 V1 (.int 0)) (A_e1 : Arv Z h0 e1 k_e1 .byte 34 V4 (.int 0)) (ge_b : Z.heap.size ≤ b) (ne_b_a : b ≠ a) (ne_b_d : b ≠ d) (ne_b_e1 : b ≠ e1) :
    Met0 l Z (⟨"java/lang/AbstractStringBuilder", "append", "(Ljava/lang/String;)Ljava/lang/AbstractStringBuilder;"⟩ : MethodName) [] jdk_68_method_22_code 3 (some (.object "java/lang/AbstractStringBuilder")) ({ frames := 4, cells := 1, slots := 70, locals := 62 } : Room) #[(.ref b), (.ref a)] h0 (fun v h L => ∃ (r : Addr) (k_r : ClassId), v = some (.ref b) ∧ Fr Z.heap.size L ∧ Keep h0 h [b] ∧ Exa Z h b "java/lang/StringBuilder" ∧ Fld Z h b "java/lang/AbstractStringBuilder" "value" "[B" (.ref r) ∧ Fld Z h b "java/lang/AbstractStringBuilder" "coder" "B" (.int 0) ∧ Fld Z h b "java/lang/AbstractStringBuilder" "count" "I" (.int 47) ∧ h0.size ≤ r ∧ Arv Z h r k_r .byte 70 V8 (.int 0)) := by
  have N := Fr.nil Z.heap.size
  have P := Keep.refl h0 [b]
  refine Met0.of_walk (plainFor_of_name pn_java_lang_AbstractStringBuilder) (Ls := #[.val (.ref b), .val (.ref a), .unset]) (fun m => by first | rfl | (simp [entryFrame, mkF, argsToLocals, Value.category]; done)) ?_
  intro p e s m below meth c C
  refine aloadN C rs_appenda_15_d0 (pc' := 1) rfl rfl rfl ?_
  refine ifnonnull_ref C rs_appenda_15_d1 (by decide) (pc' := 9) rfl ?_
  refine aloadN C rs_appenda_15_d9 (pc' := 10) rfl rfl rfl ?_
  refine callV_ C (y := (⟨"java/lang/String", "length", "()I"⟩ : MethodName)) (z := (⟨"java/lang/String", "length", "()I"⟩ : MethodName)) (hw _ (List.mem_of_getElem? (i := 62) rfl)) (hw _ (List.mem_of_getElem? (i := 63) rfl)) (nf_sel (hw _ (List.mem_of_getElem? (i := 65) rfl))) (hw _ (List.mem_of_getElem? (i := 65) rfl)) (hw _ (List.mem_of_getElem? (i := 64) rfl)) (hw _ (List.mem_of_getElem? (i := 10) rfl)) (hw _ (List.mem_of_getElem? (i := 66) rfl)) (by decide) X_a pd_7 [] [] rfl rfl (W := 0) rfl (by decide) (by decide) (by decide) (by decide) (rs_length15 l Z a0 hw cs Sc hcs a d k_d h0 O X_a F_a_value F_a_coder A_d) rfl rs_appenda_15_d10 (pc' := 13) rfl ?_
  rintro _ _ _ ⟨rfl, rfl, rfl⟩
  show Wk p l e _ _ m _ below meth c _ _ _ _ _ _ (mkF m 13 #[.val (.ref b), .val (.ref a), .unset] [(.int 15)])
  rw [List.append_nil]
  refine istoreN C rs_appenda_15_d13 (pc' := 14) rfl (Ls' := #[.val (.ref b), .val (.ref a), .val (.int 15)]) rfl ?_
  refine aloadN C rs_appenda_15_d14 (pc' := 15) rfl rfl rfl ?_
  refine aloadN C rs_appenda_15_d15 (pc' := 16) rfl rfl rfl ?_
  refine getF_ C (hw _ (List.mem_of_getElem? (i := 75) rfl)) Via.refl F_b_count rs_appenda_15_d16 (pc' := 19) rfl ?_
  refine iloadN C rs_appenda_15_d19 (pc' := 20) rfl rfl ?_
  refine iadd C rs_appenda_15_d20 (pc' := 21) rfl ?_
  show Wk p l e _ _ m _ below meth c _ _ _ _ _ _ (mkF m 21 #[.val (.ref b), .val (.ref a), .val (.int 15)] [(.int 47), (.ref b)])
  have lt34_b := X_b.lt
  have lt34_a := X_a.lt
  have lt34_d := A_d.lt
  have lt34_e1 := A_e1.lt
  refine callP_ C (y := (⟨"java/lang/AbstractStringBuilder", "ensureCapacityInternal", "(I)V"⟩ : MethodName)) (zs := (⟨"java/lang/AbstractStringBuilder", "isLatin1", "()Z"⟩ : MethodName)) (hw _ (List.mem_of_getElem? (i := 77) rfl)) (hw _ (List.mem_of_getElem? (i := 78) rfl)) (hw _ (List.mem_of_getElem? (i := 79) rfl)) (hw _ (List.mem_of_getElem? (i := 141) rfl)) rfl (hw _ (List.mem_of_getElem? (i := 41) rfl)) (hw _ (List.mem_of_getElem? (i := 81) rfl)) (by decide) X_b pd_8 [(.int 47)] [] rfl rfl (W := 0) rfl (by decide) (by decide) (by decide) (by decide) (rs_ensure_34 l Z a0 hw cs Sc hcs b e1 k_e1 h0 O X_b F_b_value F_b_coder F_b_count A_e1 ge_b ne_b_e1) rfl rs_appenda_15_d21 (pc' := 24) rfl ?_
  rintro _ h34 L34 ⟨b34r, k_b34r, rfl, N34', K34, X34_b, F34_b_value, F34_b_coder, F34_b_count, z34_b34r, A34_b34r⟩
  have N34 := Fr.app N N34'
  have O34 := O.keep K34 (allS ge_b all0)
  have P34 := P.trans K34 (allS (Or.inl (List.mem_of_getElem? (i := 0) rfl)) all0)
  have X34_a := X_a.keep K34
  have F34_a_value := F_a_value.keep K34 (ninS (Ne.symm ne_b_a) (nin0))
  have F34_a_coder := F_a_coder.keep K34 (ninS (Ne.symm ne_b_a) (nin0))
  have A34_d := A_d.keep K34 (ninS (Ne.symm ne_b_d) (nin0))
  have A34_e1 := A_e1.keep K34 (ninS (Ne.symm ne_b_e1) (nin0))
  have ge34_b34r : Z.heap.size ≤ b34r := Nat.le_trans O.2.1 z34_b34r
  have sz34_b34r : h0.size ≤ b34r := Nat.le_trans P.1 z34_b34r
  have ne34_b_b34r : b ≠ b34r := Nat.ne_of_lt (Nat.lt_of_lt_of_le lt34_b z34_b34r)
  have ne34_a_b34r : a ≠ b34r := Nat.ne_of_lt (Nat.lt_of_lt_of_le lt34_a z34_b34r)
  have ne34_d_b34r : d ≠ b34r := Nat.ne_of_lt (Nat.lt_of_lt_of_le lt34_d z34_b34r)
  have ne34_e1_b34r : e1 ≠ b34r := Nat.ne_of_lt (Nat.lt_of_lt_of_le lt34_e1 z34_b34r)
  show Wk p l e _ _ m _ below meth c _ _ _ _ _ _ (mkF m 24 #[.val (.ref b), .val (.ref a), .val (.int 15)] [])
  refine aloadN C rs_appenda_15_d24 (pc' := 25) rfl rfl rfl ?_
  refine aloadN C rs_appenda_15_d25 (pc' := 26) rfl rfl rfl ?_
  refine getF_ C (hw _ (List.mem_of_getElem? (i := 75) rfl)) Via.refl F34_b_count rs_appenda_15_d26 (pc' := 29) rfl ?_
  refine aloadN C rs_appenda_15_d29 (pc' := 30) rfl rfl rfl ?_
  have lt35_b := X34_b.lt
  have lt35_a := X34_a.lt
  have lt35_d := A34_d.lt
  have lt35_e1 := A34_e1.lt
  have lt35_b34r := A34_b34r.lt
  refine callP_ C (y := (⟨"java/lang/AbstractStringBuilder", "putStringAt", "(ILjava/lang/String;)V"⟩ : MethodName)) (zs := (⟨"java/lang/AbstractStringBuilder", "isLatin1", "()Z"⟩ : MethodName)) (hw _ (List.mem_of_getElem? (i := 108) rfl)) (hw _ (List.mem_of_getElem? (i := 109) rfl)) (hw _ (List.mem_of_getElem? (i := 110) rfl)) (hw _ (List.mem_of_getElem? (i := 141) rfl)) rfl (hw _ (List.mem_of_getElem? (i := 41) rfl)) (hw _ (List.mem_of_getElem? (i := 112) rfl)) (by decide) X34_b pd_9 [(.int 32), (.ref a)] [] rfl rfl (W := 0) rfl (by decide) (by decide) (by decide) (by decide) (rs_putStringAt_15 l Z a0 hw cs Sc hcs b a d k_d b34r k_b34r h34 O34 X34_b F34_b_value F34_b_coder F34_b_count X34_a F34_a_value F34_a_coder A34_d A34_b34r ge34_b34r ne34_b_b34r ne34_a_b34r ne34_d_b34r) rfl rs_appenda_15_d30 (pc' := 33) rfl ?_
  rintro _ h35 L35 ⟨rfl, N35', K35, A35_b34r⟩
  have N35 := Fr.app N34 N35'
  have O35 := O34.keep K35 (allS ge34_b34r all0)
  have P35 := P34.trans K35 (allS (Or.inr sz34_b34r) all0)
  have X35_b := X34_b.keep K35
  have F35_b_value := F34_b_value.keep K35 (ninS ne34_b_b34r (nin0))
  have F35_b_coder := F34_b_coder.keep K35 (ninS ne34_b_b34r (nin0))
  have F35_b_count := F34_b_count.keep K35 (ninS ne34_b_b34r (nin0))
  have X35_a := X34_a.keep K35
  have F35_a_value := F34_a_value.keep K35 (ninS ne34_a_b34r (nin0))
  have F35_a_coder := F34_a_coder.keep K35 (ninS ne34_a_b34r (nin0))
  have A35_d := A34_d.keep K35 (ninS ne34_d_b34r (nin0))
  have A35_e1 := A34_e1.keep K35 (ninS ne34_e1_b34r (nin0))
  show Wk p l e _ _ m _ below meth c _ _ _ _ _ _ (mkF m 33 #[.val (.ref b), .val (.ref a), .val (.int 15)] [])
  refine aloadN C rs_appenda_15_d33 (pc' := 34) rfl rfl rfl ?_
  refine dup C rs_appenda_15_d34 (pc' := 35) rfl rfl ?_
  refine getF_ C (hw _ (List.mem_of_getElem? (i := 75) rfl)) Via.refl F35_b_count rs_appenda_15_d35 (pc' := 38) rfl ?_
  refine iloadN C rs_appenda_15_d38 (pc' := 39) rfl rfl ?_
  refine iadd C rs_appenda_15_d39 (pc' := 40) rfl ?_
  show Wk p l e _ _ m _ below meth c _ _ _ _ _ _ (mkF m 40 #[.val (.ref b), .val (.ref a), .val (.int 15)] [(.int 47), (.ref b)])
  refine putF_ C (hw _ (List.mem_of_getElem? (i := 75) rfl)) Via.refl F35_b_count X35_b (Or.inl (hw _ (List.mem_of_getElem? (i := 76) rfl))) (hw _ (List.mem_of_getElem? (i := 32) rfl)) (ty := .int) (by decide) rfl rfl rs_appenda_15_d40 (pc' := 43) rfl ?_
  intro h36 W36
  have O36 := O35.wr W36 ge_b
  have N36 := Fr.put (i := Jvm.RoadKit.slotOf Z "java/lang/AbstractStringBuilder" "count" "I") N35 ge_b
  have P36 := P35.wr W36 (Or.inl (List.mem_of_getElem? (i := 0) rfl))
  have X36_b := X35_b.wr W36
  have F36_b_value := F35_b_value.other W36 (Or.inr (slot_ne (Or.inl (hw _ (List.mem_of_getElem? (i := 48) rfl))) (Or.inl (hw _ (List.mem_of_getElem? (i := 76) rfl))) (by decide) (t := (.array .byte)) (t' := .int) (by decide) (by decide)))
  have F36_b_coder := F35_b_coder.other W36 (Or.inr (slot_ne (Or.inl (hw _ (List.mem_of_getElem? (i := 50) rfl))) (Or.inl (hw _ (List.mem_of_getElem? (i := 76) rfl))) (by decide) (t := .byte) (t' := .int) (by decide) (by decide)))
  have F36_b_count := F35_b_count.same W36
  have X36_a := X35_a.wr W36
  have F36_a_value := F35_a_value.other W36 (Or.inl (Ne.symm ne_b_a))
  have F36_a_coder := F35_a_coder.other W36 (Or.inl (Ne.symm ne_b_a))
  have A36_d := A35_d.other W36 (Ne.symm ne_b_d)
  have A36_e1 := A35_e1.other W36 (Ne.symm ne_b_e1)
  have A36_b34r := A35_b34r.other W36 (Ne.symm ne34_b_b34r)
  refine aloadN C rs_appenda_15_d43 (pc' := 44) rfl rfl rfl ?_
  exact ret_A C rs_appenda_15_d44 rfl rfl rfl rfl (by decide) (by decide) ⟨b34r, k_b34r, rfl, N36, P36, X36_b, F36_b_value, F36_b_coder, F36_b_count, sz34_b34r, A36_b34r⟩
theorem rs_appends_15_d0 : decode jdk_67_method_7_code 0 = .ok (.aload_n 0, 1) := by decide +kernel
theorem rs_appends_15_d1 : decode jdk_67_method_7_code 1 = .ok (.aload_n 1, 1) := by decide +kernel
theorem rs_appends_15_d2 : decode jdk_67_method_7_code 2 = .ok (.invokespecial 29, 3) := by decide +kernel
theorem rs_appends_15_d5 : decode jdk_67_method_7_code 5 = .ok (.pop, 1) := by decide +kernel
theorem rs_appends_15_d6 : decode jdk_67_method_7_code 6 = .ok (.aload_n 0, 1) := by decide +kernel
theorem rs_appends_15_d7 : decode jdk_67_method_7_code 7 = .ok (.areturn, 1) := by decide +kernel
set_option maxRecDepth 65536 in
set_option maxHeartbeats 40000000 in
theorem rs_appends_15 (l : Launch) (Z : State) (a0 : Array Value) (hw : ∀ d ∈ tables_1, d.before a0 Z = true) (cs : Int32) (Sc : Sta Z Z.heap "java/lang/String" "COMPACT_STRINGS" "Z" (.int cs)) (hcs : ¬ cs = 0) (b : Addr) (a : Addr) (d : Addr) (k_d : ClassId) (e1 : Addr) (k_e1 : ClassId) (h0 : Heap) (O : Old Z Z.heap.size h0) (X_b : Exa Z h0 b "java/lang/StringBuilder") (F_b_value : Fld Z h0 b "java/lang/AbstractStringBuilder" "value" "[B" (.ref e1)) (F_b_coder : Fld Z h0 b "java/lang/AbstractStringBuilder" "coder" "B" (.int 0)) (F_b_count : Fld Z h0 b "java/lang/AbstractStringBuilder" "count" "I" (.int 32)) (X_a : Exa Z h0 a "java/lang/String") (F_a_value : Fld Z h0 a "java/lang/String" "value" "[B" (.ref d)) (F_a_coder : Fld Z h0 a "java/lang/String" "coder" "B" (.int 0)) (A_d : Arv Z h0 d k_d .byte 15 V1 (.int 0)) (A_e1 : Arv Z h0 e1 k_e1 .byte 34 V4 (.int 0)) (ge_b : Z.heap.size ≤ b) (ne_b_a : b ≠ a) (ne_b_d : b ≠ d) (ne_b_e1 : b ≠ e1) :
    Met0 l Z (⟨"java/lang/StringBuilder", "append", "(Ljava/lang/String;)Ljava/lang/StringBuilder;"⟩ : MethodName) [] jdk_67_method_7_code 2 (some (.object "java/lang/StringBuilder")) ({ frames := 5, cells := 1, slots := 70, locals := 76 } : Room) #[(.ref b), (.ref a)] h0 (fun v h L => ∃ (r : Addr) (k_r : ClassId), v = some (.ref b) ∧ Fr Z.heap.size L ∧ Keep h0 h [b] ∧ Exa Z h b "java/lang/StringBuilder" ∧ Fld Z h b "java/lang/AbstractStringBuilder" "value" "[B" (.ref r) ∧ Fld Z h b "java/lang/AbstractStringBuilder" "coder" "B" (.int 0) ∧ Fld Z h b "java/lang/AbstractStringBuilder" "count" "I" (.int 47) ∧ h0.size ≤ r ∧ Arv Z h r k_r .byte 70 V8 (.int 0)) := by
  have N := Fr.nil Z.heap.size
  have P := Keep.refl h0 [b]
  refine Met0.of_walk (plainFor_of_name pn_java_lang_StringBuilder) (Ls := #[.val (.ref b), .val (.ref a)]) (fun m => by first | rfl | (simp [entryFrame, mkF, argsToLocals, Value.category]; done)) ?_
  intro p e s m below meth c C
  refine aloadN C rs_appends_15_d0 (pc' := 1) rfl rfl rfl ?_
  refine aloadN C rs_appends_15_d1 (pc' := 2) rfl rfl rfl ?_
  have lt37_b := X_b.lt
  have lt37_a := X_a.lt
  have lt37_d := A_d.lt
  have lt37_e1 := A_e1.lt
  refine callSup_ C (y := (⟨"java/lang/AbstractStringBuilder", "append", "(Ljava/lang/String;)Ljava/lang/AbstractStringBuilder;"⟩ : MethodName)) (zs := (⟨"java/lang/AbstractStringBuilder", "isLatin1", "()Z"⟩ : MethodName)) (hw _ (List.mem_of_getElem? (i := 57) rfl)) (hw _ (List.mem_of_getElem? (i := 58) rfl)) (hw _ (List.mem_of_getElem? (i := 59) rfl)) (hw _ (List.mem_of_getElem? (i := 141) rfl)) rfl (by decide) (hw _ (List.mem_of_getElem? (i := 41) rfl)) (hw _ (List.mem_of_getElem? (i := 61) rfl)) (by decide) X_b pd_10 [(.ref a)] [] rfl rfl (W := 0) rfl (by decide) (by decide) (by decide) (by decide) (rs_appenda_15 l Z a0 hw cs Sc hcs b a d k_d e1 k_e1 h0 O X_b F_b_value F_b_coder F_b_count X_a F_a_value F_a_coder A_d A_e1 ge_b ne_b_a ne_b_d ne_b_e1) rfl rs_appends_15_d2 (pc' := 5) rfl ?_
  rintro _ h37 L37 ⟨b37r, k_b37r, rfl, N37', K37, X37_b, F37_b_value, F37_b_coder, F37_b_count, z37_b37r, A37_b37r⟩
  have N37 := Fr.app N N37'
  have O37 := O.keep K37 (allS ge_b all0)
  have P37 := P.trans K37 (allS (Or.inl (List.mem_of_getElem? (i := 0) rfl)) all0)
  have X37_a := X_a.keep K37
  have F37_a_value := F_a_value.keep K37 (ninS (Ne.symm ne_b_a) (nin0))
  have F37_a_coder := F_a_coder.keep K37 (ninS (Ne.symm ne_b_a) (nin0))
  have A37_d := A_d.keep K37 (ninS (Ne.symm ne_b_d) (nin0))
  have A37_e1 := A_e1.keep K37 (ninS (Ne.symm ne_b_e1) (nin0))
  have ge37_b37r : Z.heap.size ≤ b37r := Nat.le_trans O.2.1 z37_b37r
  have sz37_b37r : h0.size ≤ b37r := Nat.le_trans P.1 z37_b37r
  have ne37_b_b37r : b ≠ b37r := Nat.ne_of_lt (Nat.lt_of_lt_of_le lt37_b z37_b37r)
  have ne37_a_b37r : a ≠ b37r := Nat.ne_of_lt (Nat.lt_of_lt_of_le lt37_a z37_b37r)
  have ne37_d_b37r : d ≠ b37r := Nat.ne_of_lt (Nat.lt_of_lt_of_le lt37_d z37_b37r)
  have ne37_e1_b37r : e1 ≠ b37r := Nat.ne_of_lt (Nat.lt_of_lt_of_le lt37_e1 z37_b37r)
  show Wk p l e _ _ m _ below meth c _ _ _ _ _ _ (mkF m 5 #[.val (.ref b), .val (.ref a)] [(.ref b)])
  refine pop_ C rs_appends_15_d5 (pc' := 6) rfl rfl ?_
  refine aloadN C rs_appends_15_d6 (pc' := 7) rfl rfl rfl ?_
  exact ret_A C rs_appends_15_d7 rfl rfl rfl rfl (by decide) (by decide) ⟨b37r, k_b37r, rfl, N37, P37, X37_b, F37_b_value, F37_b_coder, F37_b_count, sz37_b37r, A37_b37r⟩
theorem pn_java_lang_Integer : plainName "java/lang/Integer" = true := by first | (simp [plainName, overriddenIn]; done) | decide +kernel
theorem rs_stringSize_d0 : decode jdk_33_method_13_code 0 = .ok (.iconst 1, 1) := by decide +kernel
theorem rs_stringSize_d1 : decode jdk_33_method_13_code 1 = .ok (.istore_n 1, 1) := by decide +kernel
theorem rs_stringSize_d2 : decode jdk_33_method_13_code 2 = .ok (.iload_n 0, 1) := by decide +kernel
theorem rs_stringSize_d3 : decode jdk_33_method_13_code 3 = .ok (.ifCond .lt 8, 3) := by decide +kernel
theorem rs_stringSize_d6 : decode jdk_33_method_13_code 6 = .ok (.iconst 0, 1) := by decide +kernel
theorem rs_stringSize_d7 : decode jdk_33_method_13_code 7 = .ok (.istore_n 1, 1) := by decide +kernel
theorem rs_stringSize_d8 : decode jdk_33_method_13_code 8 = .ok (.iload_n 0, 1) := by decide +kernel
theorem rs_stringSize_d9 : decode jdk_33_method_13_code 9 = .ok (.ineg, 1) := by decide +kernel
theorem rs_stringSize_d10 : decode jdk_33_method_13_code 10 = .ok (.istore_n 0, 1) := by decide +kernel
theorem rs_stringSize_d11 : decode jdk_33_method_13_code 11 = .ok (.bipush (-10), 2) := by decide +kernel
theorem rs_stringSize_d13 : decode jdk_33_method_13_code 13 = .ok (.istore_n 2, 1) := by decide +kernel
theorem rs_stringSize_d14 : decode jdk_33_method_13_code 14 = .ok (.iconst 1, 1) := by decide +kernel
theorem rs_stringSize_d15 : decode jdk_33_method_13_code 15 = .ok (.istore_n 3, 1) := by decide +kernel
theorem rs_stringSize_d16 : decode jdk_33_method_13_code 16 = .ok (.iload_n 3, 1) := by decide +kernel
theorem rs_stringSize_d17 : decode jdk_33_method_13_code 17 = .ok (.bipush 10, 2) := by decide +kernel
theorem rs_stringSize_d19 : decode jdk_33_method_13_code 19 = .ok (.if_icmp .ge 23, 3) := by decide +kernel
theorem rs_stringSize_d22 : decode jdk_33_method_13_code 22 = .ok (.iload_n 0, 1) := by decide +kernel
theorem rs_stringSize_d23 : decode jdk_33_method_13_code 23 = .ok (.iload_n 2, 1) := by decide +kernel
theorem rs_stringSize_d24 : decode jdk_33_method_13_code 24 = .ok (.if_icmp .le 7, 3) := by decide +kernel
theorem rs_stringSize_d27 : decode jdk_33_method_13_code 27 = .ok (.iload_n 3, 1) := by decide +kernel
theorem rs_stringSize_d28 : decode jdk_33_method_13_code 28 = .ok (.iload_n 1, 1) := by decide +kernel
theorem rs_stringSize_d29 : decode jdk_33_method_13_code 29 = .ok (.iadd, 1) := by decide +kernel
theorem rs_stringSize_d30 : decode jdk_33_method_13_code 30 = .ok (.ireturn, 1) := by decide +kernel
theorem rs_stringSize_d31 : decode jdk_33_method_13_code 31 = .ok (.bipush 10, 2) := by decide +kernel
theorem rs_stringSize_d33 : decode jdk_33_method_13_code 33 = .ok (.iload_n 2, 1) := by decide +kernel
theorem rs_stringSize_d34 : decode jdk_33_method_13_code 34 = .ok (.imul, 1) := by decide +kernel
theorem rs_stringSize_d35 : decode jdk_33_method_13_code 35 = .ok (.istore_n 2, 1) := by decide +kernel
theorem rs_stringSize_d36 : decode jdk_33_method_13_code 36 = .ok (.iinc 3 1, 3) := by decide +kernel
theorem rs_stringSize_d39 : decode jdk_33_method_13_code 39 = .ok (.goto (-23), 3) := by decide +kernel
set_option maxRecDepth 65536 in
set_option maxHeartbeats 40000000 in
theorem rs_stringSize (l : Launch) (Z : State) (a0 : Array Value) (hw : ∀ d ∈ tables_1, d.before a0 Z = true) (cs : Int32) (Sc : Sta Z Z.heap "java/lang/String" "COMPACT_STRINGS" "Z" (.int cs)) (hcs : ¬ cs = 0)  (h0 : Heap) (O : Old Z Z.heap.size h0) :
    Met0 l Z (⟨"java/lang/Integer", "stringSize", "(I)I"⟩ : MethodName) [] jdk_33_method_13_code 4 (some .int) ({ frames := 0, cells := 0, slots := 0, locals := 0 } : Room) #[(.int 10)] h0 (fun v h L => v = some (.int 2) ∧ h0 = h ∧ L = []) := by
  have N := Fr.nil Z.heap.size
  have P := Keep.refl h0 []
  refine Met0.of_walk (plainFor_of_name pn_java_lang_Integer) (Ls := #[.val (.int 10), .unset, .unset, .unset]) (fun m => by first | rfl | (simp [entryFrame, mkF, argsToLocals, Value.category]; done)) ?_
  intro p e s m below meth c C
  refine iconst C rs_stringSize_d0 (pc' := 1) rfl (v := 1) rfl ?_
  refine istoreN C rs_stringSize_d1 (pc' := 2) rfl (Ls' := #[.val (.int 10), .val (.int 1), .unset, .unset]) rfl ?_
  refine iloadN C rs_stringSize_d2 (pc' := 3) rfl rfl ?_
  refine if_lt C 11 6 rs_stringSize_d3 (by decide) rfl rfl (fun q3 => ?_) (fun q3 => ?_)
  · exact absurd q3 (by decide)
  refine iconst C rs_stringSize_d6 (pc' := 7) rfl (v := 0) rfl ?_
  refine istoreN C rs_stringSize_d7 (pc' := 8) rfl (Ls' := #[.val (.int 10), .val (.int 0), .unset, .unset]) rfl ?_
  refine iloadN C rs_stringSize_d8 (pc' := 9) rfl rfl ?_
  refine ineg C rs_stringSize_d9 (pc' := 10) rfl ?_
  show Wk p l e _ _ m _ below meth c _ _ _ _ _ _ (mkF m 10 #[.val (.int 10), .val (.int 0), .unset, .unset] [(.int (-10))])
  refine istoreN C rs_stringSize_d10 (pc' := 11) rfl (Ls' := #[.val (.int (-10)), .val (.int 0), .unset, .unset]) rfl ?_
  refine bipush C rs_stringSize_d11 (pc' := 13) rfl (v := (-10)) rfl ?_
  refine istoreN C rs_stringSize_d13 (pc' := 14) rfl (Ls' := #[.val (.int (-10)), .val (.int 0), .val (.int (-10)), .unset]) rfl ?_
  refine iconst C rs_stringSize_d14 (pc' := 15) rfl (v := 1) rfl ?_
  refine istoreN C rs_stringSize_d15 (pc' := 16) rfl (Ls' := #[.val (.int (-10)), .val (.int 0), .val (.int (-10)), .val (.int 1)]) rfl ?_
  refine iloadN C rs_stringSize_d16 (pc' := 17) rfl rfl ?_
  refine bipush C rs_stringSize_d17 (pc' := 19) rfl (v := 10) rfl ?_
  refine icmp_ge C 42 22 rs_stringSize_d19 (by decide) rfl rfl (fun q19 => ?_) (fun q19 => ?_)
  · exact absurd q19 (by decide)
  refine iloadN C rs_stringSize_d22 (pc' := 23) rfl rfl ?_
  refine iloadN C rs_stringSize_d23 (pc' := 24) rfl rfl ?_
  refine icmp_le C 31 27 rs_stringSize_d24 (by decide) rfl rfl (fun q24 => ?_) (fun q24 => ?_)
  · skip
    refine bipush C rs_stringSize_d31 (pc' := 33) rfl (v := 10) rfl ?_
    refine iloadN C rs_stringSize_d33 (pc' := 34) rfl rfl ?_
    refine imul C rs_stringSize_d34 (pc' := 35) rfl ?_
    show Wk p l e _ _ m _ below meth c _ _ _ _ _ _ (mkF m 35 #[.val (.int (-10)), .val (.int 0), .val (.int (-10)), .val (.int 1)] [(.int (-100))])
    refine istoreN C rs_stringSize_d35 (pc' := 36) rfl (Ls' := #[.val (.int (-10)), .val (.int 0), .val (.int (-100)), .val (.int 1)]) rfl ?_
    refine iinc C rs_stringSize_d36 (pc' := 39) rfl rfl (Ls' := #[.val (.int (-10)), .val (.int 0), .val (.int (-100)), .val (.int 2)]) rfl ?_
    refine goto_ C rs_stringSize_d39 (by decide) (pc' := 16) rfl ?_
    refine iloadN C rs_stringSize_d16 (pc' := 17) rfl rfl ?_
    refine bipush C rs_stringSize_d17 (pc' := 19) rfl (v := 10) rfl ?_
    refine icmp_ge C 42 22 rs_stringSize_d19 (by decide) rfl rfl (fun q19 => ?_) (fun q19 => ?_)
    · exact absurd q19 (by decide)
    refine iloadN C rs_stringSize_d22 (pc' := 23) rfl rfl ?_
    refine iloadN C rs_stringSize_d23 (pc' := 24) rfl rfl ?_
    refine icmp_le C 31 27 rs_stringSize_d24 (by decide) rfl rfl (fun q24 => ?_) (fun q24 => ?_)
    · exact absurd q24 (by decide)
    refine iloadN C rs_stringSize_d27 (pc' := 28) rfl rfl ?_
    refine iloadN C rs_stringSize_d28 (pc' := 29) rfl rfl ?_
    refine iadd C rs_stringSize_d29 (pc' := 30) rfl ?_
    show Wk p l e _ _ m _ below meth c _ _ _ _ _ _ (mkF m 30 #[.val (.int (-10)), .val (.int 0), .val (.int (-100)), .val (.int 2)] [(.int 2)])
    exact ret_I C rs_stringSize_d30 rfl (by decide) (by decide) ⟨rfl, rfl, rfl⟩
  · exact absurd q24 (by decide)
theorem rs_isLatin1_d0 : decode jdk_68_method_68_code 0 = .ok (.getstatic 18, 3) := by decide +kernel
theorem rs_isLatin1_d3 : decode jdk_68_method_68_code 3 = .ok (.ifCond .eq 14, 3) := by decide +kernel
theorem rs_isLatin1_d6 : decode jdk_68_method_68_code 6 = .ok (.aload_n 0, 1) := by decide +kernel
theorem rs_isLatin1_d7 : decode jdk_68_method_68_code 7 = .ok (.getfield 22, 3) := by decide +kernel
theorem rs_isLatin1_d10 : decode jdk_68_method_68_code 10 = .ok (.ifCond .ne 7, 3) := by decide +kernel
theorem rs_isLatin1_d13 : decode jdk_68_method_68_code 13 = .ok (.iconst 1, 1) := by decide +kernel
theorem rs_isLatin1_d14 : decode jdk_68_method_68_code 14 = .ok (.goto 4, 3) := by decide +kernel
theorem rs_isLatin1_d18 : decode jdk_68_method_68_code 18 = .ok (.ireturn, 1) := by decide +kernel
set_option maxRecDepth 65536 in
set_option maxHeartbeats 40000000 in
theorem rs_isLatin1 (l : Launch) (Z : State) (a0 : Array Value) (hw : ∀ d ∈ tables_1, d.before a0 Z = true) (cs : Int32) (Sc : Sta Z Z.heap "java/lang/String" "COMPACT_STRINGS" "Z" (.int cs)) (hcs : ¬ cs = 0) (b : Addr) (h0 : Heap) (O : Old Z Z.heap.size h0) (X_b : Exa Z h0 b "java/lang/StringBuilder") (F_b_coder : Fld Z h0 b "java/lang/AbstractStringBuilder" "coder" "B" (.int 0)) :
    Met0 l Z (⟨"java/lang/AbstractStringBuilder", "isLatin1", "()Z"⟩ : MethodName) [] jdk_68_method_68_code 1 (some .boolean) ({ frames := 0, cells := 0, slots := 0, locals := 0 } : Room) #[(.ref b)] h0 (fun v h L => v = some (.int 1) ∧ h0 = h ∧ L = []) := by
  have N := Fr.nil Z.heap.size
  have P := Keep.refl h0 []
  refine Met0.of_walk (plainFor_of_name pn_java_lang_AbstractStringBuilder) (Ls := #[.val (.ref b)]) (fun m => by first | rfl | (simp [entryFrame, mkF, argsToLocals, Value.category]; done)) ?_
  intro p e s m below meth c C
  refine getS_ C (hw _ (List.mem_of_getElem? (i := 46) rfl)) (Sc.ext O.2) rs_isLatin1_d0 (pc' := 3) rfl ?_
  refine if_eq C 17 6 rs_isLatin1_d3 (by decide) rfl rfl (fun q3 => ?_) (fun q3 => ?_)
  · exact absurd q3 hcs
  refine aloadN C rs_isLatin1_d6 (pc' := 7) rfl rfl rfl ?_
  refine getF_ C (hw _ (List.mem_of_getElem? (i := 49) rfl)) Via.refl F_b_coder rs_isLatin1_d7 (pc' := 10) rfl ?_
  refine if_ne C 17 13 rs_isLatin1_d10 (by decide) rfl rfl (fun q10 => ?_) (fun q10 => ?_)
  · exact absurd q10 (by decide)
  refine iconst C rs_isLatin1_d13 (pc' := 14) rfl (v := 1) rfl ?_
  refine goto_ C rs_isLatin1_d14 (by decide) (pc' := 18) rfl ?_
  exact ret_Z C rs_isLatin1_d18 rfl (by decide) (by decide) (by decide) ⟨rfl, rfl, rfl⟩
abbrev V9 : List Value := [.int 48, .int 49, .int 50, .int 51, .int 52, .int 53, .int 54, .int 55, .int 56, .int 57, .int 48, .int 49, .int 50, .int 51, .int 52, .int 53, .int 54, .int 55, .int 56, .int 57, .int 48, .int 49, .int 50, .int 51, .int 52, .int 53, .int 54, .int 55, .int 56, .int 57, .int 48, .int 49, .int 50, .int 51, .int 52, .int 53, .int 54, .int 55, .int 56, .int 57, .int 48, .int 49, .int 50, .int 51, .int 52, .int 53, .int 54, .int 55, .int 56, .int 57, .int 48, .int 49, .int 50, .int 51, .int 52, .int 53, .int 54, .int 55, .int 56, .int 57, .int 48, .int 49, .int 50, .int 51, .int 52, .int 53, .int 54, .int 55, .int 56, .int 57, .int 48, .int 49, .int 50, .int 51, .int 52, .int 53, .int 54, .int 55, .int 56, .int 57, .int 48, .int 49, .int 50, .int 51, .int 52, .int 53, .int 54, .int 55, .int 56, .int 57, .int 48, .int 49, .int 50, .int 51, .int 52, .int 53, .int 54, .int 55, .int 56, .int 57]
abbrev V10 : List Value := [.int 48, .int 48, .int 48, .int 48, .int 48, .int 48, .int 48, .int 48, .int 48, .int 48, .int 49, .int 49, .int 49, .int 49, .int 49, .int 49, .int 49, .int 49, .int 49, .int 49, .int 50, .int 50, .int 50, .int 50, .int 50, .int 50, .int 50, .int 50, .int 50, .int 50, .int 51, .int 51, .int 51, .int 51, .int 51, .int 51, .int 51, .int 51, .int 51, .int 51, .int 52, .int 52, .int 52, .int 52, .int 52, .int 52, .int 52, .int 52, .int 52, .int 52, .int 53, .int 53, .int 53, .int 53, .int 53, .int 53, .int 53, .int 53, .int 53, .int 53, .int 54, .int 54, .int 54, .int 54, .int 54, .int 54, .int 54, .int 54, .int 54, .int 54, .int 55, .int 55, .int 55, .int 55, .int 55, .int 55, .int 55, .int 55, .int 55, .int 55, .int 56, .int 56, .int 56, .int 56, .int 56, .int 56, .int 56, .int 56, .int 56, .int 56, .int 57, .int 57, .int 57, .int 57, .int 57, .int 57, .int 57, .int 57, .int 57, .int 57]
abbrev V11 : List Value := [.int 97, .int 32, .int 110, .int 117, .int 109, .int 98, .int 101, .int 114, .int 32, .int 111, .int 102, .int 32, .int 115, .int 104, .int 97, .int 114, .int 101, .int 115, .int 32, .int 111, .int 102, .int 32, .int 97, .int 116, .int 32, .int 109, .int 111, .int 115, .int 116, .int 32, .int 0, .int 48, .int 0, .int 0]
theorem rs_getChars_d0 : decode jdk_33_method_12_code 0 = .ok (.iload_n 1, 1) := by decide +kernel
theorem rs_getChars_d1 : decode jdk_33_method_12_code 1 = .ok (.istore 5, 2) := by decide +kernel
theorem rs_getChars_d3 : decode jdk_33_method_12_code 3 = .ok (.iload_n 0, 1) := by decide +kernel
theorem rs_getChars_d4 : decode jdk_33_method_12_code 4 = .ok (.ifCond .ge 7, 3) := by decide +kernel
theorem rs_getChars_d11 : decode jdk_33_method_12_code 11 = .ok (.iconst 0, 1) := by decide +kernel
theorem rs_getChars_d12 : decode jdk_33_method_12_code 12 = .ok (.istore 6, 2) := by decide +kernel
theorem rs_getChars_d14 : decode jdk_33_method_12_code 14 = .ok (.iload 6, 2) := by decide +kernel
theorem rs_getChars_d16 : decode jdk_33_method_12_code 16 = .ok (.ifCond .ne 6, 3) := by decide +kernel
theorem rs_getChars_d19 : decode jdk_33_method_12_code 19 = .ok (.iload_n 0, 1) := by decide +kernel
theorem rs_getChars_d20 : decode jdk_33_method_12_code 20 = .ok (.ineg, 1) := by decide +kernel
theorem rs_getChars_d21 : decode jdk_33_method_12_code 21 = .ok (.istore_n 0, 1) := by decide +kernel
theorem rs_getChars_d22 : decode jdk_33_method_12_code 22 = .ok (.iload_n 0, 1) := by decide +kernel
theorem rs_getChars_d23 : decode jdk_33_method_12_code 23 = .ok (.bipush (-100), 2) := by decide +kernel
theorem rs_getChars_d25 : decode jdk_33_method_12_code 25 = .ok (.if_icmp .gt 47, 3) := by decide +kernel
theorem rs_getChars_d72 : decode jdk_33_method_12_code 72 = .ok (.aload_n 2, 1) := by decide +kernel
theorem rs_getChars_d73 : decode jdk_33_method_12_code 73 = .ok (.iinc 5 (-1), 3) := by decide +kernel
theorem rs_getChars_d76 : decode jdk_33_method_12_code 76 = .ok (.iload 5, 2) := by decide +kernel
theorem rs_getChars_d78 : decode jdk_33_method_12_code 78 = .ok (.getstatic 83, 3) := by decide +kernel
theorem rs_getChars_d81 : decode jdk_33_method_12_code 81 = .ok (.iload_n 0, 1) := by decide +kernel
theorem rs_getChars_d82 : decode jdk_33_method_12_code 82 = .ok (.ineg, 1) := by decide +kernel
theorem rs_getChars_d83 : decode jdk_33_method_12_code 83 = .ok (.baload, 1) := by decide +kernel
theorem rs_getChars_d84 : decode jdk_33_method_12_code 84 = .ok (.bastore, 1) := by decide +kernel
theorem rs_getChars_d85 : decode jdk_33_method_12_code 85 = .ok (.iload_n 0, 1) := by decide +kernel
theorem rs_getChars_d86 : decode jdk_33_method_12_code 86 = .ok (.bipush (-9), 2) := by decide +kernel
theorem rs_getChars_d88 : decode jdk_33_method_12_code 88 = .ok (.if_icmp .ge 16, 3) := by decide +kernel
theorem rs_getChars_d91 : decode jdk_33_method_12_code 91 = .ok (.aload_n 2, 1) := by decide +kernel
theorem rs_getChars_d92 : decode jdk_33_method_12_code 92 = .ok (.iinc 5 (-1), 3) := by decide +kernel
theorem rs_getChars_d95 : decode jdk_33_method_12_code 95 = .ok (.iload 5, 2) := by decide +kernel
theorem rs_getChars_d97 : decode jdk_33_method_12_code 97 = .ok (.getstatic 87, 3) := by decide +kernel
theorem rs_getChars_d100 : decode jdk_33_method_12_code 100 = .ok (.iload_n 0, 1) := by decide +kernel
theorem rs_getChars_d101 : decode jdk_33_method_12_code 101 = .ok (.ineg, 1) := by decide +kernel
theorem rs_getChars_d102 : decode jdk_33_method_12_code 102 = .ok (.baload, 1) := by decide +kernel
theorem rs_getChars_d103 : decode jdk_33_method_12_code 103 = .ok (.bastore, 1) := by decide +kernel
theorem rs_getChars_d104 : decode jdk_33_method_12_code 104 = .ok (.iload 6, 2) := by decide +kernel
theorem rs_getChars_d106 : decode jdk_33_method_12_code 106 = .ok (.ifCond .eq 12, 3) := by decide +kernel
theorem rs_getChars_d118 : decode jdk_33_method_12_code 118 = .ok (.iload 5, 2) := by decide +kernel
theorem rs_getChars_d120 : decode jdk_33_method_12_code 120 = .ok (.ireturn, 1) := by decide +kernel
set_option maxRecDepth 65536 in
set_option maxHeartbeats 40000000 in
theorem rs_getChars (l : Launch) (Z : State) (a0 : Array Value) (hw : ∀ d ∈ tables_1, d.before a0 Z = true) (cs : Int32) (Sc : Sta Z Z.heap "java/lang/String" "COMPACT_STRINGS" "Z" (.int cs)) (hcs : ¬ cs = 0) (e1 : Addr) (k_e1 : ClassId) (d1 : Addr) (k_d1 : ClassId) (d2 : Addr) (k_d2 : ClassId) (h0 : Heap) (O : Old Z Z.heap.size h0) (A_e1 : Arv Z h0 e1 k_e1 .byte 34 V7 (.int 0)) (A_d1 : Arv Z h0 d1 k_d1 .byte 100 V9 (.int 0)) (A_d2 : Arv Z h0 d2 k_d2 .byte 100 V10 (.int 0)) (ge_e1 : Z.heap.size ≤ e1) (ne_e1_d1 : e1 ≠ d1) (ne_e1_d2 : e1 ≠ d2) (S_d1 : Sta Z Z.heap "java/lang/Integer" "DigitOnes" "[B" (.ref d1)) (S_d2 : Sta Z Z.heap "java/lang/Integer" "DigitTens" "[B" (.ref d2)) :
    Met0 l Z (⟨"java/lang/Integer", "getChars", "(II[B)I"⟩ : MethodName) [] jdk_33_method_12_code 7 (some .int) ({ frames := 0, cells := 0, slots := 0, locals := 0 } : Room) #[(.int 10), (.int 32), (.ref e1)] h0 (fun v h L => v = some (.int 30) ∧ Fr Z.heap.size L ∧ Keep h0 h [e1] ∧ Arv Z h e1 k_e1 .byte 34 V4 (.int 0)) := by
  have N := Fr.nil Z.heap.size
  have P := Keep.refl h0 [e1]
  refine Met0.of_walk (plainFor_of_name pn_java_lang_Integer) (Ls := #[.val (.int 10), .val (.int 32), .val (.ref e1), .unset, .unset, .unset, .unset]) (fun m => by first | rfl | (simp [entryFrame, mkF, argsToLocals, Value.category]; done)) ?_
  intro p e s m below meth c C
  refine iloadN C rs_getChars_d0 (pc' := 1) rfl rfl ?_
  refine istore C rs_getChars_d1 (pc' := 3) rfl (Ls' := #[.val (.int 10), .val (.int 32), .val (.ref e1), .unset, .unset, .val (.int 32), .unset]) rfl ?_
  refine iloadN C rs_getChars_d3 (pc' := 4) rfl rfl ?_
  refine if_ge C 11 7 rs_getChars_d4 (by decide) rfl rfl (fun q4 => ?_) (fun q4 => ?_)
  · skip
    refine iconst C rs_getChars_d11 (pc' := 12) rfl (v := 0) rfl ?_
    refine istore C rs_getChars_d12 (pc' := 14) rfl (Ls' := #[.val (.int 10), .val (.int 32), .val (.ref e1), .unset, .unset, .val (.int 32), .val (.int 0)]) rfl ?_
    refine iload C rs_getChars_d14 (pc' := 16) rfl rfl ?_
    refine if_ne C 22 19 rs_getChars_d16 (by decide) rfl rfl (fun q16 => ?_) (fun q16 => ?_)
    · exact absurd q16 (by decide)
    refine iloadN C rs_getChars_d19 (pc' := 20) rfl rfl ?_
    refine ineg C rs_getChars_d20 (pc' := 21) rfl ?_
    show Wk p l e _ _ m _ below meth c _ _ _ _ _ _ (mkF m 21 #[.val (.int 10), .val (.int 32), .val (.ref e1), .unset, .unset, .val (.int 32), .val (.int 0)] [(.int (-10))])
    refine istoreN C rs_getChars_d21 (pc' := 22) rfl (Ls' := #[.val (.int (-10)), .val (.int 32), .val (.ref e1), .unset, .unset, .val (.int 32), .val (.int 0)]) rfl ?_
    refine iloadN C rs_getChars_d22 (pc' := 23) rfl rfl ?_
    refine bipush C rs_getChars_d23 (pc' := 25) rfl (v := (-100)) rfl ?_
    refine icmp_gt C 72 28 rs_getChars_d25 (by decide) rfl rfl (fun q25 => ?_) (fun q25 => ?_)
    · skip
      refine aloadN C rs_getChars_d72 (pc' := 73) rfl rfl rfl ?_
      refine iinc C rs_getChars_d73 (pc' := 76) rfl rfl (Ls' := #[.val (.int (-10)), .val (.int 32), .val (.ref e1), .unset, .unset, .val (.int 31), .val (.int 0)]) rfl ?_
      refine iload C rs_getChars_d76 (pc' := 78) rfl rfl ?_
      refine getS_ C (hw _ (List.mem_of_getElem? (i := 146) rfl)) (S_d1.ext O.2) rs_getChars_d78 (pc' := 81) rfl ?_
      refine iloadN C rs_getChars_d81 (pc' := 82) rfl rfl ?_
      refine ineg C rs_getChars_d82 (pc' := 83) rfl ?_
      show Wk p l e _ _ m _ below meth c _ _ _ _ _ _ (mkF m 83 #[.val (.int (-10)), .val (.int 32), .val (.ref e1), .unset, .unset, .val (.int 31), .val (.int 0)] [(.int 10), (.ref d1), (.int 31), (.ref e1)])
      refine ldB_ C (v := .int 48) A_d1 (by decide) rfl rs_getChars_d83 (pc' := 84) rfl ?_
      refine stB_ C A_e1 (by decide) 31 rfl (Nat.le_of_ble_eq_true rfl) rfl rs_getChars_d84 (pc' := 85) rfl ?_
      intro h38 W38 A38'
      have A38_e1 : Arv Z h38 e1 k_e1 .byte 34 V11 (.int 0) := A38'
      have O38 := O.wr W38 ge_e1
      have N38 := Fr.put (i := (31 : Int32).toNatClampNeg) N ge_e1
      have P38 := P.wr W38 (Or.inl (List.mem_of_getElem? (i := 0) rfl))
      have A38_d1 := A_d1.other W38 (Ne.symm ne_e1_d1)
      have A38_d2 := A_d2.other W38 (Ne.symm ne_e1_d2)
      refine iloadN C rs_getChars_d85 (pc' := 86) rfl rfl ?_
      refine bipush C rs_getChars_d86 (pc' := 88) rfl (v := (-9)) rfl ?_
      refine icmp_ge C 104 91 rs_getChars_d88 (by decide) rfl rfl (fun q88 => ?_) (fun q88 => ?_)
      · exact absurd q88 (by decide)
      refine aloadN C rs_getChars_d91 (pc' := 92) rfl rfl rfl ?_
      refine iinc C rs_getChars_d92 (pc' := 95) rfl rfl (Ls' := #[.val (.int (-10)), .val (.int 32), .val (.ref e1), .unset, .unset, .val (.int 30), .val (.int 0)]) rfl ?_
      refine iload C rs_getChars_d95 (pc' := 97) rfl rfl ?_
      refine getS_ C (hw _ (List.mem_of_getElem? (i := 147) rfl)) (S_d2.ext O38.2) rs_getChars_d97 (pc' := 100) rfl ?_
      refine iloadN C rs_getChars_d100 (pc' := 101) rfl rfl ?_
      refine ineg C rs_getChars_d101 (pc' := 102) rfl ?_
      show Wk p l e _ _ m _ below meth c _ _ _ _ _ _ (mkF m 102 #[.val (.int (-10)), .val (.int 32), .val (.ref e1), .unset, .unset, .val (.int 30), .val (.int 0)] [(.int 10), (.ref d2), (.int 30), (.ref e1)])
      refine ldB_ C (v := .int 49) A38_d2 (by decide) rfl rs_getChars_d102 (pc' := 103) rfl ?_
      refine stB_ C A38_e1 (by decide) 30 rfl (Nat.le_of_ble_eq_true rfl) rfl rs_getChars_d103 (pc' := 104) rfl ?_
      intro h39 W39 A39'
      have A39_e1 : Arv Z h39 e1 k_e1 .byte 34 V4 (.int 0) := A39'
      have O39 := O38.wr W39 ge_e1
      have N39 := Fr.put (i := (30 : Int32).toNatClampNeg) N38 ge_e1
      have P39 := P38.wr W39 (Or.inl (List.mem_of_getElem? (i := 0) rfl))
      have A39_d1 := A38_d1.other W39 (Ne.symm ne_e1_d1)
      have A39_d2 := A38_d2.other W39 (Ne.symm ne_e1_d2)
      refine iload C rs_getChars_d104 (pc' := 106) rfl rfl ?_
      refine if_eq C 118 109 rs_getChars_d106 (by decide) rfl rfl (fun q106 => ?_) (fun q106 => ?_)
      · skip
        refine iload C rs_getChars_d118 (pc' := 120) rfl rfl ?_
        exact ret_I C rs_getChars_d120 rfl (by decide) (by decide) ⟨rfl, N39, P39, A39_e1⟩
      · exact absurd q106 (by decide)
    · exact absurd q25 (by decide)
  · exact absurd q4 (by decide)
theorem pd_11 : parseMethodDescriptor "()Z" = some ⟨[], some .boolean⟩ := by decide +kernel
theorem pd_12 : parseMethodDescriptor "(II[B)I" = some ⟨[.int, .int, (.array .byte)], some .int⟩ := by decide +kernel
theorem rs_appenda_I_d0 : decode jdk_68_method_32_code 0 = .ok (.aload_n 0, 1) := by decide +kernel
theorem rs_appenda_I_d1 : decode jdk_68_method_32_code 1 = .ok (.getfield 79, 3) := by decide +kernel
theorem rs_appenda_I_d4 : decode jdk_68_method_32_code 4 = .ok (.istore_n 2, 1) := by decide +kernel
theorem rs_appenda_I_d5 : decode jdk_68_method_32_code 5 = .ok (.iload_n 2, 1) := by decide +kernel
theorem rs_appenda_I_d6 : decode jdk_68_method_32_code 6 = .ok (.iload_n 1, 1) := by decide +kernel
theorem rs_appenda_I_d7 : decode jdk_68_method_32_code 7 = .ok (.invokestatic 245, 3) := by decide +kernel
theorem rs_appenda_I_d10 : decode jdk_68_method_32_code 10 = .ok (.iadd, 1) := by decide +kernel
theorem rs_appenda_I_d11 : decode jdk_68_method_32_code 11 = .ok (.istore_n 3, 1) := by decide +kernel
theorem rs_appenda_I_d12 : decode jdk_68_method_32_code 12 = .ok (.aload_n 0, 1) := by decide +kernel
theorem rs_appenda_I_d13 : decode jdk_68_method_32_code 13 = .ok (.iload_n 3, 1) := by decide +kernel
theorem rs_appenda_I_d14 : decode jdk_68_method_32_code 14 = .ok (.invokevirtual 100, 3) := by decide +kernel
theorem rs_appenda_I_d17 : decode jdk_68_method_32_code 17 = .ok (.aload_n 0, 1) := by decide +kernel
theorem rs_appenda_I_d18 : decode jdk_68_method_32_code 18 = .ok (.invokevirtual 83, 3) := by decide +kernel
theorem rs_appenda_I_d21 : decode jdk_68_method_32_code 21 = .ok (.ifCond .eq 16, 3) := by decide +kernel
theorem rs_appenda_I_d24 : decode jdk_68_method_32_code 24 = .ok (.iload_n 1, 1) := by decide +kernel
theorem rs_appenda_I_d25 : decode jdk_68_method_32_code 25 = .ok (.iload_n 3, 1) := by decide +kernel
theorem rs_appenda_I_d26 : decode jdk_68_method_32_code 26 = .ok (.aload_n 0, 1) := by decide +kernel
theorem rs_appenda_I_d27 : decode jdk_68_method_32_code 27 = .ok (.getfield 15, 3) := by decide +kernel
theorem rs_appenda_I_d30 : decode jdk_68_method_32_code 30 = .ok (.invokestatic 248, 3) := by decide +kernel
theorem rs_appenda_I_d33 : decode jdk_68_method_32_code 33 = .ok (.pop, 1) := by decide +kernel
theorem rs_appenda_I_d34 : decode jdk_68_method_32_code 34 = .ok (.goto 14, 3) := by decide +kernel
theorem rs_appenda_I_d48 : decode jdk_68_method_32_code 48 = .ok (.aload_n 0, 1) := by decide +kernel
theorem rs_appenda_I_d49 : decode jdk_68_method_32_code 49 = .ok (.iload_n 3, 1) := by decide +kernel
theorem rs_appenda_I_d50 : decode jdk_68_method_32_code 50 = .ok (.putfield 79, 3) := by decide +kernel
theorem rs_appenda_I_d53 : decode jdk_68_method_32_code 53 = .ok (.aload_n 0, 1) := by decide +kernel
theorem rs_appenda_I_d54 : decode jdk_68_method_32_code 54 = .ok (.areturn, 1) := by decide +kernel
set_option maxRecDepth 65536 in
set_option maxHeartbeats 40000000 in
theorem rs_appenda_I (l : Launch) (Z : State) (a0 : Array Value) (hw : ∀ d ∈ tables_1, d.before a0 Z = true) (cs : Int32) (Sc : Sta Z Z.heap "java/lang/String" "COMPACT_STRINGS" "Z" (.int cs)) (hcs : ¬ cs = 0) (b : Addr) (e1 : Addr) (k_e1 : ClassId) (d1 : Addr) (k_d1 : ClassId) (d2 : Addr) (k_d2 : ClassId) (h0 : Heap) (O : Old Z Z.heap.size h0) (X_b : Exa Z h0 b "java/lang/StringBuilder") (F_b_value : Fld Z h0 b "java/lang/AbstractStringBuilder" "value" "[B" (.ref e1)) (F_b_coder : Fld Z h0 b "java/lang/AbstractStringBuilder" "coder" "B" (.int 0)) (F_b_count : Fld Z h0 b "java/lang/AbstractStringBuilder" "count" "I" (.int 30)) (A_e1 : Arv Z h0 e1 k_e1 .byte 34 V7 (.int 0)) (A_d1 : Arv Z h0 d1 k_d1 .byte 100 V9 (.int 0)) (A_d2 : Arv Z h0 d2 k_d2 .byte 100 V10 (.int 0)) (ge_b : Z.heap.size ≤ b) (ge_e1 : Z.heap.size ≤ e1) (ne_b_e1 : b ≠ e1) (ne_b_d1 : b ≠ d1) (ne_b_d2 : b ≠ d2) (ne_e1_d1 : e1 ≠ d1) (ne_e1_d2 : e1 ≠ d2) (S_d1 : Sta Z Z.heap "java/lang/Integer" "DigitOnes" "[B" (.ref d1)) (S_d2 : Sta Z Z.heap "java/lang/Integer" "DigitTens" "[B" (.ref d2)) :
    Met0 l Z (⟨"java/lang/AbstractStringBuilder", "append", "(I)Ljava/lang/AbstractStringBuilder;"⟩ : MethodName) [] jdk_68_method_32_code 4 (some (.object "java/lang/AbstractStringBuilder")) ({ frames := 1, cells := 0, slots := 0, locals := 18 } : Room) #[(.ref b), (.int 10)] h0 (fun v h L => v = some (.ref b) ∧ Fr Z.heap.size L ∧ Keep h0 h [b, e1] ∧ Exa Z h b "java/lang/StringBuilder" ∧ Fld Z h b "java/lang/AbstractStringBuilder" "value" "[B" (.ref e1) ∧ Fld Z h b "java/lang/AbstractStringBuilder" "coder" "B" (.int 0) ∧ Fld Z h b "java/lang/AbstractStringBuilder" "count" "I" (.int 32) ∧ Arv Z h e1 k_e1 .byte 34 V4 (.int 0)) := by
  have N := Fr.nil Z.heap.size
  have P := Keep.refl h0 [b, e1]
  refine Met0.of_walk (plainFor_of_name pn_java_lang_AbstractStringBuilder) (Ls := #[.val (.ref b), .val (.int 10), .unset, .unset]) (fun m => by first | rfl | (simp [entryFrame, mkF, argsToLocals, Value.category]; done)) ?_
  intro p e s m below meth c C
  refine aloadN C rs_appenda_I_d0 (pc' := 1) rfl rfl rfl ?_
  refine getF_ C (hw _ (List.mem_of_getElem? (i := 75) rfl)) Via.refl F_b_count rs_appenda_I_d1 (pc' := 4) rfl ?_
  refine istoreN C rs_appenda_I_d4 (pc' := 5) rfl (Ls' := #[.val (.ref b), .val (.int 10), .val (.int 30), .unset]) rfl ?_
  refine iloadN C rs_appenda_I_d5 (pc' := 6) rfl rfl ?_
  refine iloadN C rs_appenda_I_d6 (pc' := 7) rfl rfl ?_
  refine callS_ C (y := (⟨"java/lang/Integer", "stringSize", "(I)I"⟩ : MethodName)) (hw _ (List.mem_of_getElem? (i := 134) rfl)) (hw _ (List.mem_of_getElem? (i := 135) rfl)) (hw _ (List.mem_of_getElem? (i := 136) rfl)) (hw _ (List.mem_of_getElem? (i := 137) rfl)) (by decide) pd_3 [(.int 10)] [(.int 30)] rfl rfl (W := 1) rfl (by decide) (by decide) (by decide) (by decide) (rs_stringSize l Z a0 hw cs Sc hcs  h0 O ) rfl rs_appenda_I_d7 (pc' := 10) rfl ?_
  rintro _ _ _ ⟨rfl, rfl, rfl⟩
  show Wk p l e _ _ m _ below meth c _ _ _ _ _ _ (mkF m 10 #[.val (.ref b), .val (.int 10), .val (.int 30), .unset] [(.int 2), (.int 30)])
  rw [List.append_nil]
  refine iadd C rs_appenda_I_d10 (pc' := 11) rfl ?_
  show Wk p l e _ _ m _ below meth c _ _ _ _ _ _ (mkF m 11 #[.val (.ref b), .val (.int 10), .val (.int 30), .unset] [(.int 32)])
  refine istoreN C rs_appenda_I_d11 (pc' := 12) rfl (Ls' := #[.val (.ref b), .val (.int 10), .val (.int 30), .val (.int 32)]) rfl ?_
  refine aloadN C rs_appenda_I_d12 (pc' := 13) rfl rfl rfl ?_
  refine iloadN C rs_appenda_I_d13 (pc' := 14) rfl rfl ?_
  refine callP_ C (y := (⟨"java/lang/AbstractStringBuilder", "ensureCapacityInternal", "(I)V"⟩ : MethodName)) (zs := (⟨"java/lang/AbstractStringBuilder", "isLatin1", "()Z"⟩ : MethodName)) (hw _ (List.mem_of_getElem? (i := 77) rfl)) (hw _ (List.mem_of_getElem? (i := 78) rfl)) (hw _ (List.mem_of_getElem? (i := 79) rfl)) (hw _ (List.mem_of_getElem? (i := 141) rfl)) rfl (hw _ (List.mem_of_getElem? (i := 41) rfl)) (hw _ (List.mem_of_getElem? (i := 81) rfl)) (by decide) X_b pd_8 [(.int 32)] [] rfl rfl (W := 0) rfl (by decide) (by decide) (by decide) (by decide) (rs_ensure_no l Z a0 hw cs Sc hcs b e1 k_e1 h0 O X_b F_b_value F_b_coder F_b_count A_e1) rfl rs_appenda_I_d14 (pc' := 17) rfl ?_
  rintro _ _ _ ⟨rfl, rfl, rfl⟩
  show Wk p l e _ _ m _ below meth c _ _ _ _ _ _ (mkF m 17 #[.val (.ref b), .val (.int 10), .val (.int 30), .val (.int 32)] [])
  rw [List.append_nil]
  refine aloadN C rs_appenda_I_d17 (pc' := 18) rfl rfl rfl ?_
  refine callV_ C (y := (⟨"java/lang/AbstractStringBuilder", "isLatin1", "()Z"⟩ : MethodName)) (z := (⟨"java/lang/AbstractStringBuilder", "isLatin1", "()Z"⟩ : MethodName)) (hw _ (List.mem_of_getElem? (i := 138) rfl)) (hw _ (List.mem_of_getElem? (i := 139) rfl)) (nf_sel (hw _ (List.mem_of_getElem? (i := 141) rfl))) (hw _ (List.mem_of_getElem? (i := 141) rfl)) (hw _ (List.mem_of_getElem? (i := 140) rfl)) (hw _ (List.mem_of_getElem? (i := 41) rfl)) (hw _ (List.mem_of_getElem? (i := 142) rfl)) (by decide) X_b pd_11 [] [] rfl rfl (W := 0) rfl (by decide) (by decide) (by decide) (by decide) (rs_isLatin1 l Z a0 hw cs Sc hcs b h0 O X_b F_b_coder) rfl rs_appenda_I_d18 (pc' := 21) rfl ?_
  rintro _ _ _ ⟨rfl, rfl, rfl⟩
  show Wk p l e _ _ m _ below meth c _ _ _ _ _ _ (mkF m 21 #[.val (.ref b), .val (.int 10), .val (.int 30), .val (.int 32)] [(.int 1)])
  rw [List.append_nil]
  refine if_eq C 37 24 rs_appenda_I_d21 (by decide) rfl rfl (fun q21 => ?_) (fun q21 => ?_)
  · exact absurd q21 (by decide)
  refine iloadN C rs_appenda_I_d24 (pc' := 25) rfl rfl ?_
  refine iloadN C rs_appenda_I_d25 (pc' := 26) rfl rfl ?_
  refine aloadN C rs_appenda_I_d26 (pc' := 27) rfl rfl rfl ?_
  refine getF_ C (hw _ (List.mem_of_getElem? (i := 47) rfl)) Via.refl F_b_value rs_appenda_I_d27 (pc' := 30) rfl ?_
  have lt43_b := X_b.lt
  have lt43_e1 := A_e1.lt
  have lt43_d1 := A_d1.lt
  have lt43_d2 := A_d2.lt
  refine callS_ C (y := (⟨"java/lang/Integer", "getChars", "(II[B)I"⟩ : MethodName)) (hw _ (List.mem_of_getElem? (i := 143) rfl)) (hw _ (List.mem_of_getElem? (i := 144) rfl)) (hw _ (List.mem_of_getElem? (i := 136) rfl)) (hw _ (List.mem_of_getElem? (i := 145) rfl)) (by decide) pd_12 [(.int 10), (.int 32), (.ref e1)] [] rfl rfl (W := 0) rfl (by decide) (by decide) (by decide) (by decide) (rs_getChars l Z a0 hw cs Sc hcs e1 k_e1 d1 k_d1 d2 k_d2 h0 O A_e1 A_d1 A_d2 ge_e1 ne_e1_d1 ne_e1_d2 S_d1 S_d2) rfl rs_appenda_I_d30 (pc' := 33) rfl ?_
  rintro _ h43 L43 ⟨rfl, N43', K43, A43_e1⟩
  have N43 := Fr.app N N43'
  have O43 := O.keep K43 (allS ge_e1 all0)
  have P43 := P.trans K43 (allS (Or.inl (List.mem_of_getElem? (i := 1) rfl)) all0)
  have X43_b := X_b.keep K43
  have F43_b_value := F_b_value.keep K43 (ninS ne_b_e1 (nin0))
  have F43_b_coder := F_b_coder.keep K43 (ninS ne_b_e1 (nin0))
  have F43_b_count := F_b_count.keep K43 (ninS ne_b_e1 (nin0))
  have A43_d1 := A_d1.keep K43 (ninS (Ne.symm ne_e1_d1) (nin0))
  have A43_d2 := A_d2.keep K43 (ninS (Ne.symm ne_e1_d2) (nin0))
  show Wk p l e _ _ m _ below meth c _ _ _ _ _ _ (mkF m 33 #[.val (.ref b), .val (.int 10), .val (.int 30), .val (.int 32)] [(.int 30)])
  refine pop_ C rs_appenda_I_d33 (pc' := 34) rfl rfl ?_
  refine goto_ C rs_appenda_I_d34 (by decide) (pc' := 48) rfl ?_
  refine aloadN C rs_appenda_I_d48 (pc' := 49) rfl rfl rfl ?_
  refine iloadN C rs_appenda_I_d49 (pc' := 50) rfl rfl ?_
  refine putF_ C (hw _ (List.mem_of_getElem? (i := 75) rfl)) Via.refl F43_b_count X43_b (Or.inl (hw _ (List.mem_of_getElem? (i := 76) rfl))) (hw _ (List.mem_of_getElem? (i := 32) rfl)) (ty := .int) (by decide) rfl rfl rs_appenda_I_d50 (pc' := 53) rfl ?_
  intro h44 W44
  have O44 := O43.wr W44 ge_b
  have N44 := Fr.put (i := Jvm.RoadKit.slotOf Z "java/lang/AbstractStringBuilder" "count" "I") N43 ge_b
  have P44 := P43.wr W44 (Or.inl (List.mem_of_getElem? (i := 0) rfl))
  have X44_b := X43_b.wr W44
  have F44_b_value := F43_b_value.other W44 (Or.inr (slot_ne (Or.inl (hw _ (List.mem_of_getElem? (i := 48) rfl))) (Or.inl (hw _ (List.mem_of_getElem? (i := 76) rfl))) (by decide) (t := (.array .byte)) (t' := .int) (by decide) (by decide)))
  have F44_b_coder := F43_b_coder.other W44 (Or.inr (slot_ne (Or.inl (hw _ (List.mem_of_getElem? (i := 50) rfl))) (Or.inl (hw _ (List.mem_of_getElem? (i := 76) rfl))) (by decide) (t := .byte) (t' := .int) (by decide) (by decide)))
  have F44_b_count := F43_b_count.same W44
  have A44_e1 := A43_e1.other W44 (Ne.symm ne_b_e1)
  have A44_d1 := A43_d1.other W44 (Ne.symm ne_b_d1)
  have A44_d2 := A43_d2.other W44 (Ne.symm ne_b_d2)
  refine aloadN C rs_appenda_I_d53 (pc' := 54) rfl rfl rfl ?_
  exact ret_A C rs_appenda_I_d54 rfl rfl rfl rfl (by decide) (by decide) ⟨rfl, N44, P44, X44_b, F44_b_value, F44_b_coder, F44_b_count, A44_e1⟩
theorem pd_13 : parseMethodDescriptor "(I)Ljava/lang/AbstractStringBuilder;" = some ⟨[.int], some (.object "java/lang/AbstractStringBuilder")⟩ := by decide +kernel
theorem rs_appends_I_d0 : decode jdk_67_method_15_code 0 = .ok (.aload_n 0, 1) := by decide +kernel
theorem rs_appends_I_d1 : decode jdk_67_method_15_code 1 = .ok (.iload_n 1, 1) := by decide +kernel
theorem rs_appends_I_d2 : decode jdk_67_method_15_code 2 = .ok (.invokespecial 53, 3) := by decide +kernel
theorem rs_appends_I_d5 : decode jdk_67_method_15_code 5 = .ok (.pop, 1) := by decide +kernel
theorem rs_appends_I_d6 : decode jdk_67_method_15_code 6 = .ok (.aload_n 0, 1) := by decide +kernel
theorem rs_appends_I_d7 : decode jdk_67_method_15_code 7 = .ok (.areturn, 1) := by decide +kernel
set_option maxRecDepth 65536 in
set_option maxHeartbeats 40000000 in
theorem rs_appends_I (l : Launch) (Z : State) (a0 : Array Value) (hw : ∀ d ∈ tables_1, d.before a0 Z = true) (cs : Int32) (Sc : Sta Z Z.heap "java/lang/String" "COMPACT_STRINGS" "Z" (.int cs)) (hcs : ¬ cs = 0) (b : Addr) (e1 : Addr) (k_e1 : ClassId) (d1 : Addr) (k_d1 : ClassId) (d2 : Addr) (k_d2 : ClassId) (h0 : Heap) (O : Old Z Z.heap.size h0) (X_b : Exa Z h0 b "java/lang/StringBuilder") (F_b_value : Fld Z h0 b "java/lang/AbstractStringBuilder" "value" "[B" (.ref e1)) (F_b_coder : Fld Z h0 b "java/lang/AbstractStringBuilder" "coder" "B" (.int 0)) (F_b_count : Fld Z h0 b "java/lang/AbstractStringBuilder" "count" "I" (.int 30)) (A_e1 : Arv Z h0 e1 k_e1 .byte 34 V7 (.int 0)) (A_d1 : Arv Z h0 d1 k_d1 .byte 100 V9 (.int 0)) (A_d2 : Arv Z h0 d2 k_d2 .byte 100 V10 (.int 0)) (ge_b : Z.heap.size ≤ b) (ge_e1 : Z.heap.size ≤ e1) (ne_b_e1 : b ≠ e1) (ne_b_d1 : b ≠ d1) (ne_b_d2 : b ≠ d2) (ne_e1_d1 : e1 ≠ d1) (ne_e1_d2 : e1 ≠ d2) (S_d1 : Sta Z Z.heap "java/lang/Integer" "DigitOnes" "[B" (.ref d1)) (S_d2 : Sta Z Z.heap "java/lang/Integer" "DigitTens" "[B" (.ref d2)) :
    Met0 l Z (⟨"java/lang/StringBuilder", "append", "(I)Ljava/lang/StringBuilder;"⟩ : MethodName) [] jdk_67_method_15_code 2 (some (.object "java/lang/StringBuilder")) ({ frames := 2, cells := 0, slots := 0, locals := 33 } : Room) #[(.ref b), (.int 10)] h0 (fun v h L => v = some (.ref b) ∧ Fr Z.heap.size L ∧ Keep h0 h [b, e1] ∧ Exa Z h b "java/lang/StringBuilder" ∧ Fld Z h b "java/lang/AbstractStringBuilder" "value" "[B" (.ref e1) ∧ Fld Z h b "java/lang/AbstractStringBuilder" "coder" "B" (.int 0) ∧ Fld Z h b "java/lang/AbstractStringBuilder" "count" "I" (.int 32) ∧ Arv Z h e1 k_e1 .byte 34 V4 (.int 0)) := by
  have N := Fr.nil Z.heap.size
  have P := Keep.refl h0 [b, e1]
  refine Met0.of_walk (plainFor_of_name pn_java_lang_StringBuilder) (Ls := #[.val (.ref b), .val (.int 10)]) (fun m => by first | rfl | (simp [entryFrame, mkF, argsToLocals, Value.category]; done)) ?_
  intro p e s m below meth c C
  refine aloadN C rs_appends_I_d0 (pc' := 1) rfl rfl rfl ?_
  refine iloadN C rs_appends_I_d1 (pc' := 2) rfl rfl ?_
  have lt45_b := X_b.lt
  have lt45_e1 := A_e1.lt
  have lt45_d1 := A_d1.lt
  have lt45_d2 := A_d2.lt
  refine callSup_ C (y := (⟨"java/lang/AbstractStringBuilder", "append", "(I)Ljava/lang/AbstractStringBuilder;"⟩ : MethodName)) (zs := (⟨"java/lang/AbstractStringBuilder", "isLatin1", "()Z"⟩ : MethodName)) (hw _ (List.mem_of_getElem? (i := 130) rfl)) (hw _ (List.mem_of_getElem? (i := 131) rfl)) (hw _ (List.mem_of_getElem? (i := 59) rfl)) (hw _ (List.mem_of_getElem? (i := 141) rfl)) rfl (by decide) (hw _ (List.mem_of_getElem? (i := 41) rfl)) (hw _ (List.mem_of_getElem? (i := 133) rfl)) (by decide) X_b pd_13 [(.int 10)] [] rfl rfl (W := 0) rfl (by decide) (by decide) (by decide) (by decide) (rs_appenda_I l Z a0 hw cs Sc hcs b e1 k_e1 d1 k_d1 d2 k_d2 h0 O X_b F_b_value F_b_coder F_b_count A_e1 A_d1 A_d2 ge_b ge_e1 ne_b_e1 ne_b_d1 ne_b_d2 ne_e1_d1 ne_e1_d2 S_d1 S_d2) rfl rs_appends_I_d2 (pc' := 5) rfl ?_
  rintro _ h45 L45 ⟨rfl, N45', K45, X45_b, F45_b_value, F45_b_coder, F45_b_count, A45_e1⟩
  have N45 := Fr.app N N45'
  have O45 := O.keep K45 (allS ge_b (allS ge_e1 all0))
  have P45 := P.trans K45 (allS (Or.inl (List.mem_of_getElem? (i := 0) rfl)) (allS (Or.inl (List.mem_of_getElem? (i := 1) rfl)) all0))
  have A45_d1 := A_d1.keep K45 (ninS (Ne.symm ne_b_d1) (ninS (Ne.symm ne_e1_d1) (nin0)))
  have A45_d2 := A_d2.keep K45 (ninS (Ne.symm ne_b_d2) (ninS (Ne.symm ne_e1_d2) (nin0)))
  show Wk p l e _ _ m _ below meth c _ _ _ _ _ _ (mkF m 5 #[.val (.ref b), .val (.int 10)] [(.ref b)])
  refine pop_ C rs_appends_I_d5 (pc' := 6) rfl rfl ?_
  refine aloadN C rs_appends_I_d6 (pc' := 7) rfl rfl rfl ?_
  exact ret_A C rs_appends_I_d7 rfl rfl rfl rfl (by decide) (by decide) ⟨rfl, N45, P45, X45_b, F45_b_value, F45_b_coder, F45_b_count, A45_e1⟩
theorem rs_init_asb_d0 : decode jdk_68_method_2_code 0 = .ok (.aload_n 0, 1) := by decide +kernel
theorem rs_init_asb_d1 : decode jdk_68_method_2_code 1 = .ok (.invokespecial 3, 3) := by decide +kernel
theorem rs_init_asb_d4 : decode jdk_68_method_2_code 4 = .ok (.getstatic 18, 3) := by decide +kernel
theorem rs_init_asb_d7 : decode jdk_68_method_2_code 7 = .ok (.ifCond .eq 18, 3) := by decide +kernel
theorem rs_init_asb_d10 : decode jdk_68_method_2_code 10 = .ok (.aload_n 0, 1) := by decide +kernel
theorem rs_init_asb_d11 : decode jdk_68_method_2_code 11 = .ok (.iload_n 1, 1) := by decide +kernel
theorem rs_init_asb_d12 : decode jdk_68_method_2_code 12 = .ok (.newarray .byte, 2) := by decide +kernel
theorem rs_init_asb_d14 : decode jdk_68_method_2_code 14 = .ok (.putfield 15, 3) := by decide +kernel
theorem rs_init_asb_d17 : decode jdk_68_method_2_code 17 = .ok (.aload_n 0, 1) := by decide +kernel
theorem rs_init_asb_d18 : decode jdk_68_method_2_code 18 = .ok (.iconst 0, 1) := by decide +kernel
theorem rs_init_asb_d19 : decode jdk_68_method_2_code 19 = .ok (.putfield 22, 3) := by decide +kernel
theorem rs_init_asb_d22 : decode jdk_68_method_2_code 22 = .ok (.goto 16, 3) := by decide +kernel
theorem rs_init_asb_d38 : decode jdk_68_method_2_code 38 = .ok (.return_, 1) := by decide +kernel
set_option maxRecDepth 65536 in
set_option maxHeartbeats 40000000 in
theorem rs_init_asb (l : Launch) (Z : State) (a0 : Array Value) (hw : ∀ d ∈ tables_1, d.before a0 Z = true) (cs : Int32) (Sc : Sta Z Z.heap "java/lang/String" "COMPACT_STRINGS" "Z" (.int cs)) (hcs : ¬ cs = 0) (b : Addr) (h0 : Heap) (O : Old Z Z.heap.size h0) (X_b : Exa Z h0 b "java/lang/StringBuilder") (F_b_value : Fld Z h0 b "java/lang/AbstractStringBuilder" "value" "[B" .null) (F_b_coder : Fld Z h0 b "java/lang/AbstractStringBuilder" "coder" "B" (.int 0)) (F_b_count : Fld Z h0 b "java/lang/AbstractStringBuilder" "count" "I" (.int 0)) (ge_b : Z.heap.size ≤ b) :
    Met0 l Z (⟨"java/lang/AbstractStringBuilder", "<init>", "(I)V"⟩ : MethodName) [] jdk_68_method_2_code 2 none ({ frames := 1, cells := 1, slots := 16, locals := 12 } : Room) #[(.ref b), (.int 16)] h0 (fun v h L => ∃ (r : Addr) (k_r : ClassId), v = none ∧ Fr Z.heap.size L ∧ Keep h0 h [b] ∧ Exa Z h b "java/lang/StringBuilder" ∧ Fld Z h b "java/lang/AbstractStringBuilder" "value" "[B" (.ref r) ∧ Fld Z h b "java/lang/AbstractStringBuilder" "coder" "B" (.int 0) ∧ Fld Z h b "java/lang/AbstractStringBuilder" "count" "I" (.int 0) ∧ h0.size ≤ r ∧ Arv Z h r k_r .byte 16 V2 (.int 0)) := by
  have N := Fr.nil Z.heap.size
  have P := Keep.refl h0 [b]
  refine Met0.of_walk (plainFor_of_name pn_java_lang_AbstractStringBuilder) (Ls := #[.val (.ref b), .val (.int 16)]) (fun m => by first | rfl | (simp [entryFrame, mkF, argsToLocals, Value.category]; done)) ?_
  intro p e s m below meth c C
  refine aloadN C rs_init_asb_d0 (pc' := 1) rfl rfl rfl ?_
  refine initO_ C (hw _ (List.mem_of_getElem? (i := 43) rfl)) (hw _ (List.mem_of_getElem? (i := 44) rfl)) (hw _ (List.mem_of_getElem? (i := 45) rfl)) rfl rs_init_asb_d1 (by decide) (W := 0) rfl (by decide) (pc' := 4) rfl ?_
  refine getS_ C (hw _ (List.mem_of_getElem? (i := 46) rfl)) (Sc.ext O.2) rs_init_asb_d4 (pc' := 7) rfl ?_
  refine if_eq C 25 10 rs_init_asb_d7 (by decide) rfl rfl (fun q7 => ?_) (fun q7 => ?_)
  · exact absurd q7 hcs
  refine aloadN C rs_init_asb_d10 (pc' := 11) rfl rfl rfl ?_
  refine iloadN C rs_init_asb_d11 (pc' := 12) rfl rfl ?_
  have lt46_b := X_b.lt
  refine newP_ C (ty := .byte) rfl (hw _ (List.mem_of_getElem? (i := 12) rfl)) rs_init_asb_d12 (pc' := 14) rfl (by decide) (cap := 16) (by decide) (by decide) (by decide) (by decide) ?_
  intro h46 k_b46 b46 g46 E46 A46'
  have ge46_b46 : Z.heap.size ≤ b46 := by rw [g46]; exact O.2.1
  have sz46_b46 : h0.size ≤ b46 := by rw [g46]; exact P.1
  have ne46_b_b46 : b ≠ b46 := Nat.ne_of_lt (Nat.lt_of_lt_of_le lt46_b (Nat.le_of_eq g46.symm))
  have A46_b46 : Arv Z h46 b46 k_b46 .byte 16 V2 (.int 0) := A46'.pad (pad_rep [] _ 16)
  have O46 := O.ext E46
  have X46_b := X_b.ext E46
  have F46_b_value := F_b_value.ext E46
  have F46_b_coder := F_b_coder.ext E46
  have F46_b_count := F_b_count.ext E46
  have P46 := P.ext E46
  refine putF_ C (hw _ (List.mem_of_getElem? (i := 47) rfl)) Via.refl F46_b_value X46_b (Or.inl (hw _ (List.mem_of_getElem? (i := 48) rfl))) (hw _ (List.mem_of_getElem? (i := 32) rfl)) (ty := (.array .byte)) (by decide) rfl rfl rs_init_asb_d14 (pc' := 17) rfl ?_
  intro h47 W47
  have O47 := O46.wr W47 ge_b
  have N47 := Fr.put (i := Jvm.RoadKit.slotOf Z "java/lang/AbstractStringBuilder" "value" "[B") N ge_b
  have P47 := P46.wr W47 (Or.inl (List.mem_of_getElem? (i := 0) rfl))
  have X47_b := X46_b.wr W47
  have F47_b_value := F46_b_value.same W47
  have F47_b_coder := F46_b_coder.other W47 (Or.inr (slot_ne (Or.inl (hw _ (List.mem_of_getElem? (i := 50) rfl))) (Or.inl (hw _ (List.mem_of_getElem? (i := 48) rfl))) (by decide) (t := .byte) (t' := (.array .byte)) (by decide) (by decide)))
  have F47_b_count := F46_b_count.other W47 (Or.inr (slot_ne (Or.inl (hw _ (List.mem_of_getElem? (i := 76) rfl))) (Or.inl (hw _ (List.mem_of_getElem? (i := 48) rfl))) (by decide) (t := .int) (t' := (.array .byte)) (by decide) (by decide)))
  have A47_b46 := A46_b46.other W47 (Ne.symm ne46_b_b46)
  refine aloadN C rs_init_asb_d17 (pc' := 18) rfl rfl rfl ?_
  refine iconst C rs_init_asb_d18 (pc' := 19) rfl (v := 0) rfl ?_
  refine putFN_ C (hw _ (List.mem_of_getElem? (i := 49) rfl)) Via.refl F47_b_coder X47_b (Or.inl (hw _ (List.mem_of_getElem? (i := 50) rfl))) (hw _ (List.mem_of_getElem? (i := 32) rfl)) (ty := .byte) (v' := (.int 0)) (by decide) rfl rfl rs_init_asb_d19 (pc' := 22) rfl ?_
  intro h48 W48
  have O48 := O47.wr W48 ge_b
  have N48 := Fr.put (i := Jvm.RoadKit.slotOf Z "java/lang/AbstractStringBuilder" "coder" "B") N47 ge_b
  have P48 := P47.wr W48 (Or.inl (List.mem_of_getElem? (i := 0) rfl))
  have X48_b := X47_b.wr W48
  have F48_b_value := F47_b_value.other W48 (Or.inr (slot_ne (Or.inl (hw _ (List.mem_of_getElem? (i := 48) rfl))) (Or.inl (hw _ (List.mem_of_getElem? (i := 50) rfl))) (by decide) (t := (.array .byte)) (t' := .byte) (by decide) (by decide)))
  have F48_b_coder := F47_b_coder.same W48
  have F48_b_count := F47_b_count.other W48 (Or.inr (slot_ne (Or.inl (hw _ (List.mem_of_getElem? (i := 76) rfl))) (Or.inl (hw _ (List.mem_of_getElem? (i := 50) rfl))) (by decide) (t := .int) (t' := .byte) (by decide) (by decide)))
  have A48_b46 := A47_b46.other W48 (Ne.symm ne46_b_b46)
  refine goto_ C rs_init_asb_d22 (by decide) (pc' := 38) rfl ?_
  exact ret_V C rs_init_asb_d38 rfl (by decide) (by decide) ⟨b46, k_b46, rfl, N48, P48, X48_b, F48_b_value, F48_b_coder, F48_b_count, sz46_b46, A48_b46⟩
theorem rs_init_sb_d0 : decode jdk_67_method_1_code 0 = .ok (.aload_n 0, 1) := by decide +kernel
theorem rs_init_sb_d1 : decode jdk_67_method_1_code 1 = .ok (.bipush 16, 2) := by decide +kernel
theorem rs_init_sb_d3 : decode jdk_67_method_1_code 3 = .ok (.invokespecial 1, 3) := by decide +kernel
theorem rs_init_sb_d6 : decode jdk_67_method_1_code 6 = .ok (.return_, 1) := by decide +kernel
set_option maxRecDepth 65536 in
set_option maxHeartbeats 40000000 in
theorem rs_init_sb (l : Launch) (Z : State) (a0 : Array Value) (hw : ∀ d ∈ tables_1, d.before a0 Z = true) (cs : Int32) (Sc : Sta Z Z.heap "java/lang/String" "COMPACT_STRINGS" "Z" (.int cs)) (hcs : ¬ cs = 0) (b : Addr) (h0 : Heap) (O : Old Z Z.heap.size h0) (X_b : Exa Z h0 b "java/lang/StringBuilder") (F_b_value : Fld Z h0 b "java/lang/AbstractStringBuilder" "value" "[B" .null) (F_b_coder : Fld Z h0 b "java/lang/AbstractStringBuilder" "coder" "B" (.int 0)) (F_b_count : Fld Z h0 b "java/lang/AbstractStringBuilder" "count" "I" (.int 0)) (ge_b : Z.heap.size ≤ b) :
    Met0 l Z (⟨"java/lang/StringBuilder", "<init>", "()V"⟩ : MethodName) [] jdk_67_method_1_code 1 none ({ frames := 2, cells := 1, slots := 16, locals := 25 } : Room) #[(.ref b)] h0 (fun v h L => ∃ (r : Addr) (k_r : ClassId), v = none ∧ Fr Z.heap.size L ∧ Keep h0 h [b] ∧ Exa Z h b "java/lang/StringBuilder" ∧ Fld Z h b "java/lang/AbstractStringBuilder" "value" "[B" (.ref r) ∧ Fld Z h b "java/lang/AbstractStringBuilder" "coder" "B" (.int 0) ∧ Fld Z h b "java/lang/AbstractStringBuilder" "count" "I" (.int 0) ∧ h0.size ≤ r ∧ Arv Z h r k_r .byte 16 V2 (.int 0)) := by
  have N := Fr.nil Z.heap.size
  have P := Keep.refl h0 [b]
  refine Met0.of_walk (plainFor_of_name pn_java_lang_StringBuilder) (Ls := #[.val (.ref b)]) (fun m => by first | rfl | (simp [entryFrame, mkF, argsToLocals, Value.category]; done)) ?_
  intro p e s m below meth c C
  refine aloadN C rs_init_sb_d0 (pc' := 1) rfl rfl rfl ?_
  refine bipush C rs_init_sb_d1 (pc' := 3) rfl (v := 16) rfl ?_
  have lt49_b := X_b.lt
  refine callC_ C (y := (⟨"java/lang/AbstractStringBuilder", "<init>", "(I)V"⟩ : MethodName)) rfl (hw _ (List.mem_of_getElem? (i := 37) rfl)) (hw _ (List.mem_of_getElem? (i := 38) rfl)) (hw _ (List.mem_of_getElem? (i := 41) rfl)) (hw _ (List.mem_of_getElem? (i := 42) rfl)) (by decide) pd_8 [(.int 16)] [] rfl rfl (W := 0) rfl (by decide) (by decide) (by decide) (by decide) (rs_init_asb l Z a0 hw cs Sc hcs b h0 O X_b F_b_value F_b_coder F_b_count ge_b) rfl rs_init_sb_d3 (pc' := 6) rfl ?_
  rintro _ h49 L49 ⟨b49r, k_b49r, rfl, N49', K49, X49_b, F49_b_value, F49_b_coder, F49_b_count, z49_b49r, A49_b49r⟩
  have N49 := Fr.app N N49'
  have O49 := O.keep K49 (allS ge_b all0)
  have P49 := P.trans K49 (allS (Or.inl (List.mem_of_getElem? (i := 0) rfl)) all0)
  have ge49_b49r : Z.heap.size ≤ b49r := Nat.le_trans O.2.1 z49_b49r
  have sz49_b49r : h0.size ≤ b49r := Nat.le_trans P.1 z49_b49r
  have ne49_b_b49r : b ≠ b49r := Nat.ne_of_lt (Nat.lt_of_lt_of_le lt49_b z49_b49r)
  show Wk p l e _ _ m _ below meth c _ _ _ _ _ _ (mkF m 6 #[.val (.ref b)] [])
  exact ret_V C rs_init_sb_d6 rfl (by decide) (by decide) ⟨b49r, k_b49r, rfl, N49, P49, X49_b, F49_b_value, F49_b_coder, F49_b_count, sz49_b49r, A49_b49r⟩
theorem rs_getValue_d0 : decode jdk_68_method_64_code 0 = .ok (.aload_n 0, 1) := by decide +kernel
theorem rs_getValue_d1 : decode jdk_68_method_64_code 1 = .ok (.getfield 15, 3) := by decide +kernel
theorem rs_getValue_d4 : decode jdk_68_method_64_code 4 = .ok (.areturn, 1) := by decide +kernel
set_option maxRecDepth 65536 in
set_option maxHeartbeats 40000000 in
theorem rs_getValue (l : Launch) (Z : State) (a0 : Array Value) (hw : ∀ d ∈ tables_1, d.before a0 Z = true) (cs : Int32) (Sc : Sta Z Z.heap "java/lang/String" "COMPACT_STRINGS" "Z" (.int cs)) (hcs : ¬ cs = 0) (b : Addr) (e1 : Addr) (k_e1 : ClassId) (h0 : Heap) (O : Old Z Z.heap.size h0) (X_b : Exa Z h0 b "java/lang/StringBuilder") (F_b_value : Fld Z h0 b "java/lang/AbstractStringBuilder" "value" "[B" (.ref e1)) (A_e1 : Arv Z h0 e1 k_e1 .byte 70 V8 (.int 0)) :
    Met0 l Z (⟨"java/lang/AbstractStringBuilder", "getValue", "()[B"⟩ : MethodName) [] jdk_68_method_64_code 1 (some (.array .byte)) ({ frames := 0, cells := 0, slots := 0, locals := 0 } : Room) #[(.ref b)] h0 (fun v h L => v = some (.ref e1) ∧ h0 = h ∧ L = []) := by
  have N := Fr.nil Z.heap.size
  have P := Keep.refl h0 []
  refine Met0.of_walk (plainFor_of_name pn_java_lang_AbstractStringBuilder) (Ls := #[.val (.ref b)]) (fun m => by first | rfl | (simp [entryFrame, mkF, argsToLocals, Value.category]; done)) ?_
  intro p e s m below meth c C
  refine aloadN C rs_getValue_d0 (pc' := 1) rfl rfl rfl ?_
  refine getF_ C (hw _ (List.mem_of_getElem? (i := 47) rfl)) Via.refl F_b_value rs_getValue_d1 (pc' := 4) rfl ?_
  exact ret_A C rs_getValue_d4 rfl rfl rfl rfl (by decide) (by decide) ⟨rfl, rfl, rfl⟩
theorem rs_length_asb_d0 : decode jdk_68_method_6_code 0 = .ok (.aload_n 0, 1) := by decide +kernel
theorem rs_length_asb_d1 : decode jdk_68_method_6_code 1 = .ok (.getfield 79, 3) := by decide +kernel
theorem rs_length_asb_d4 : decode jdk_68_method_6_code 4 = .ok (.ireturn, 1) := by decide +kernel
set_option maxRecDepth 65536 in
set_option maxHeartbeats 40000000 in
theorem rs_length_asb (l : Launch) (Z : State) (a0 : Array Value) (hw : ∀ d ∈ tables_1, d.before a0 Z = true) (cs : Int32) (Sc : Sta Z Z.heap "java/lang/String" "COMPACT_STRINGS" "Z" (.int cs)) (hcs : ¬ cs = 0) (b : Addr) (h0 : Heap) (O : Old Z Z.heap.size h0) (X_b : Exa Z h0 b "java/lang/StringBuilder") (F_b_count : Fld Z h0 b "java/lang/AbstractStringBuilder" "count" "I" (.int 47)) :
    Met0 l Z (⟨"java/lang/AbstractStringBuilder", "length", "()I"⟩ : MethodName) [] jdk_68_method_6_code 1 (some .int) ({ frames := 0, cells := 0, slots := 0, locals := 0 } : Room) #[(.ref b)] h0 (fun v h L => v = some (.int 47) ∧ h0 = h ∧ L = []) := by
  have N := Fr.nil Z.heap.size
  have P := Keep.refl h0 []
  refine Met0.of_walk (plainFor_of_name pn_java_lang_AbstractStringBuilder) (Ls := #[.val (.ref b)]) (fun m => by first | rfl | (simp [entryFrame, mkF, argsToLocals, Value.category]; done)) ?_
  intro p e s m below meth c C
  refine aloadN C rs_length_asb_d0 (pc' := 1) rfl rfl rfl ?_
  refine getF_ C (hw _ (List.mem_of_getElem? (i := 75) rfl)) Via.refl F_b_count rs_length_asb_d1 (pc' := 4) rfl ?_
  exact ret_I C rs_length_asb_d4 rfl (by decide) (by decide) ⟨rfl, rfl, rfl⟩
theorem rs_length_sb_d0 : decode jdk_67_method_93_code 0 = .ok (.aload_n 0, 1) := by decide +kernel
theorem rs_length_sb_d1 : decode jdk_67_method_93_code 1 = .ok (.invokespecial 343, 3) := by decide +kernel
theorem rs_length_sb_d4 : decode jdk_67_method_93_code 4 = .ok (.ireturn, 1) := by decide +kernel
set_option maxRecDepth 65536 in
set_option maxHeartbeats 40000000 in
theorem rs_length_sb (l : Launch) (Z : State) (a0 : Array Value) (hw : ∀ d ∈ tables_1, d.before a0 Z = true) (cs : Int32) (Sc : Sta Z Z.heap "java/lang/String" "COMPACT_STRINGS" "Z" (.int cs)) (hcs : ¬ cs = 0) (b : Addr) (h0 : Heap) (O : Old Z Z.heap.size h0) (X_b : Exa Z h0 b "java/lang/StringBuilder") (F_b_count : Fld Z h0 b "java/lang/AbstractStringBuilder" "count" "I" (.int 47)) :
    Met0 l Z (⟨"java/lang/StringBuilder", "length", "()I"⟩ : MethodName) [] jdk_67_method_93_code 1 (some .int) ({ frames := 1, cells := 0, slots := 0, locals := 12 } : Room) #[(.ref b)] h0 (fun v h L => v = some (.int 47) ∧ h0 = h ∧ L = []) := by
  have N := Fr.nil Z.heap.size
  have P := Keep.refl h0 []
  refine Met0.of_walk (plainFor_of_name pn_java_lang_StringBuilder) (Ls := #[.val (.ref b)]) (fun m => by first | rfl | (simp [entryFrame, mkF, argsToLocals, Value.category]; done)) ?_
  intro p e s m below meth c C
  refine aloadN C rs_length_sb_d0 (pc' := 1) rfl rfl rfl ?_
  refine callSup_ C (y := (⟨"java/lang/AbstractStringBuilder", "length", "()I"⟩ : MethodName)) (zs := (⟨"java/lang/AbstractStringBuilder", "isLatin1", "()Z"⟩ : MethodName)) (hw _ (List.mem_of_getElem? (i := 174) rfl)) (hw _ (List.mem_of_getElem? (i := 170) rfl)) (hw _ (List.mem_of_getElem? (i := 59) rfl)) (hw _ (List.mem_of_getElem? (i := 141) rfl)) rfl (by decide) (hw _ (List.mem_of_getElem? (i := 41) rfl)) (hw _ (List.mem_of_getElem? (i := 175) rfl)) (by decide) X_b pd_7 [] [] rfl rfl (W := 0) rfl (by decide) (by decide) (by decide) (by decide) (rs_length_asb l Z a0 hw cs Sc hcs b h0 O X_b F_b_count) rfl rs_length_sb_d1 (pc' := 4) rfl ?_
  rintro _ _ _ ⟨rfl, rfl, rfl⟩
  show Wk p l e _ _ m _ below meth c _ _ _ _ _ _ (mkF m 4 #[.val (.ref b)] [(.int 47)])
  rw [List.append_nil]
  exact ret_I C rs_length_sb_d4 rfl (by decide) (by decide) ⟨rfl, rfl, rfl⟩
theorem rs_checkLength_d0 : decode jdk_65_method_131_code 0 = .ok (.iload_n 1, 1) := by decide +kernel
theorem rs_checkLength_d1 : decode jdk_65_method_131_code 1 = .ok (.iload_n 0, 1) := by decide +kernel
theorem rs_checkLength_d2 : decode jdk_65_method_131_code 2 = .ok (.if_icmp .ge 35, 3) := by decide +kernel
theorem rs_checkLength_d37 : decode jdk_65_method_131_code 37 = .ok (.return_, 1) := by decide +kernel
set_option maxRecDepth 65536 in
set_option maxHeartbeats 40000000 in
theorem rs_checkLength (l : Launch) (Z : State) (a0 : Array Value) (hw : ∀ d ∈ tables_1, d.before a0 Z = true) (cs : Int32) (Sc : Sta Z Z.heap "java/lang/String" "COMPACT_STRINGS" "Z" (.int cs)) (hcs : ¬ cs = 0)  (h0 : Heap) (O : Old Z Z.heap.size h0) :
    Met0 l Z (⟨"java/util/Arrays", "checkLength", "(II)V"⟩ : MethodName) [] jdk_65_method_131_code 2 none ({ frames := 0, cells := 0, slots := 0, locals := 0 } : Room) #[(.int 0), (.int 47)] h0 (fun v h L => v = none ∧ h0 = h ∧ L = []) := by
  have N := Fr.nil Z.heap.size
  have P := Keep.refl h0 []
  refine Met0.of_walk (plainFor_of_name pn_java_util_Arrays) (Ls := #[.val (.int 0), .val (.int 47)]) (fun m => by first | rfl | (simp [entryFrame, mkF, argsToLocals, Value.category]; done)) ?_
  intro p e s m below meth c C
  refine iloadN C rs_checkLength_d0 (pc' := 1) rfl rfl ?_
  refine iloadN C rs_checkLength_d1 (pc' := 2) rfl rfl ?_
  refine icmp_ge C 37 5 rs_checkLength_d2 (by decide) rfl rfl (fun q2 => ?_) (fun q2 => ?_)
  · skip
    exact ret_V C rs_checkLength_d37 rfl (by decide) (by decide) ⟨rfl, rfl, rfl⟩
  · exact absurd q2 (by decide)
abbrev V12 : List Value := [.int 97, .int 32, .int 110, .int 117, .int 109, .int 98, .int 101, .int 114, .int 32, .int 111, .int 102, .int 32, .int 115, .int 104, .int 97, .int 114, .int 101, .int 115, .int 32, .int 111, .int 102, .int 32, .int 97, .int 116, .int 32, .int 109, .int 111, .int 115, .int 116, .int 32, .int 49, .int 48, .int 32, .int 100, .int 101, .int 99, .int 105, .int 109, .int 97, .int 108, .int 32, .int 112, .int 108, .int 97, .int 99, .int 101, .int 115]
theorem pd_14 : parseMethodDescriptor "(II)V" = some ⟨[.int, .int], none⟩ := by decide +kernel
abbrev V13 : List Value := [.int 0, .int 0, .int 0, .int 0, .int 0, .int 0, .int 0, .int 0, .int 0, .int 0, .int 0, .int 0, .int 0, .int 0, .int 0, .int 0, .int 0, .int 0, .int 0, .int 0, .int 0, .int 0, .int 0, .int 0, .int 0, .int 0, .int 0, .int 0, .int 0, .int 0, .int 0, .int 0, .int 0, .int 0, .int 0, .int 0, .int 0, .int 0, .int 0, .int 0, .int 0, .int 0, .int 0, .int 0, .int 0, .int 0, .int 0]
theorem rs_copyOfRangeByte_d0 : decode jdk_65_method_133_code 0 = .ok (.iload_n 1, 1) := by decide +kernel
theorem rs_copyOfRangeByte_d1 : decode jdk_65_method_133_code 1 = .ok (.iload_n 2, 1) := by decide +kernel
theorem rs_copyOfRangeByte_d2 : decode jdk_65_method_133_code 2 = .ok (.invokestatic 343, 3) := by decide +kernel
theorem rs_copyOfRangeByte_d5 : decode jdk_65_method_133_code 5 = .ok (.iload_n 2, 1) := by decide +kernel
theorem rs_copyOfRangeByte_d6 : decode jdk_65_method_133_code 6 = .ok (.iload_n 1, 1) := by decide +kernel
theorem rs_copyOfRangeByte_d7 : decode jdk_65_method_133_code 7 = .ok (.isub, 1) := by decide +kernel
theorem rs_copyOfRangeByte_d8 : decode jdk_65_method_133_code 8 = .ok (.istore_n 3, 1) := by decide +kernel
theorem rs_copyOfRangeByte_d9 : decode jdk_65_method_133_code 9 = .ok (.iload_n 3, 1) := by decide +kernel
theorem rs_copyOfRangeByte_d10 : decode jdk_65_method_133_code 10 = .ok (.newarray .byte, 2) := by decide +kernel
theorem rs_copyOfRangeByte_d12 : decode jdk_65_method_133_code 12 = .ok (.astore 4, 2) := by decide +kernel
theorem rs_copyOfRangeByte_d14 : decode jdk_65_method_133_code 14 = .ok (.aload_n 0, 1) := by decide +kernel
theorem rs_copyOfRangeByte_d15 : decode jdk_65_method_133_code 15 = .ok (.iload_n 1, 1) := by decide +kernel
theorem rs_copyOfRangeByte_d16 : decode jdk_65_method_133_code 16 = .ok (.aload 4, 2) := by decide +kernel
theorem rs_copyOfRangeByte_d18 : decode jdk_65_method_133_code 18 = .ok (.iconst 0, 1) := by decide +kernel
theorem rs_copyOfRangeByte_d19 : decode jdk_65_method_133_code 19 = .ok (.aload_n 0, 1) := by decide +kernel
theorem rs_copyOfRangeByte_d20 : decode jdk_65_method_133_code 20 = .ok (.arraylength, 1) := by decide +kernel
theorem rs_copyOfRangeByte_d21 : decode jdk_65_method_133_code 21 = .ok (.iload_n 1, 1) := by decide +kernel
theorem rs_copyOfRangeByte_d22 : decode jdk_65_method_133_code 22 = .ok (.isub, 1) := by decide +kernel
theorem rs_copyOfRangeByte_d23 : decode jdk_65_method_133_code 23 = .ok (.iload_n 3, 1) := by decide +kernel
theorem rs_copyOfRangeByte_d24 : decode jdk_65_method_133_code 24 = .ok (.invokestatic 304, 3) := by decide +kernel
theorem rs_copyOfRangeByte_d27 : decode jdk_65_method_133_code 27 = .ok (.invokestatic 150, 3) := by decide +kernel
theorem rs_copyOfRangeByte_d30 : decode jdk_65_method_133_code 30 = .ok (.aload 4, 2) := by decide +kernel
theorem rs_copyOfRangeByte_d32 : decode jdk_65_method_133_code 32 = .ok (.areturn, 1) := by decide +kernel
set_option maxRecDepth 65536 in
set_option maxHeartbeats 40000000 in
theorem rs_copyOfRangeByte (l : Launch) (Z : State) (a0 : Array Value) (hw : ∀ d ∈ tables_1, d.before a0 Z = true) (cs : Int32) (Sc : Sta Z Z.heap "java/lang/String" "COMPACT_STRINGS" "Z" (.int cs)) (hcs : ¬ cs = 0) (e1 : Addr) (k_e1 : ClassId) (h0 : Heap) (O : Old Z Z.heap.size h0) (A_e1 : Arv Z h0 e1 k_e1 .byte 70 V8 (.int 0)) :
    Met0 l Z (⟨"java/util/Arrays", "copyOfRangeByte", "([BII)[B"⟩ : MethodName) [] jdk_65_method_133_code 5 (some (.array .byte)) ({ frames := 1, cells := 1, slots := 47, locals := 18 } : Room) #[(.ref e1), (.int 0), (.int 47)] h0 (fun v h L => ∃ (r : Addr) (k_r : ClassId), v = some (.ref r) ∧ Fr Z.heap.size L ∧ Keep h0 h [] ∧ h0.size ≤ r ∧ Arv Z h r k_r .byte 47 V12 (.int 0)) := by
  have N := Fr.nil Z.heap.size
  have P := Keep.refl h0 []
  refine Met0.of_walk (plainFor_of_name pn_java_util_Arrays) (Ls := #[.val (.ref e1), .val (.int 0), .val (.int 47), .unset, .unset]) (fun m => by first | rfl | (simp [entryFrame, mkF, argsToLocals, Value.category]; done)) ?_
  intro p e s m below meth c C
  refine iloadN C rs_copyOfRangeByte_d0 (pc' := 1) rfl rfl ?_
  refine iloadN C rs_copyOfRangeByte_d1 (pc' := 2) rfl rfl ?_
  refine callS_ C (y := (⟨"java/util/Arrays", "checkLength", "(II)V"⟩ : MethodName)) (hw _ (List.mem_of_getElem? (i := 183) rfl)) (hw _ (List.mem_of_getElem? (i := 184) rfl)) (hw _ (List.mem_of_getElem? (i := 99) rfl)) (hw _ (List.mem_of_getElem? (i := 185) rfl)) (by decide) pd_14 [(.int 0), (.int 47)] [] rfl rfl (W := 0) rfl (by decide) (by decide) (by decide) (by decide) (rs_checkLength l Z a0 hw cs Sc hcs  h0 O ) rfl rs_copyOfRangeByte_d2 (pc' := 5) rfl ?_
  rintro _ _ _ ⟨rfl, rfl, rfl⟩
  show Wk p l e _ _ m _ below meth c _ _ _ _ _ _ (mkF m 5 #[.val (.ref e1), .val (.int 0), .val (.int 47), .unset, .unset] [])
  rw [List.append_nil]
  refine iloadN C rs_copyOfRangeByte_d5 (pc' := 6) rfl rfl ?_
  refine iloadN C rs_copyOfRangeByte_d6 (pc' := 7) rfl rfl ?_
  refine isub C rs_copyOfRangeByte_d7 (pc' := 8) rfl ?_
  show Wk p l e _ _ m _ below meth c _ _ _ _ _ _ (mkF m 8 #[.val (.ref e1), .val (.int 0), .val (.int 47), .unset, .unset] [(.int 47)])
  refine istoreN C rs_copyOfRangeByte_d8 (pc' := 9) rfl (Ls' := #[.val (.ref e1), .val (.int 0), .val (.int 47), .val (.int 47), .unset]) rfl ?_
  refine iloadN C rs_copyOfRangeByte_d9 (pc' := 10) rfl rfl ?_
  have lt52_e1 := A_e1.lt
  refine newP_ C (ty := .byte) rfl (hw _ (List.mem_of_getElem? (i := 12) rfl)) rs_copyOfRangeByte_d10 (pc' := 12) rfl (by decide) (cap := 47) (by decide) (by decide) (by decide) (by decide) ?_
  intro h52 k_b52 b52 g52 E52 A52'
  have ge52_b52 : Z.heap.size ≤ b52 := by rw [g52]; exact O.2.1
  have sz52_b52 : h0.size ≤ b52 := by rw [g52]; exact P.1
  have ne52_e1_b52 : e1 ≠ b52 := Nat.ne_of_lt (Nat.lt_of_lt_of_le lt52_e1 (Nat.le_of_eq g52.symm))
  have A52_b52 : Arv Z h52 b52 k_b52 .byte 47 V13 (.int 0) := A52'.pad (pad_rep [] _ 47)
  have O52 := O.ext E52
  have A52_e1 := A_e1.ext E52
  have P52 := P.ext E52
  refine astore C rs_copyOfRangeByte_d12 (pc' := 14) rfl rfl (Ls' := #[.val (.ref e1), .val (.int 0), .val (.int 47), .val (.int 47), .val (.ref b52)]) rfl ?_
  refine aloadN C rs_copyOfRangeByte_d14 (pc' := 15) rfl rfl rfl ?_
  refine iloadN C rs_copyOfRangeByte_d15 (pc' := 16) rfl rfl ?_
  refine aload C rs_copyOfRangeByte_d16 (pc' := 18) rfl rfl rfl ?_
  refine iconst C rs_copyOfRangeByte_d18 (pc' := 19) rfl (v := 0) rfl ?_
  refine aloadN C rs_copyOfRangeByte_d19 (pc' := 20) rfl rfl rfl ?_
  refine alen_ C A52_e1 rs_copyOfRangeByte_d20 (pc' := 21) rfl ?_
  refine iloadN C rs_copyOfRangeByte_d21 (pc' := 22) rfl rfl ?_
  refine isub C rs_copyOfRangeByte_d22 (pc' := 23) rfl ?_
  show Wk p l e _ _ m _ below meth c _ _ _ _ _ _ (mkF m 23 #[.val (.ref e1), .val (.int 0), .val (.int 47), .val (.int 47), .val (.ref b52)] [(.int 70), (.int 0), (.ref b52), (.int 0), (.ref e1)])
  refine iloadN C rs_copyOfRangeByte_d23 (pc' := 24) rfl rfl ?_
  refine callS_ C (y := (⟨"java/lang/Math", "min", "(II)I"⟩ : MethodName)) (hw _ (List.mem_of_getElem? (i := 101) rfl)) (hw _ (List.mem_of_getElem? (i := 102) rfl)) (hw _ (List.mem_of_getElem? (i := 93) rfl)) (hw _ (List.mem_of_getElem? (i := 103) rfl)) (by decide) pd_1 [(.int 70), (.int 47)] [(.int 0), (.ref b52), (.int 0), (.ref e1)] rfl rfl (W := 4) rfl (by decide) (by decide) (by decide) (by decide) (rs_min_70_47 l Z a0 hw cs Sc hcs  h52 O52 ) rfl rs_copyOfRangeByte_d24 (pc' := 27) rfl ?_
  rintro _ _ _ ⟨rfl, rfl, rfl⟩
  show Wk p l e _ _ m _ below meth c _ _ _ _ _ _ (mkF m 27 #[.val (.ref e1), .val (.int 0), .val (.int 47), .val (.int 47), .val (.ref b52)] [(.int 47), (.int 0), (.ref b52), (.int 0), (.ref e1)])
  rw [List.append_nil]
  refine cpA_ C (us := V12) (hw _ (List.mem_of_getElem? (i := 104) rfl)) (hw _ (List.mem_of_getElem? (i := 107) rfl)) (hw _ (List.mem_of_getElem? (i := 105) rfl)) (hw _ (List.mem_of_getElem? (i := 106) rfl)) A52_e1 A52_b52 (by decide) (by decide) (by decide) (by decide) (by decide) (by rfl) (Nat.le_of_ble_eq_true rfl) N ge52_b52 rfl (W := 0) rfl (by decide) (by decide) rs_copyOfRangeByte_d27 (pc' := 30) rfl ?_
  intro h54 L54 N54 K54 A54'
  have A54_b52 : Arv Z h54 b52 k_b52 .byte 47 V12 (.int 0) := A54'
  have O54 := O52.keep K54 (allS ge52_b52 all0)
  have P54 := P52.trans K54 (allS (Or.inr sz52_b52) all0)
  have A54_e1 := A52_e1.keep K54 (ninS ne52_e1_b52 nin0)
  refine aload C rs_copyOfRangeByte_d30 (pc' := 32) rfl rfl rfl ?_
  exact ret_A C rs_copyOfRangeByte_d32 rfl rfl rfl rfl (by decide) (by decide) ⟨b52, k_b52, rfl, N54, P54, sz52_b52, A54_b52⟩
theorem pd_15 : parseMethodDescriptor "([BII)[B" = some ⟨[(.array .byte), .int, .int], some (.array .byte)⟩ := by decide +kernel
theorem rs_copyOfRange_d0 : decode jdk_65_method_132_code 0 = .ok (.iload_n 1, 1) := by decide +kernel
theorem rs_copyOfRange_d1 : decode jdk_65_method_132_code 1 = .ok (.ifCond .ne 9, 3) := by decide +kernel
theorem rs_copyOfRange_d4 : decode jdk_65_method_132_code 4 = .ok (.iload_n 2, 1) := by decide +kernel
theorem rs_copyOfRange_d5 : decode jdk_65_method_132_code 5 = .ok (.aload_n 0, 1) := by decide +kernel
theorem rs_copyOfRange_d6 : decode jdk_65_method_132_code 6 = .ok (.arraylength, 1) := by decide +kernel
theorem rs_copyOfRange_d7 : decode jdk_65_method_132_code 7 = .ok (.if_icmp .eq 10, 3) := by decide +kernel
theorem rs_copyOfRange_d10 : decode jdk_65_method_132_code 10 = .ok (.aload_n 0, 1) := by decide +kernel
theorem rs_copyOfRange_d11 : decode jdk_65_method_132_code 11 = .ok (.iload_n 1, 1) := by decide +kernel
theorem rs_copyOfRange_d12 : decode jdk_65_method_132_code 12 = .ok (.iload_n 2, 1) := by decide +kernel
theorem rs_copyOfRange_d13 : decode jdk_65_method_132_code 13 = .ok (.invokestatic 339, 3) := by decide +kernel
theorem rs_copyOfRange_d16 : decode jdk_65_method_132_code 16 = .ok (.areturn, 1) := by decide +kernel
set_option maxRecDepth 65536 in
set_option maxHeartbeats 40000000 in
theorem rs_copyOfRange (l : Launch) (Z : State) (a0 : Array Value) (hw : ∀ d ∈ tables_1, d.before a0 Z = true) (cs : Int32) (Sc : Sta Z Z.heap "java/lang/String" "COMPACT_STRINGS" "Z" (.int cs)) (hcs : ¬ cs = 0) (e1 : Addr) (k_e1 : ClassId) (h0 : Heap) (O : Old Z Z.heap.size h0) (A_e1 : Arv Z h0 e1 k_e1 .byte 70 V8 (.int 0)) :
    Met0 l Z (⟨"java/util/Arrays", "copyOfRange", "([BII)[B"⟩ : MethodName) [] jdk_65_method_132_code 3 (some (.array .byte)) ({ frames := 2, cells := 1, slots := 47, locals := 34 } : Room) #[(.ref e1), (.int 0), (.int 47)] h0 (fun v h L => ∃ (r : Addr) (k_r : ClassId), v = some (.ref r) ∧ Fr Z.heap.size L ∧ Keep h0 h [] ∧ h0.size ≤ r ∧ Arv Z h r k_r .byte 47 V12 (.int 0)) := by
  have N := Fr.nil Z.heap.size
  have P := Keep.refl h0 []
  refine Met0.of_walk (plainFor_of_name pn_java_util_Arrays) (Ls := #[.val (.ref e1), .val (.int 0), .val (.int 47)]) (fun m => by first | rfl | (simp [entryFrame, mkF, argsToLocals, Value.category]; done)) ?_
  intro p e s m below meth c C
  refine iloadN C rs_copyOfRange_d0 (pc' := 1) rfl rfl ?_
  refine if_ne C 10 4 rs_copyOfRange_d1 (by decide) rfl rfl (fun q1 => ?_) (fun q1 => ?_)
  · exact absurd q1 (by decide)
  refine iloadN C rs_copyOfRange_d4 (pc' := 5) rfl rfl ?_
  refine aloadN C rs_copyOfRange_d5 (pc' := 6) rfl rfl rfl ?_
  refine alen_ C A_e1 rs_copyOfRange_d6 (pc' := 7) rfl ?_
  refine icmp_eq C 17 10 rs_copyOfRange_d7 (by decide) rfl rfl (fun q7 => ?_) (fun q7 => ?_)
  · exact absurd q7 (by decide)
  refine aloadN C rs_copyOfRange_d10 (pc' := 11) rfl rfl rfl ?_
  refine iloadN C rs_copyOfRange_d11 (pc' := 12) rfl rfl ?_
  refine iloadN C rs_copyOfRange_d12 (pc' := 13) rfl rfl ?_
  have lt55_e1 := A_e1.lt
  refine callS_ C (y := (⟨"java/util/Arrays", "copyOfRangeByte", "([BII)[B"⟩ : MethodName)) (hw _ (List.mem_of_getElem? (i := 180) rfl)) (hw _ (List.mem_of_getElem? (i := 181) rfl)) (hw _ (List.mem_of_getElem? (i := 99) rfl)) (hw _ (List.mem_of_getElem? (i := 182) rfl)) (by decide) pd_15 [(.ref e1), (.int 0), (.int 47)] [] rfl rfl (W := 0) rfl (by decide) (by decide) (by decide) (by decide) (rs_copyOfRangeByte l Z a0 hw cs Sc hcs e1 k_e1 h0 O A_e1) rfl rs_copyOfRange_d13 (pc' := 16) rfl ?_
  rintro _ h55 L55 ⟨b55r, k_b55r, rfl, N55', K55, z55_b55r, A55_b55r⟩
  have N55 := Fr.app N N55'
  have O55 := O.keep K55 all0
  have P55 := P.trans K55 all0
  have A55_e1 := A_e1.keep K55 nin0
  have ge55_b55r : Z.heap.size ≤ b55r := Nat.le_trans O.2.1 z55_b55r
  have sz55_b55r : h0.size ≤ b55r := Nat.le_trans P.1 z55_b55r
  have ne55_e1_b55r : e1 ≠ b55r := Nat.ne_of_lt (Nat.lt_of_lt_of_le lt55_e1 z55_b55r)
  show Wk p l e _ _ m _ below meth c _ _ _ _ _ _ (mkF m 16 #[.val (.ref e1), .val (.int 0), .val (.int 47)] [(.ref b55r)])
  exact ret_A C rs_copyOfRange_d16 rfl rfl rfl rfl (by decide) (by decide) ⟨b55r, k_b55r, rfl, N55, P55, sz55_b55r, A55_b55r⟩
theorem pd_16 : parseMethodDescriptor "()[B" = some ⟨[], some (.array .byte)⟩ := by decide +kernel
theorem rs_init_str2_d0 : decode jdk_42_method_150_code 0 = .ok (.aload_n 0, 1) := by decide +kernel
theorem rs_init_str2_d1 : decode jdk_42_method_150_code 1 = .ok (.invokespecial 1, 3) := by decide +kernel
theorem rs_init_str2_d4 : decode jdk_42_method_150_code 4 = .ok (.aload_n 1, 1) := by decide +kernel
theorem rs_init_str2_d5 : decode jdk_42_method_150_code 5 = .ok (.invokevirtual 552, 3) := by decide +kernel
theorem rs_init_str2_d8 : decode jdk_42_method_150_code 8 = .ok (.astore_n 3, 1) := by decide +kernel
theorem rs_init_str2_d9 : decode jdk_42_method_150_code 9 = .ok (.aload_n 1, 1) := by decide +kernel
theorem rs_init_str2_d10 : decode jdk_42_method_150_code 10 = .ok (.invokevirtual 549, 3) := by decide +kernel
theorem rs_init_str2_d13 : decode jdk_42_method_150_code 13 = .ok (.istore 4, 2) := by decide +kernel
theorem rs_init_str2_d15 : decode jdk_42_method_150_code 15 = .ok (.aload_n 1, 1) := by decide +kernel
theorem rs_init_str2_d16 : decode jdk_42_method_150_code 16 = .ok (.invokevirtual 1047, 3) := by decide +kernel
theorem rs_init_str2_d19 : decode jdk_42_method_150_code 19 = .ok (.ifCond .eq 22, 3) := by decide +kernel
theorem rs_init_str2_d22 : decode jdk_42_method_150_code 22 = .ok (.aload_n 0, 1) := by decide +kernel
theorem rs_init_str2_d23 : decode jdk_42_method_150_code 23 = .ok (.iconst 0, 1) := by decide +kernel
theorem rs_init_str2_d24 : decode jdk_42_method_150_code 24 = .ok (.putfield 15, 3) := by decide +kernel
theorem rs_init_str2_d27 : decode jdk_42_method_150_code 27 = .ok (.aload_n 0, 1) := by decide +kernel
theorem rs_init_str2_d28 : decode jdk_42_method_150_code 28 = .ok (.aload_n 3, 1) := by decide +kernel
theorem rs_init_str2_d29 : decode jdk_42_method_150_code 29 = .ok (.iconst 0, 1) := by decide +kernel
theorem rs_init_str2_d30 : decode jdk_42_method_150_code 30 = .ok (.iload 4, 2) := by decide +kernel
theorem rs_init_str2_d32 : decode jdk_42_method_150_code 32 = .ok (.invokestatic 54, 3) := by decide +kernel
theorem rs_init_str2_d35 : decode jdk_42_method_150_code 35 = .ok (.putfield 9, 3) := by decide +kernel
theorem rs_init_str2_d38 : decode jdk_42_method_150_code 38 = .ok (.goto 59, 3) := by decide +kernel
theorem rs_init_str2_d97 : decode jdk_42_method_150_code 97 = .ok (.return_, 1) := by decide +kernel
set_option maxRecDepth 65536 in
set_option maxHeartbeats 40000000 in
theorem rs_init_str2 (l : Launch) (Z : State) (a0 : Array Value) (hw : ∀ d ∈ tables_1, d.before a0 Z = true) (cs : Int32) (Sc : Sta Z Z.heap "java/lang/String" "COMPACT_STRINGS" "Z" (.int cs)) (hcs : ¬ cs = 0) (a : Addr) (b : Addr) (e1 : Addr) (k_e1 : ClassId) (h0 : Heap) (O : Old Z Z.heap.size h0) (X_a : Exa Z h0 a "java/lang/String") (F_a_value : Fld Z h0 a "java/lang/String" "value" "[B" .null) (F_a_coder : Fld Z h0 a "java/lang/String" "coder" "B" (.int 0)) (X_b : Exa Z h0 b "java/lang/StringBuilder") (F_b_value : Fld Z h0 b "java/lang/AbstractStringBuilder" "value" "[B" (.ref e1)) (F_b_coder : Fld Z h0 b "java/lang/AbstractStringBuilder" "coder" "B" (.int 0)) (F_b_count : Fld Z h0 b "java/lang/AbstractStringBuilder" "count" "I" (.int 47)) (A_e1 : Arv Z h0 e1 k_e1 .byte 70 V8 (.int 0)) (ge_a : Z.heap.size ≤ a) (ne_a_b : a ≠ b) (ne_a_e1 : a ≠ e1) :
    Met0 l Z (⟨"java/lang/String", "<init>", "(Ljava/lang/AbstractStringBuilder;Ljava/lang/Void;)V"⟩ : MethodName) [] jdk_42_method_150_code 5 none ({ frames := 3, cells := 1, slots := 47, locals := 49 } : Room) #[(.ref a), (.ref b), .null] h0 (fun v h L => ∃ (r : Addr) (k_r : ClassId), v = none ∧ Fr Z.heap.size L ∧ Keep h0 h [a] ∧ Exa Z h a "java/lang/String" ∧ Fld Z h a "java/lang/String" "value" "[B" (.ref r) ∧ Fld Z h a "java/lang/String" "coder" "B" (.int 0) ∧ h0.size ≤ r ∧ Arv Z h r k_r .byte 47 V12 (.int 0)) := by
  have N := Fr.nil Z.heap.size
  have P := Keep.refl h0 [a]
  refine Met0.of_walk (plainFor_of_name pn_java_lang_String) (Ls := #[.val (.ref a), .val (.ref b), .val .null, .unset, .unset]) (fun m => by first | rfl | (simp [entryFrame, mkF, argsToLocals, Value.category]; done)) ?_
  intro p e s m below meth c C
  refine aloadN C rs_init_str2_d0 (pc' := 1) rfl rfl rfl ?_
  refine initO_ C (hw _ (List.mem_of_getElem? (i := 162) rfl)) (hw _ (List.mem_of_getElem? (i := 44) rfl)) (hw _ (List.mem_of_getElem? (i := 45) rfl)) rfl rs_init_str2_d1 (by decide) (W := 0) rfl (by decide) (pc' := 4) rfl ?_
  refine aloadN C rs_init_str2_d4 (pc' := 5) rfl rfl rfl ?_
  refine callV_ C (y := (⟨"java/lang/AbstractStringBuilder", "getValue", "()[B"⟩ : MethodName)) (z := (⟨"java/lang/AbstractStringBuilder", "getValue", "()[B"⟩ : MethodName)) (hw _ (List.mem_of_getElem? (i := 163) rfl)) (hw _ (List.mem_of_getElem? (i := 164) rfl)) (nf_sel (hw _ (List.mem_of_getElem? (i := 166) rfl))) (hw _ (List.mem_of_getElem? (i := 166) rfl)) (hw _ (List.mem_of_getElem? (i := 165) rfl)) (hw _ (List.mem_of_getElem? (i := 41) rfl)) (hw _ (List.mem_of_getElem? (i := 167) rfl)) (by decide) X_b pd_16 [] [] rfl rfl (W := 0) rfl (by decide) (by decide) (by decide) (by decide) (rs_getValue l Z a0 hw cs Sc hcs b e1 k_e1 h0 O X_b F_b_value A_e1) rfl rs_init_str2_d5 (pc' := 8) rfl ?_
  rintro _ _ _ ⟨rfl, rfl, rfl⟩
  show Wk p l e _ _ m _ below meth c _ _ _ _ _ _ (mkF m 8 #[.val (.ref a), .val (.ref b), .val .null, .unset, .unset] [(.ref e1)])
  rw [List.append_nil]
  refine astoreN C rs_init_str2_d8 (pc' := 9) rfl rfl (Ls' := #[.val (.ref a), .val (.ref b), .val .null, .val (.ref e1), .unset]) rfl ?_
  refine aloadN C rs_init_str2_d9 (pc' := 10) rfl rfl rfl ?_
  refine callV_ C (y := (⟨"java/lang/AbstractStringBuilder", "length", "()I"⟩ : MethodName)) (z := (⟨"java/lang/StringBuilder", "length", "()I"⟩ : MethodName)) (hw _ (List.mem_of_getElem? (i := 168) rfl)) (hw _ (List.mem_of_getElem? (i := 169) rfl)) (nf_zs (hw _ (List.mem_of_getElem? (i := 141) rfl)) rfl) (hw _ (List.mem_of_getElem? (i := 171) rfl)) (hw _ (List.mem_of_getElem? (i := 172) rfl)) (hw _ (List.mem_of_getElem? (i := 33) rfl)) (hw _ (List.mem_of_getElem? (i := 173) rfl)) (by decide) X_b pd_7 [] [] rfl rfl (W := 0) rfl (by decide) (by decide) (by decide) (by decide) (rs_length_sb l Z a0 hw cs Sc hcs b h0 O X_b F_b_count) rfl rs_init_str2_d10 (pc' := 13) rfl ?_
  rintro _ _ _ ⟨rfl, rfl, rfl⟩
  show Wk p l e _ _ m _ below meth c _ _ _ _ _ _ (mkF m 13 #[.val (.ref a), .val (.ref b), .val .null, .val (.ref e1), .unset] [(.int 47)])
  rw [List.append_nil]
  refine istore C rs_init_str2_d13 (pc' := 15) rfl (Ls' := #[.val (.ref a), .val (.ref b), .val .null, .val (.ref e1), .val (.int 47)]) rfl ?_
  refine aloadN C rs_init_str2_d15 (pc' := 16) rfl rfl rfl ?_
  refine callV_ C (y := (⟨"java/lang/AbstractStringBuilder", "isLatin1", "()Z"⟩ : MethodName)) (z := (⟨"java/lang/AbstractStringBuilder", "isLatin1", "()Z"⟩ : MethodName)) (hw _ (List.mem_of_getElem? (i := 176) rfl)) (hw _ (List.mem_of_getElem? (i := 139) rfl)) (nf_sel (hw _ (List.mem_of_getElem? (i := 141) rfl))) (hw _ (List.mem_of_getElem? (i := 141) rfl)) (hw _ (List.mem_of_getElem? (i := 140) rfl)) (hw _ (List.mem_of_getElem? (i := 41) rfl)) (hw _ (List.mem_of_getElem? (i := 142) rfl)) (by decide) X_b pd_11 [] [] rfl rfl (W := 0) rfl (by decide) (by decide) (by decide) (by decide) (rs_isLatin1 l Z a0 hw cs Sc hcs b h0 O X_b F_b_coder) rfl rs_init_str2_d16 (pc' := 19) rfl ?_
  rintro _ _ _ ⟨rfl, rfl, rfl⟩
  show Wk p l e _ _ m _ below meth c _ _ _ _ _ _ (mkF m 19 #[.val (.ref a), .val (.ref b), .val .null, .val (.ref e1), .val (.int 47)] [(.int 1)])
  rw [List.append_nil]
  refine if_eq C 41 22 rs_init_str2_d19 (by decide) rfl rfl (fun q19 => ?_) (fun q19 => ?_)
  · exact absurd q19 (by decide)
  refine aloadN C rs_init_str2_d22 (pc' := 23) rfl rfl rfl ?_
  refine iconst C rs_init_str2_d23 (pc' := 24) rfl (v := 0) rfl ?_
  refine putFN_ C (hw _ (List.mem_of_getElem? (i := 74) rfl)) Via.refl F_a_coder X_a (Or.inr ⟨(hw _ (List.mem_of_getElem? (i := 14) rfl)), rfl, rfl⟩) (hw _ (List.mem_of_getElem? (i := 11) rfl)) (ty := .byte) (v' := (.int 0)) (by decide) rfl rfl rs_init_str2_d24 (pc' := 27) rfl ?_
  intro h59 W59
  have O59 := O.wr W59 ge_a
  have N59 := Fr.put (i := Jvm.RoadKit.slotOf Z "java/lang/String" "coder" "B") N ge_a
  have P59 := P.wr W59 (Or.inl (List.mem_of_getElem? (i := 0) rfl))
  have X59_a := X_a.wr W59
  have F59_a_value := F_a_value.other W59 (Or.inr (slot_ne (Or.inr (hw _ (List.mem_of_getElem? (i := 13) rfl))) (Or.inr (hw _ (List.mem_of_getElem? (i := 14) rfl))) (by decide) (t := (.array .byte)) (t' := .byte) (by decide) (by decide)))
  have F59_a_coder := F_a_coder.same W59
  have X59_b := X_b.wr W59
  have F59_b_value := F_b_value.other W59 (Or.inl (Ne.symm ne_a_b))
  have F59_b_coder := F_b_coder.other W59 (Or.inl (Ne.symm ne_a_b))
  have F59_b_count := F_b_count.other W59 (Or.inl (Ne.symm ne_a_b))
  have A59_e1 := A_e1.other W59 (Ne.symm ne_a_e1)
  refine aloadN C rs_init_str2_d27 (pc' := 28) rfl rfl rfl ?_
  refine aloadN C rs_init_str2_d28 (pc' := 29) rfl rfl rfl ?_
  refine iconst C rs_init_str2_d29 (pc' := 30) rfl (v := 0) rfl ?_
  refine iload C rs_init_str2_d30 (pc' := 32) rfl rfl ?_
  have lt60_a := X59_a.lt
  have lt60_b := X59_b.lt
  have lt60_e1 := A59_e1.lt
  refine callS_ C (y := (⟨"java/util/Arrays", "copyOfRange", "([BII)[B"⟩ : MethodName)) (hw _ (List.mem_of_getElem? (i := 177) rfl)) (hw _ (List.mem_of_getElem? (i := 178) rfl)) (hw _ (List.mem_of_getElem? (i := 99) rfl)) (hw _ (List.mem_of_getElem? (i := 179) rfl)) (by decide) pd_15 [(.ref e1), (.int 0), (.int 47)] [(.ref a)] rfl rfl (W := 1) rfl (by decide) (by decide) (by decide) (by decide) (rs_copyOfRange l Z a0 hw cs Sc hcs e1 k_e1 h59 O59 A59_e1) rfl rs_init_str2_d32 (pc' := 35) rfl ?_
  rintro _ h60 L60 ⟨b60r, k_b60r, rfl, N60', K60, z60_b60r, A60_b60r⟩
  have N60 := Fr.app N59 N60'
  have O60 := O59.keep K60 all0
  have P60 := P59.trans K60 all0
  have X60_a := X59_a.keep K60
  have F60_a_value := F59_a_value.keep K60 nin0
  have F60_a_coder := F59_a_coder.keep K60 nin0
  have X60_b := X59_b.keep K60
  have F60_b_value := F59_b_value.keep K60 nin0
  have F60_b_coder := F59_b_coder.keep K60 nin0
  have F60_b_count := F59_b_count.keep K60 nin0
  have A60_e1 := A59_e1.keep K60 nin0
  have ge60_b60r : Z.heap.size ≤ b60r := Nat.le_trans O59.2.1 z60_b60r
  have sz60_b60r : h0.size ≤ b60r := Nat.le_trans P59.1 z60_b60r
  have ne60_a_b60r : a ≠ b60r := Nat.ne_of_lt (Nat.lt_of_lt_of_le lt60_a z60_b60r)
  have ne60_b_b60r : b ≠ b60r := Nat.ne_of_lt (Nat.lt_of_lt_of_le lt60_b z60_b60r)
  have ne60_e1_b60r : e1 ≠ b60r := Nat.ne_of_lt (Nat.lt_of_lt_of_le lt60_e1 z60_b60r)
  show Wk p l e _ _ m _ below meth c _ _ _ _ _ _ (mkF m 35 #[.val (.ref a), .val (.ref b), .val .null, .val (.ref e1), .val (.int 47)] [(.ref b60r), (.ref a)])
  refine putF_ C (hw _ (List.mem_of_getElem? (i := 67) rfl)) Via.refl F60_a_value X60_a (Or.inr ⟨(hw _ (List.mem_of_getElem? (i := 13) rfl)), rfl, rfl⟩) (hw _ (List.mem_of_getElem? (i := 11) rfl)) (ty := (.array .byte)) (by decide) rfl rfl rs_init_str2_d35 (pc' := 38) rfl ?_
  intro h61 W61
  have O61 := O60.wr W61 ge_a
  have N61 := Fr.put (i := Jvm.RoadKit.slotOf Z "java/lang/String" "value" "[B") N60 ge_a
  have P61 := P60.wr W61 (Or.inl (List.mem_of_getElem? (i := 0) rfl))
  have X61_a := X60_a.wr W61
  have F61_a_value := F60_a_value.same W61
  have F61_a_coder := F60_a_coder.other W61 (Or.inr (slot_ne (Or.inr (hw _ (List.mem_of_getElem? (i := 14) rfl))) (Or.inr (hw _ (List.mem_of_getElem? (i := 13) rfl))) (by decide) (t := .byte) (t' := (.array .byte)) (by decide) (by decide)))
  have X61_b := X60_b.wr W61
  have F61_b_value := F60_b_value.other W61 (Or.inl (Ne.symm ne_a_b))
  have F61_b_coder := F60_b_coder.other W61 (Or.inl (Ne.symm ne_a_b))
  have F61_b_count := F60_b_count.other W61 (Or.inl (Ne.symm ne_a_b))
  have A61_e1 := A60_e1.other W61 (Ne.symm ne_a_e1)
  have A61_b60r := A60_b60r.other W61 (Ne.symm ne60_a_b60r)
  refine goto_ C rs_init_str2_d38 (by decide) (pc' := 97) rfl ?_
  exact ret_V C rs_init_str2_d97 rfl (by decide) (by decide) ⟨b60r, k_b60r, rfl, N61, P61, X61_a, F61_a_value, F61_a_coder, sz60_b60r, A61_b60r⟩
theorem pd_17 : parseMethodDescriptor "(Ljava/lang/AbstractStringBuilder;Ljava/lang/Void;)V" = some ⟨[(.object "java/lang/AbstractStringBuilder"), (.object "java/lang/Void")], none⟩ := by decide +kernel
theorem rs_init_str1_d0 : decode jdk_42_method_53_code 0 = .ok (.aload_n 0, 1) := by decide +kernel
theorem rs_init_str1_d1 : decode jdk_42_method_53_code 1 = .ok (.aload_n 1, 1) := by decide +kernel
theorem rs_init_str1_d2 : decode jdk_42_method_53_code 2 = .ok (.aconst_null, 1) := by decide +kernel
theorem rs_init_str1_d3 : decode jdk_42_method_53_code 3 = .ok (.invokespecial 489, 3) := by decide +kernel
theorem rs_init_str1_d6 : decode jdk_42_method_53_code 6 = .ok (.return_, 1) := by decide +kernel
set_option maxRecDepth 65536 in
set_option maxHeartbeats 40000000 in
theorem rs_init_str1 (l : Launch) (Z : State) (a0 : Array Value) (hw : ∀ d ∈ tables_1, d.before a0 Z = true) (cs : Int32) (Sc : Sta Z Z.heap "java/lang/String" "COMPACT_STRINGS" "Z" (.int cs)) (hcs : ¬ cs = 0) (a : Addr) (b : Addr) (e1 : Addr) (k_e1 : ClassId) (h0 : Heap) (O : Old Z Z.heap.size h0) (X_a : Exa Z h0 a "java/lang/String") (F_a_value : Fld Z h0 a "java/lang/String" "value" "[B" .null) (F_a_coder : Fld Z h0 a "java/lang/String" "coder" "B" (.int 0)) (X_b : Exa Z h0 b "java/lang/StringBuilder") (F_b_value : Fld Z h0 b "java/lang/AbstractStringBuilder" "value" "[B" (.ref e1)) (F_b_coder : Fld Z h0 b "java/lang/AbstractStringBuilder" "coder" "B" (.int 0)) (F_b_count : Fld Z h0 b "java/lang/AbstractStringBuilder" "count" "I" (.int 47)) (A_e1 : Arv Z h0 e1 k_e1 .byte 70 V8 (.int 0)) (ge_a : Z.heap.size ≤ a) (ne_a_b : a ≠ b) (ne_a_e1 : a ≠ e1) :
    Met0 l Z (⟨"java/lang/String", "<init>", "(Ljava/lang/StringBuilder;)V"⟩ : MethodName) [] jdk_42_method_53_code 2 none ({ frames := 4, cells := 1, slots := 47, locals := 65 } : Room) #[(.ref a), (.ref b)] h0 (fun v h L => ∃ (r : Addr) (k_r : ClassId), v = none ∧ Fr Z.heap.size L ∧ Keep h0 h [a] ∧ Exa Z h a "java/lang/String" ∧ Fld Z h a "java/lang/String" "value" "[B" (.ref r) ∧ Fld Z h a "java/lang/String" "coder" "B" (.int 0) ∧ h0.size ≤ r ∧ Arv Z h r k_r .byte 47 V12 (.int 0)) := by
  have N := Fr.nil Z.heap.size
  have P := Keep.refl h0 [a]
  refine Met0.of_walk (plainFor_of_name pn_java_lang_String) (Ls := #[.val (.ref a), .val (.ref b)]) (fun m => by first | rfl | (simp [entryFrame, mkF, argsToLocals, Value.category]; done)) ?_
  intro p e s m below meth c C
  refine aloadN C rs_init_str1_d0 (pc' := 1) rfl rfl rfl ?_
  refine aloadN C rs_init_str1_d1 (pc' := 2) rfl rfl rfl ?_
  refine aconstNull C rs_init_str1_d2 (pc' := 3) rfl ?_
  have lt62_a := X_a.lt
  have lt62_b := X_b.lt
  have lt62_e1 := A_e1.lt
  refine callC_ C (y := (⟨"java/lang/String", "<init>", "(Ljava/lang/AbstractStringBuilder;Ljava/lang/Void;)V"⟩ : MethodName)) rfl (hw _ (List.mem_of_getElem? (i := 159) rfl)) (hw _ (List.mem_of_getElem? (i := 160) rfl)) (hw _ (List.mem_of_getElem? (i := 10) rfl)) (hw _ (List.mem_of_getElem? (i := 161) rfl)) (by decide) pd_17 [(.ref b), .null] [] rfl rfl (W := 0) rfl (by decide) (by decide) (by decide) (by decide) (rs_init_str2 l Z a0 hw cs Sc hcs a b e1 k_e1 h0 O X_a F_a_value F_a_coder X_b F_b_value F_b_coder F_b_count A_e1 ge_a ne_a_b ne_a_e1) rfl rs_init_str1_d3 (pc' := 6) rfl ?_
  rintro _ h62 L62 ⟨b62r, k_b62r, rfl, N62', K62, X62_a, F62_a_value, F62_a_coder, z62_b62r, A62_b62r⟩
  have N62 := Fr.app N N62'
  have O62 := O.keep K62 (allS ge_a all0)
  have P62 := P.trans K62 (allS (Or.inl (List.mem_of_getElem? (i := 0) rfl)) all0)
  have X62_b := X_b.keep K62
  have F62_b_value := F_b_value.keep K62 (ninS (Ne.symm ne_a_b) (nin0))
  have F62_b_coder := F_b_coder.keep K62 (ninS (Ne.symm ne_a_b) (nin0))
  have F62_b_count := F_b_count.keep K62 (ninS (Ne.symm ne_a_b) (nin0))
  have A62_e1 := A_e1.keep K62 (ninS (Ne.symm ne_a_e1) (nin0))
  have ge62_b62r : Z.heap.size ≤ b62r := Nat.le_trans O.2.1 z62_b62r
  have sz62_b62r : h0.size ≤ b62r := Nat.le_trans P.1 z62_b62r
  have ne62_a_b62r : a ≠ b62r := Nat.ne_of_lt (Nat.lt_of_lt_of_le lt62_a z62_b62r)
  have ne62_b_b62r : b ≠ b62r := Nat.ne_of_lt (Nat.lt_of_lt_of_le lt62_b z62_b62r)
  have ne62_e1_b62r : e1 ≠ b62r := Nat.ne_of_lt (Nat.lt_of_lt_of_le lt62_e1 z62_b62r)
  show Wk p l e _ _ m _ below meth c _ _ _ _ _ _ (mkF m 6 #[.val (.ref a), .val (.ref b)] [])
  exact ret_V C rs_init_str1_d6 rfl (by decide) (by decide) ⟨b62r, k_b62r, rfl, N62, P62, X62_a, F62_a_value, F62_a_coder, sz62_b62r, A62_b62r⟩
theorem pd_18 : parseMethodDescriptor "(Ljava/lang/StringBuilder;)V" = some ⟨[(.object "java/lang/StringBuilder")], none⟩ := by decide +kernel
theorem rs_toString_d0 : decode jdk_67_method_42_code 0 = .ok (.new 18, 3) := by decide +kernel
theorem rs_toString_d3 : decode jdk_67_method_42_code 3 = .ok (.dup, 1) := by decide +kernel
theorem rs_toString_d4 : decode jdk_67_method_42_code 4 = .ok (.aload_n 0, 1) := by decide +kernel
theorem rs_toString_d5 : decode jdk_67_method_42_code 5 = .ok (.invokespecial 137, 3) := by decide +kernel
theorem rs_toString_d8 : decode jdk_67_method_42_code 8 = .ok (.areturn, 1) := by decide +kernel
set_option maxRecDepth 65536 in
set_option maxHeartbeats 40000000 in
theorem rs_toString (l : Launch) (Z : State) (a0 : Array Value) (hw : ∀ d ∈ tables_1, d.before a0 Z = true) (cs : Int32) (Sc : Sta Z Z.heap "java/lang/String" "COMPACT_STRINGS" "Z" (.int cs)) (hcs : ¬ cs = 0) (b : Addr) (e1 : Addr) (k_e1 : ClassId) (h0 : Heap) (O : Old Z Z.heap.size h0) (X_b : Exa Z h0 b "java/lang/StringBuilder") (F_b_value : Fld Z h0 b "java/lang/AbstractStringBuilder" "value" "[B" (.ref e1)) (F_b_coder : Fld Z h0 b "java/lang/AbstractStringBuilder" "coder" "B" (.int 0)) (F_b_count : Fld Z h0 b "java/lang/AbstractStringBuilder" "count" "I" (.int 47)) (A_e1 : Arv Z h0 e1 k_e1 .byte 70 V8 (.int 0)) :
    Met0 l Z (⟨"java/lang/StringBuilder", "toString", "()Ljava/lang/String;"⟩ : MethodName) [] jdk_67_method_42_code 1 (some (.object "java/lang/String")) ({ frames := 5, cells := 2, slots := 51, locals := 79 } : Room) #[(.ref b)] h0 (fun v h L => ∃ (r : Addr), ∃ (r2 : Addr) (k_r2 : ClassId), v = some (.ref r) ∧ Fr Z.heap.size L ∧ Keep h0 h [] ∧ h0.size ≤ r ∧ Exa Z h r "java/lang/String" ∧ Fld Z h r "java/lang/String" "value" "[B" (.ref r2) ∧ Fld Z h r "java/lang/String" "coder" "B" (.int 0) ∧ h0.size ≤ r2 ∧ Arv Z h r2 k_r2 .byte 47 V12 (.int 0)) := by
  have N := Fr.nil Z.heap.size
  have P := Keep.refl h0 []
  refine Met0.of_walk (plainFor_of_name pn_java_lang_StringBuilder) (Ls := #[.val (.ref b)]) (fun m => by first | rfl | (simp [entryFrame, mkF, argsToLocals, Value.category]; done)) ?_
  intro p e s m below meth c C
  have lt63_b := X_b.lt
  have lt63_e1 := A_e1.lt
  refine newO_ C (hw _ (List.mem_of_getElem? (i := 154) rfl)) (hw _ (List.mem_of_getElem? (i := 11) rfl)) (hw _ (List.mem_of_getElem? (i := 10) rfl)) rs_toString_d0 (pc' := 3) rfl (by decide) (by decide) ?_
  intro h63 b63 g63 E63 X63_b63 D63
  have ge63_b63 : Z.heap.size ≤ b63 := by rw [g63]; exact O.2.1
  have sz63_b63 : h0.size ≤ b63 := by rw [g63]; exact P.1
  have ne63_b_b63 : b ≠ b63 := Nat.ne_of_lt (Nat.lt_of_lt_of_le lt63_b (Nat.le_of_eq g63.symm))
  have ne63_e1_b63 : e1 ≠ b63 := Nat.ne_of_lt (Nat.lt_of_lt_of_le lt63_e1 (Nat.le_of_eq g63.symm))
  have F63_b63_value : Fld Z h63 b63 "java/lang/String" "value" "[B" .null := D63 (Or.inr (hw _ (List.mem_of_getElem? (i := 13) rfl))) (ty := (.array .byte)) (by decide)
  have F63_b63_coder : Fld Z h63 b63 "java/lang/String" "coder" "B" (.int 0) := D63 (Or.inr (hw _ (List.mem_of_getElem? (i := 14) rfl))) (ty := .byte) (by decide)
  have O63 := O.ext E63
  have X63_b := X_b.ext E63
  have F63_b_value := F_b_value.ext E63
  have F63_b_coder := F_b_coder.ext E63
  have F63_b_count := F_b_count.ext E63
  have A63_e1 := A_e1.ext E63
  have P63 := P.ext E63
  refine dup C rs_toString_d3 (pc' := 4) rfl rfl ?_
  refine aloadN C rs_toString_d4 (pc' := 5) rfl rfl rfl ?_
  have lt64_b := X63_b.lt
  have lt64_b63 := X63_b63.lt
  have lt64_e1 := A63_e1.lt
  refine callC_ C (y := (⟨"java/lang/String", "<init>", "(Ljava/lang/StringBuilder;)V"⟩ : MethodName)) rfl (hw _ (List.mem_of_getElem? (i := 155) rfl)) (hw _ (List.mem_of_getElem? (i := 156) rfl)) (hw _ (List.mem_of_getElem? (i := 10) rfl)) (hw _ (List.mem_of_getElem? (i := 158) rfl)) (by decide) pd_18 [(.ref b)] [(.ref b63)] rfl rfl (W := 1) rfl (by decide) (by decide) (by decide) (by decide) (rs_init_str1 l Z a0 hw cs Sc hcs b63 b e1 k_e1 h63 O63 X63_b63 F63_b63_value F63_b63_coder X63_b F63_b_value F63_b_coder F63_b_count A63_e1 ge63_b63 (Ne.symm ne63_b_b63) (Ne.symm ne63_e1_b63)) rfl rs_toString_d5 (pc' := 8) rfl ?_
  rintro _ h64 L64 ⟨b64r, k_b64r, rfl, N64', K64, X64_b63, F64_b63_value, F64_b63_coder, z64_b64r, A64_b64r⟩
  have N64 := Fr.app N N64'
  have O64 := O63.keep K64 (allS ge63_b63 all0)
  have P64 := P63.trans K64 (allS (Or.inr sz63_b63) all0)
  have X64_b := X63_b.keep K64
  have F64_b_value := F63_b_value.keep K64 (ninS ne63_b_b63 (nin0))
  have F64_b_coder := F63_b_coder.keep K64 (ninS ne63_b_b63 (nin0))
  have F64_b_count := F63_b_count.keep K64 (ninS ne63_b_b63 (nin0))
  have A64_e1 := A63_e1.keep K64 (ninS ne63_e1_b63 (nin0))
  have ge64_b64r : Z.heap.size ≤ b64r := Nat.le_trans O63.2.1 z64_b64r
  have sz64_b64r : h0.size ≤ b64r := Nat.le_trans P63.1 z64_b64r
  have ne64_b_b64r : b ≠ b64r := Nat.ne_of_lt (Nat.lt_of_lt_of_le lt64_b z64_b64r)
  have ne64_b63_b64r : b63 ≠ b64r := Nat.ne_of_lt (Nat.lt_of_lt_of_le lt64_b63 z64_b64r)
  have ne64_e1_b64r : e1 ≠ b64r := Nat.ne_of_lt (Nat.lt_of_lt_of_le lt64_e1 z64_b64r)
  show Wk p l e _ _ m _ below meth c _ _ _ _ _ _ (mkF m 8 #[.val (.ref b)] [(.ref b63)])
  exact ret_A C rs_toString_d8 rfl rfl rfl rfl (by decide) (by decide) ⟨b63, b64r, k_b64r, rfl, N64, P64, sz63_b63, X64_b63, F64_b63_value, F64_b63_coder, sz64_b64r, A64_b64r⟩
abbrev V14 : List Value := [.int 97, .int 32, .int 119, .int 104, .int 111, .int 108, .int 101, .int 32, .int 110, .int 117, .int 109, .int 98, .int 101, .int 114, .int 32, .int 111, .int 102, .int 32, .int 115, .int 104, .int 97, .int 114, .int 101, .int 115]
theorem pn_java_lang_StringLatin1 : plainName "java/lang/StringLatin1" = true := by first | (simp [plainName, overriddenIn]; done) | decide +kernel
theorem rs_leq_24_d0 : decode jdk_43_method_13_code 0 = .ok (.aload_n 0, 1) := by decide +kernel
theorem rs_leq_24_d1 : decode jdk_43_method_13_code 1 = .ok (.arraylength, 1) := by decide +kernel
theorem rs_leq_24_d2 : decode jdk_43_method_13_code 2 = .ok (.aload_n 1, 1) := by decide +kernel
theorem rs_leq_24_d3 : decode jdk_43_method_13_code 3 = .ok (.arraylength, 1) := by decide +kernel
theorem rs_leq_24_d4 : decode jdk_43_method_13_code 4 = .ok (.if_icmp .ne 30, 3) := by decide +kernel
theorem rs_leq_24_d7 : decode jdk_43_method_13_code 7 = .ok (.iconst 0, 1) := by decide +kernel
theorem rs_leq_24_d8 : decode jdk_43_method_13_code 8 = .ok (.istore_n 2, 1) := by decide +kernel
theorem rs_leq_24_d9 : decode jdk_43_method_13_code 9 = .ok (.iload_n 2, 1) := by decide +kernel
theorem rs_leq_24_d10 : decode jdk_43_method_13_code 10 = .ok (.aload_n 0, 1) := by decide +kernel
theorem rs_leq_24_d11 : decode jdk_43_method_13_code 11 = .ok (.arraylength, 1) := by decide +kernel
theorem rs_leq_24_d12 : decode jdk_43_method_13_code 12 = .ok (.if_icmp .ge 20, 3) := by decide +kernel
theorem rs_leq_24_d15 : decode jdk_43_method_13_code 15 = .ok (.aload_n 0, 1) := by decide +kernel
theorem rs_leq_24_d16 : decode jdk_43_method_13_code 16 = .ok (.iload_n 2, 1) := by decide +kernel
theorem rs_leq_24_d17 : decode jdk_43_method_13_code 17 = .ok (.baload, 1) := by decide +kernel
theorem rs_leq_24_d18 : decode jdk_43_method_13_code 18 = .ok (.aload_n 1, 1) := by decide +kernel
theorem rs_leq_24_d19 : decode jdk_43_method_13_code 19 = .ok (.iload_n 2, 1) := by decide +kernel
theorem rs_leq_24_d20 : decode jdk_43_method_13_code 20 = .ok (.baload, 1) := by decide +kernel
theorem rs_leq_24_d21 : decode jdk_43_method_13_code 21 = .ok (.if_icmp .eq 5, 3) := by decide +kernel
theorem rs_leq_24_d26 : decode jdk_43_method_13_code 26 = .ok (.iinc 2 1, 3) := by decide +kernel
theorem rs_leq_24_d29 : decode jdk_43_method_13_code 29 = .ok (.goto (-20), 3) := by decide +kernel
theorem rs_leq_24_d32 : decode jdk_43_method_13_code 32 = .ok (.iconst 1, 1) := by decide +kernel
theorem rs_leq_24_d33 : decode jdk_43_method_13_code 33 = .ok (.ireturn, 1) := by decide +kernel
set_option maxRecDepth 65536 in
set_option maxHeartbeats 40000000 in
theorem rs_leq_24 (l : Launch) (Z : State) (a0 : Array Value) (hw : ∀ d ∈ tables_1, d.before a0 Z = true) (cs : Int32) (Sc : Sta Z Z.heap "java/lang/String" "COMPACT_STRINGS" "Z" (.int cs)) (hcs : ¬ cs = 0) (d : Addr) (k_d : ClassId) (e1 : Addr) (k_e1 : ClassId) (h0 : Heap) (O : Old Z Z.heap.size h0) (A_d : Arv Z h0 d k_d .byte 24 V14 (.int 0)) (A_e1 : Arv Z h0 e1 k_e1 .byte 24 V14 (.int 0)) :
    Met0 l Z (⟨"java/lang/StringLatin1", "equals", "([B[B)Z"⟩ : MethodName) [] jdk_43_method_13_code 3 (some .boolean) ({ frames := 0, cells := 0, slots := 0, locals := 0 } : Room) #[(.ref d), (.ref e1)] h0 (fun v h L => v = some (.int 1) ∧ h0 = h ∧ L = []) := by
  have N := Fr.nil Z.heap.size
  have P := Keep.refl h0 []
  refine Met0.of_walk (plainFor_of_name pn_java_lang_StringLatin1) (Ls := #[.val (.ref d), .val (.ref e1), .unset]) (fun m => by first | rfl | (simp [entryFrame, mkF, argsToLocals, Value.category]; done)) ?_
  intro p e s m below meth c C
  refine aloadN C rs_leq_24_d0 (pc' := 1) rfl rfl rfl ?_
  refine alen_ C A_d rs_leq_24_d1 (pc' := 2) rfl ?_
  refine aloadN C rs_leq_24_d2 (pc' := 3) rfl rfl rfl ?_
  refine alen_ C A_e1 rs_leq_24_d3 (pc' := 4) rfl ?_
  refine icmp_ne C 34 7 rs_leq_24_d4 (by decide) rfl rfl (fun q4 => ?_) (fun q4 => ?_)
  · exact absurd q4 (by decide)
  refine iconst C rs_leq_24_d7 (pc' := 8) rfl (v := 0) rfl ?_
  refine istoreN C rs_leq_24_d8 (pc' := 9) rfl (Ls' := #[.val (.ref d), .val (.ref e1), .val (.int 0)]) rfl ?_
  refine iloadN C rs_leq_24_d9 (pc' := 10) rfl rfl ?_
  refine aloadN C rs_leq_24_d10 (pc' := 11) rfl rfl rfl ?_
  refine alen_ C A_d rs_leq_24_d11 (pc' := 12) rfl ?_
  refine icmp_ge C 32 15 rs_leq_24_d12 (by decide) rfl rfl (fun q12 => ?_) (fun q12 => ?_)
  · exact absurd q12 (by decide)
  refine aloadN C rs_leq_24_d15 (pc' := 16) rfl rfl rfl ?_
  refine iloadN C rs_leq_24_d16 (pc' := 17) rfl rfl ?_
  refine ldB_ C (v := .int 97) A_d (by decide) rfl rs_leq_24_d17 (pc' := 18) rfl ?_
  refine aloadN C rs_leq_24_d18 (pc' := 19) rfl rfl rfl ?_
  refine iloadN C rs_leq_24_d19 (pc' := 20) rfl rfl ?_
  refine ldB_ C (v := .int 97) A_e1 (by decide) rfl rs_leq_24_d20 (pc' := 21) rfl ?_
  refine icmp_eq C 26 24 rs_leq_24_d21 (by decide) rfl rfl (fun q21 => ?_) (fun q21 => ?_)
  · skip
    refine iinc C rs_leq_24_d26 (pc' := 29) rfl rfl (Ls' := #[.val (.ref d), .val (.ref e1), .val (.int 1)]) rfl ?_
    refine goto_ C rs_leq_24_d29 (by decide) (pc' := 9) rfl ?_
    refine iloadN C rs_leq_24_d9 (pc' := 10) rfl rfl ?_
    refine aloadN C rs_leq_24_d10 (pc' := 11) rfl rfl rfl ?_
    refine alen_ C A_d rs_leq_24_d11 (pc' := 12) rfl ?_
    refine icmp_ge C 32 15 rs_leq_24_d12 (by decide) rfl rfl (fun q12 => ?_) (fun q12 => ?_)
    · exact absurd q12 (by decide)
    refine aloadN C rs_leq_24_d15 (pc' := 16) rfl rfl rfl ?_
    refine iloadN C rs_leq_24_d16 (pc' := 17) rfl rfl ?_
    refine ldB_ C (v := .int 32) A_d (by decide) rfl rs_leq_24_d17 (pc' := 18) rfl ?_
    refine aloadN C rs_leq_24_d18 (pc' := 19) rfl rfl rfl ?_
    refine iloadN C rs_leq_24_d19 (pc' := 20) rfl rfl ?_
    refine ldB_ C (v := .int 32) A_e1 (by decide) rfl rs_leq_24_d20 (pc' := 21) rfl ?_
    refine icmp_eq C 26 24 rs_leq_24_d21 (by decide) rfl rfl (fun q21 => ?_) (fun q21 => ?_)
    · skip
      refine iinc C rs_leq_24_d26 (pc' := 29) rfl rfl (Ls' := #[.val (.ref d), .val (.ref e1), .val (.int 2)]) rfl ?_
      refine goto_ C rs_leq_24_d29 (by decide) (pc' := 9) rfl ?_
      refine iloadN C rs_leq_24_d9 (pc' := 10) rfl rfl ?_
      refine aloadN C rs_leq_24_d10 (pc' := 11) rfl rfl rfl ?_
      refine alen_ C A_d rs_leq_24_d11 (pc' := 12) rfl ?_
      refine icmp_ge C 32 15 rs_leq_24_d12 (by decide) rfl rfl (fun q12 => ?_) (fun q12 => ?_)
      · exact absurd q12 (by decide)
      refine aloadN C rs_leq_24_d15 (pc' := 16) rfl rfl rfl ?_
      refine iloadN C rs_leq_24_d16 (pc' := 17) rfl rfl ?_
      refine ldB_ C (v := .int 119) A_d (by decide) rfl rs_leq_24_d17 (pc' := 18) rfl ?_
      refine aloadN C rs_leq_24_d18 (pc' := 19) rfl rfl rfl ?_
      refine iloadN C rs_leq_24_d19 (pc' := 20) rfl rfl ?_
      refine ldB_ C (v := .int 119) A_e1 (by decide) rfl rs_leq_24_d20 (pc' := 21) rfl ?_
      refine icmp_eq C 26 24 rs_leq_24_d21 (by decide) rfl rfl (fun q21 => ?_) (fun q21 => ?_)
      · skip
        refine iinc C rs_leq_24_d26 (pc' := 29) rfl rfl (Ls' := #[.val (.ref d), .val (.ref e1), .val (.int 3)]) rfl ?_
        refine goto_ C rs_leq_24_d29 (by decide) (pc' := 9) rfl ?_
        refine iloadN C rs_leq_24_d9 (pc' := 10) rfl rfl ?_
        refine aloadN C rs_leq_24_d10 (pc' := 11) rfl rfl rfl ?_
        refine alen_ C A_d rs_leq_24_d11 (pc' := 12) rfl ?_
        refine icmp_ge C 32 15 rs_leq_24_d12 (by decide) rfl rfl (fun q12 => ?_) (fun q12 => ?_)
        · exact absurd q12 (by decide)
        refine aloadN C rs_leq_24_d15 (pc' := 16) rfl rfl rfl ?_
        refine iloadN C rs_leq_24_d16 (pc' := 17) rfl rfl ?_
        refine ldB_ C (v := .int 104) A_d (by decide) rfl rs_leq_24_d17 (pc' := 18) rfl ?_
        refine aloadN C rs_leq_24_d18 (pc' := 19) rfl rfl rfl ?_
        refine iloadN C rs_leq_24_d19 (pc' := 20) rfl rfl ?_
        refine ldB_ C (v := .int 104) A_e1 (by decide) rfl rs_leq_24_d20 (pc' := 21) rfl ?_
        refine icmp_eq C 26 24 rs_leq_24_d21 (by decide) rfl rfl (fun q21 => ?_) (fun q21 => ?_)
        · skip
          refine iinc C rs_leq_24_d26 (pc' := 29) rfl rfl (Ls' := #[.val (.ref d), .val (.ref e1), .val (.int 4)]) rfl ?_
          refine goto_ C rs_leq_24_d29 (by decide) (pc' := 9) rfl ?_
          refine iloadN C rs_leq_24_d9 (pc' := 10) rfl rfl ?_
          refine aloadN C rs_leq_24_d10 (pc' := 11) rfl rfl rfl ?_
          refine alen_ C A_d rs_leq_24_d11 (pc' := 12) rfl ?_
          refine icmp_ge C 32 15 rs_leq_24_d12 (by decide) rfl rfl (fun q12 => ?_) (fun q12 => ?_)
          · exact absurd q12 (by decide)
          refine aloadN C rs_leq_24_d15 (pc' := 16) rfl rfl rfl ?_
          refine iloadN C rs_leq_24_d16 (pc' := 17) rfl rfl ?_
          refine ldB_ C (v := .int 111) A_d (by decide) rfl rs_leq_24_d17 (pc' := 18) rfl ?_
          refine aloadN C rs_leq_24_d18 (pc' := 19) rfl rfl rfl ?_
          refine iloadN C rs_leq_24_d19 (pc' := 20) rfl rfl ?_
          refine ldB_ C (v := .int 111) A_e1 (by decide) rfl rs_leq_24_d20 (pc' := 21) rfl ?_
          refine icmp_eq C 26 24 rs_leq_24_d21 (by decide) rfl rfl (fun q21 => ?_) (fun q21 => ?_)
          · skip
            refine iinc C rs_leq_24_d26 (pc' := 29) rfl rfl (Ls' := #[.val (.ref d), .val (.ref e1), .val (.int 5)]) rfl ?_
            refine goto_ C rs_leq_24_d29 (by decide) (pc' := 9) rfl ?_
            refine iloadN C rs_leq_24_d9 (pc' := 10) rfl rfl ?_
            refine aloadN C rs_leq_24_d10 (pc' := 11) rfl rfl rfl ?_
            refine alen_ C A_d rs_leq_24_d11 (pc' := 12) rfl ?_
            refine icmp_ge C 32 15 rs_leq_24_d12 (by decide) rfl rfl (fun q12 => ?_) (fun q12 => ?_)
            · exact absurd q12 (by decide)
            refine aloadN C rs_leq_24_d15 (pc' := 16) rfl rfl rfl ?_
            refine iloadN C rs_leq_24_d16 (pc' := 17) rfl rfl ?_
            refine ldB_ C (v := .int 108) A_d (by decide) rfl rs_leq_24_d17 (pc' := 18) rfl ?_
            refine aloadN C rs_leq_24_d18 (pc' := 19) rfl rfl rfl ?_
            refine iloadN C rs_leq_24_d19 (pc' := 20) rfl rfl ?_
            refine ldB_ C (v := .int 108) A_e1 (by decide) rfl rs_leq_24_d20 (pc' := 21) rfl ?_
            refine icmp_eq C 26 24 rs_leq_24_d21 (by decide) rfl rfl (fun q21 => ?_) (fun q21 => ?_)
            · skip
              refine iinc C rs_leq_24_d26 (pc' := 29) rfl rfl (Ls' := #[.val (.ref d), .val (.ref e1), .val (.int 6)]) rfl ?_
              refine goto_ C rs_leq_24_d29 (by decide) (pc' := 9) rfl ?_
              refine iloadN C rs_leq_24_d9 (pc' := 10) rfl rfl ?_
              refine aloadN C rs_leq_24_d10 (pc' := 11) rfl rfl rfl ?_
              refine alen_ C A_d rs_leq_24_d11 (pc' := 12) rfl ?_
              refine icmp_ge C 32 15 rs_leq_24_d12 (by decide) rfl rfl (fun q12 => ?_) (fun q12 => ?_)
              · exact absurd q12 (by decide)
              refine aloadN C rs_leq_24_d15 (pc' := 16) rfl rfl rfl ?_
              refine iloadN C rs_leq_24_d16 (pc' := 17) rfl rfl ?_
              refine ldB_ C (v := .int 101) A_d (by decide) rfl rs_leq_24_d17 (pc' := 18) rfl ?_
              refine aloadN C rs_leq_24_d18 (pc' := 19) rfl rfl rfl ?_
              refine iloadN C rs_leq_24_d19 (pc' := 20) rfl rfl ?_
              refine ldB_ C (v := .int 101) A_e1 (by decide) rfl rs_leq_24_d20 (pc' := 21) rfl ?_
              refine icmp_eq C 26 24 rs_leq_24_d21 (by decide) rfl rfl (fun q21 => ?_) (fun q21 => ?_)
              · skip
                refine iinc C rs_leq_24_d26 (pc' := 29) rfl rfl (Ls' := #[.val (.ref d), .val (.ref e1), .val (.int 7)]) rfl ?_
                refine goto_ C rs_leq_24_d29 (by decide) (pc' := 9) rfl ?_
                refine iloadN C rs_leq_24_d9 (pc' := 10) rfl rfl ?_
                refine aloadN C rs_leq_24_d10 (pc' := 11) rfl rfl rfl ?_
                refine alen_ C A_d rs_leq_24_d11 (pc' := 12) rfl ?_
                refine icmp_ge C 32 15 rs_leq_24_d12 (by decide) rfl rfl (fun q12 => ?_) (fun q12 => ?_)
                · exact absurd q12 (by decide)
                refine aloadN C rs_leq_24_d15 (pc' := 16) rfl rfl rfl ?_
                refine iloadN C rs_leq_24_d16 (pc' := 17) rfl rfl ?_
                refine ldB_ C (v := .int 32) A_d (by decide) rfl rs_leq_24_d17 (pc' := 18) rfl ?_
                refine aloadN C rs_leq_24_d18 (pc' := 19) rfl rfl rfl ?_
                refine iloadN C rs_leq_24_d19 (pc' := 20) rfl rfl ?_
                refine ldB_ C (v := .int 32) A_e1 (by decide) rfl rs_leq_24_d20 (pc' := 21) rfl ?_
                refine icmp_eq C 26 24 rs_leq_24_d21 (by decide) rfl rfl (fun q21 => ?_) (fun q21 => ?_)
                · skip
                  refine iinc C rs_leq_24_d26 (pc' := 29) rfl rfl (Ls' := #[.val (.ref d), .val (.ref e1), .val (.int 8)]) rfl ?_
                  refine goto_ C rs_leq_24_d29 (by decide) (pc' := 9) rfl ?_
                  refine iloadN C rs_leq_24_d9 (pc' := 10) rfl rfl ?_
                  refine aloadN C rs_leq_24_d10 (pc' := 11) rfl rfl rfl ?_
                  refine alen_ C A_d rs_leq_24_d11 (pc' := 12) rfl ?_
                  refine icmp_ge C 32 15 rs_leq_24_d12 (by decide) rfl rfl (fun q12 => ?_) (fun q12 => ?_)
                  · exact absurd q12 (by decide)
                  refine aloadN C rs_leq_24_d15 (pc' := 16) rfl rfl rfl ?_
                  refine iloadN C rs_leq_24_d16 (pc' := 17) rfl rfl ?_
                  refine ldB_ C (v := .int 110) A_d (by decide) rfl rs_leq_24_d17 (pc' := 18) rfl ?_
                  refine aloadN C rs_leq_24_d18 (pc' := 19) rfl rfl rfl ?_
                  refine iloadN C rs_leq_24_d19 (pc' := 20) rfl rfl ?_
                  refine ldB_ C (v := .int 110) A_e1 (by decide) rfl rs_leq_24_d20 (pc' := 21) rfl ?_
                  refine icmp_eq C 26 24 rs_leq_24_d21 (by decide) rfl rfl (fun q21 => ?_) (fun q21 => ?_)
                  · skip
                    refine iinc C rs_leq_24_d26 (pc' := 29) rfl rfl (Ls' := #[.val (.ref d), .val (.ref e1), .val (.int 9)]) rfl ?_
                    refine goto_ C rs_leq_24_d29 (by decide) (pc' := 9) rfl ?_
                    refine iloadN C rs_leq_24_d9 (pc' := 10) rfl rfl ?_
                    refine aloadN C rs_leq_24_d10 (pc' := 11) rfl rfl rfl ?_
                    refine alen_ C A_d rs_leq_24_d11 (pc' := 12) rfl ?_
                    refine icmp_ge C 32 15 rs_leq_24_d12 (by decide) rfl rfl (fun q12 => ?_) (fun q12 => ?_)
                    · exact absurd q12 (by decide)
                    refine aloadN C rs_leq_24_d15 (pc' := 16) rfl rfl rfl ?_
                    refine iloadN C rs_leq_24_d16 (pc' := 17) rfl rfl ?_
                    refine ldB_ C (v := .int 117) A_d (by decide) rfl rs_leq_24_d17 (pc' := 18) rfl ?_
                    refine aloadN C rs_leq_24_d18 (pc' := 19) rfl rfl rfl ?_
                    refine iloadN C rs_leq_24_d19 (pc' := 20) rfl rfl ?_
                    refine ldB_ C (v := .int 117) A_e1 (by decide) rfl rs_leq_24_d20 (pc' := 21) rfl ?_
                    refine icmp_eq C 26 24 rs_leq_24_d21 (by decide) rfl rfl (fun q21 => ?_) (fun q21 => ?_)
                    · skip
                      refine iinc C rs_leq_24_d26 (pc' := 29) rfl rfl (Ls' := #[.val (.ref d), .val (.ref e1), .val (.int 10)]) rfl ?_
                      refine goto_ C rs_leq_24_d29 (by decide) (pc' := 9) rfl ?_
                      refine iloadN C rs_leq_24_d9 (pc' := 10) rfl rfl ?_
                      refine aloadN C rs_leq_24_d10 (pc' := 11) rfl rfl rfl ?_
                      refine alen_ C A_d rs_leq_24_d11 (pc' := 12) rfl ?_
                      refine icmp_ge C 32 15 rs_leq_24_d12 (by decide) rfl rfl (fun q12 => ?_) (fun q12 => ?_)
                      · exact absurd q12 (by decide)
                      refine aloadN C rs_leq_24_d15 (pc' := 16) rfl rfl rfl ?_
                      refine iloadN C rs_leq_24_d16 (pc' := 17) rfl rfl ?_
                      refine ldB_ C (v := .int 109) A_d (by decide) rfl rs_leq_24_d17 (pc' := 18) rfl ?_
                      refine aloadN C rs_leq_24_d18 (pc' := 19) rfl rfl rfl ?_
                      refine iloadN C rs_leq_24_d19 (pc' := 20) rfl rfl ?_
                      refine ldB_ C (v := .int 109) A_e1 (by decide) rfl rs_leq_24_d20 (pc' := 21) rfl ?_
                      refine icmp_eq C 26 24 rs_leq_24_d21 (by decide) rfl rfl (fun q21 => ?_) (fun q21 => ?_)
                      · skip
                        refine iinc C rs_leq_24_d26 (pc' := 29) rfl rfl (Ls' := #[.val (.ref d), .val (.ref e1), .val (.int 11)]) rfl ?_
                        refine goto_ C rs_leq_24_d29 (by decide) (pc' := 9) rfl ?_
                        refine iloadN C rs_leq_24_d9 (pc' := 10) rfl rfl ?_
                        refine aloadN C rs_leq_24_d10 (pc' := 11) rfl rfl rfl ?_
                        refine alen_ C A_d rs_leq_24_d11 (pc' := 12) rfl ?_
                        refine icmp_ge C 32 15 rs_leq_24_d12 (by decide) rfl rfl (fun q12 => ?_) (fun q12 => ?_)
                        · exact absurd q12 (by decide)
                        refine aloadN C rs_leq_24_d15 (pc' := 16) rfl rfl rfl ?_
                        refine iloadN C rs_leq_24_d16 (pc' := 17) rfl rfl ?_
                        refine ldB_ C (v := .int 98) A_d (by decide) rfl rs_leq_24_d17 (pc' := 18) rfl ?_
                        refine aloadN C rs_leq_24_d18 (pc' := 19) rfl rfl rfl ?_
                        refine iloadN C rs_leq_24_d19 (pc' := 20) rfl rfl ?_
                        refine ldB_ C (v := .int 98) A_e1 (by decide) rfl rs_leq_24_d20 (pc' := 21) rfl ?_
                        refine icmp_eq C 26 24 rs_leq_24_d21 (by decide) rfl rfl (fun q21 => ?_) (fun q21 => ?_)
                        · skip
                          refine iinc C rs_leq_24_d26 (pc' := 29) rfl rfl (Ls' := #[.val (.ref d), .val (.ref e1), .val (.int 12)]) rfl ?_
                          refine goto_ C rs_leq_24_d29 (by decide) (pc' := 9) rfl ?_
                          refine iloadN C rs_leq_24_d9 (pc' := 10) rfl rfl ?_
                          refine aloadN C rs_leq_24_d10 (pc' := 11) rfl rfl rfl ?_
                          refine alen_ C A_d rs_leq_24_d11 (pc' := 12) rfl ?_
                          refine icmp_ge C 32 15 rs_leq_24_d12 (by decide) rfl rfl (fun q12 => ?_) (fun q12 => ?_)
                          · exact absurd q12 (by decide)
                          refine aloadN C rs_leq_24_d15 (pc' := 16) rfl rfl rfl ?_
                          refine iloadN C rs_leq_24_d16 (pc' := 17) rfl rfl ?_
                          refine ldB_ C (v := .int 101) A_d (by decide) rfl rs_leq_24_d17 (pc' := 18) rfl ?_
                          refine aloadN C rs_leq_24_d18 (pc' := 19) rfl rfl rfl ?_
                          refine iloadN C rs_leq_24_d19 (pc' := 20) rfl rfl ?_
                          refine ldB_ C (v := .int 101) A_e1 (by decide) rfl rs_leq_24_d20 (pc' := 21) rfl ?_
                          refine icmp_eq C 26 24 rs_leq_24_d21 (by decide) rfl rfl (fun q21 => ?_) (fun q21 => ?_)
                          · skip
                            refine iinc C rs_leq_24_d26 (pc' := 29) rfl rfl (Ls' := #[.val (.ref d), .val (.ref e1), .val (.int 13)]) rfl ?_
                            refine goto_ C rs_leq_24_d29 (by decide) (pc' := 9) rfl ?_
                            refine iloadN C rs_leq_24_d9 (pc' := 10) rfl rfl ?_
                            refine aloadN C rs_leq_24_d10 (pc' := 11) rfl rfl rfl ?_
                            refine alen_ C A_d rs_leq_24_d11 (pc' := 12) rfl ?_
                            refine icmp_ge C 32 15 rs_leq_24_d12 (by decide) rfl rfl (fun q12 => ?_) (fun q12 => ?_)
                            · exact absurd q12 (by decide)
                            refine aloadN C rs_leq_24_d15 (pc' := 16) rfl rfl rfl ?_
                            refine iloadN C rs_leq_24_d16 (pc' := 17) rfl rfl ?_
                            refine ldB_ C (v := .int 114) A_d (by decide) rfl rs_leq_24_d17 (pc' := 18) rfl ?_
                            refine aloadN C rs_leq_24_d18 (pc' := 19) rfl rfl rfl ?_
                            refine iloadN C rs_leq_24_d19 (pc' := 20) rfl rfl ?_
                            refine ldB_ C (v := .int 114) A_e1 (by decide) rfl rs_leq_24_d20 (pc' := 21) rfl ?_
                            refine icmp_eq C 26 24 rs_leq_24_d21 (by decide) rfl rfl (fun q21 => ?_) (fun q21 => ?_)
                            · skip
                              refine iinc C rs_leq_24_d26 (pc' := 29) rfl rfl (Ls' := #[.val (.ref d), .val (.ref e1), .val (.int 14)]) rfl ?_
                              refine goto_ C rs_leq_24_d29 (by decide) (pc' := 9) rfl ?_
                              refine iloadN C rs_leq_24_d9 (pc' := 10) rfl rfl ?_
                              refine aloadN C rs_leq_24_d10 (pc' := 11) rfl rfl rfl ?_
                              refine alen_ C A_d rs_leq_24_d11 (pc' := 12) rfl ?_
                              refine icmp_ge C 32 15 rs_leq_24_d12 (by decide) rfl rfl (fun q12 => ?_) (fun q12 => ?_)
                              · exact absurd q12 (by decide)
                              refine aloadN C rs_leq_24_d15 (pc' := 16) rfl rfl rfl ?_
                              refine iloadN C rs_leq_24_d16 (pc' := 17) rfl rfl ?_
                              refine ldB_ C (v := .int 32) A_d (by decide) rfl rs_leq_24_d17 (pc' := 18) rfl ?_
                              refine aloadN C rs_leq_24_d18 (pc' := 19) rfl rfl rfl ?_
                              refine iloadN C rs_leq_24_d19 (pc' := 20) rfl rfl ?_
                              refine ldB_ C (v := .int 32) A_e1 (by decide) rfl rs_leq_24_d20 (pc' := 21) rfl ?_
                              refine icmp_eq C 26 24 rs_leq_24_d21 (by decide) rfl rfl (fun q21 => ?_) (fun q21 => ?_)
                              · skip
                                refine iinc C rs_leq_24_d26 (pc' := 29) rfl rfl (Ls' := #[.val (.ref d), .val (.ref e1), .val (.int 15)]) rfl ?_
                                refine goto_ C rs_leq_24_d29 (by decide) (pc' := 9) rfl ?_
                                refine iloadN C rs_leq_24_d9 (pc' := 10) rfl rfl ?_
                                refine aloadN C rs_leq_24_d10 (pc' := 11) rfl rfl rfl ?_
                                refine alen_ C A_d rs_leq_24_d11 (pc' := 12) rfl ?_
                                refine icmp_ge C 32 15 rs_leq_24_d12 (by decide) rfl rfl (fun q12 => ?_) (fun q12 => ?_)
                                · exact absurd q12 (by decide)
                                refine aloadN C rs_leq_24_d15 (pc' := 16) rfl rfl rfl ?_
                                refine iloadN C rs_leq_24_d16 (pc' := 17) rfl rfl ?_
                                refine ldB_ C (v := .int 111) A_d (by decide) rfl rs_leq_24_d17 (pc' := 18) rfl ?_
                                refine aloadN C rs_leq_24_d18 (pc' := 19) rfl rfl rfl ?_
                                refine iloadN C rs_leq_24_d19 (pc' := 20) rfl rfl ?_
                                refine ldB_ C (v := .int 111) A_e1 (by decide) rfl rs_leq_24_d20 (pc' := 21) rfl ?_
                                refine icmp_eq C 26 24 rs_leq_24_d21 (by decide) rfl rfl (fun q21 => ?_) (fun q21 => ?_)
                                · skip
                                  refine iinc C rs_leq_24_d26 (pc' := 29) rfl rfl (Ls' := #[.val (.ref d), .val (.ref e1), .val (.int 16)]) rfl ?_
                                  refine goto_ C rs_leq_24_d29 (by decide) (pc' := 9) rfl ?_
                                  refine iloadN C rs_leq_24_d9 (pc' := 10) rfl rfl ?_
                                  refine aloadN C rs_leq_24_d10 (pc' := 11) rfl rfl rfl ?_
                                  refine alen_ C A_d rs_leq_24_d11 (pc' := 12) rfl ?_
                                  refine icmp_ge C 32 15 rs_leq_24_d12 (by decide) rfl rfl (fun q12 => ?_) (fun q12 => ?_)
                                  · exact absurd q12 (by decide)
                                  refine aloadN C rs_leq_24_d15 (pc' := 16) rfl rfl rfl ?_
                                  refine iloadN C rs_leq_24_d16 (pc' := 17) rfl rfl ?_
                                  refine ldB_ C (v := .int 102) A_d (by decide) rfl rs_leq_24_d17 (pc' := 18) rfl ?_
                                  refine aloadN C rs_leq_24_d18 (pc' := 19) rfl rfl rfl ?_
                                  refine iloadN C rs_leq_24_d19 (pc' := 20) rfl rfl ?_
                                  refine ldB_ C (v := .int 102) A_e1 (by decide) rfl rs_leq_24_d20 (pc' := 21) rfl ?_
                                  refine icmp_eq C 26 24 rs_leq_24_d21 (by decide) rfl rfl (fun q21 => ?_) (fun q21 => ?_)
                                  · skip
                                    refine iinc C rs_leq_24_d26 (pc' := 29) rfl rfl (Ls' := #[.val (.ref d), .val (.ref e1), .val (.int 17)]) rfl ?_
                                    refine goto_ C rs_leq_24_d29 (by decide) (pc' := 9) rfl ?_
                                    refine iloadN C rs_leq_24_d9 (pc' := 10) rfl rfl ?_
                                    refine aloadN C rs_leq_24_d10 (pc' := 11) rfl rfl rfl ?_
                                    refine alen_ C A_d rs_leq_24_d11 (pc' := 12) rfl ?_
                                    refine icmp_ge C 32 15 rs_leq_24_d12 (by decide) rfl rfl (fun q12 => ?_) (fun q12 => ?_)
                                    · exact absurd q12 (by decide)
                                    refine aloadN C rs_leq_24_d15 (pc' := 16) rfl rfl rfl ?_
                                    refine iloadN C rs_leq_24_d16 (pc' := 17) rfl rfl ?_
                                    refine ldB_ C (v := .int 32) A_d (by decide) rfl rs_leq_24_d17 (pc' := 18) rfl ?_
                                    refine aloadN C rs_leq_24_d18 (pc' := 19) rfl rfl rfl ?_
                                    refine iloadN C rs_leq_24_d19 (pc' := 20) rfl rfl ?_
                                    refine ldB_ C (v := .int 32) A_e1 (by decide) rfl rs_leq_24_d20 (pc' := 21) rfl ?_
                                    refine icmp_eq C 26 24 rs_leq_24_d21 (by decide) rfl rfl (fun q21 => ?_) (fun q21 => ?_)
                                    · skip
                                      refine iinc C rs_leq_24_d26 (pc' := 29) rfl rfl (Ls' := #[.val (.ref d), .val (.ref e1), .val (.int 18)]) rfl ?_
                                      refine goto_ C rs_leq_24_d29 (by decide) (pc' := 9) rfl ?_
                                      refine iloadN C rs_leq_24_d9 (pc' := 10) rfl rfl ?_
                                      refine aloadN C rs_leq_24_d10 (pc' := 11) rfl rfl rfl ?_
                                      refine alen_ C A_d rs_leq_24_d11 (pc' := 12) rfl ?_
                                      refine icmp_ge C 32 15 rs_leq_24_d12 (by decide) rfl rfl (fun q12 => ?_) (fun q12 => ?_)
                                      · exact absurd q12 (by decide)
                                      refine aloadN C rs_leq_24_d15 (pc' := 16) rfl rfl rfl ?_
                                      refine iloadN C rs_leq_24_d16 (pc' := 17) rfl rfl ?_
                                      refine ldB_ C (v := .int 115) A_d (by decide) rfl rs_leq_24_d17 (pc' := 18) rfl ?_
                                      refine aloadN C rs_leq_24_d18 (pc' := 19) rfl rfl rfl ?_
                                      refine iloadN C rs_leq_24_d19 (pc' := 20) rfl rfl ?_
                                      refine ldB_ C (v := .int 115) A_e1 (by decide) rfl rs_leq_24_d20 (pc' := 21) rfl ?_
                                      refine icmp_eq C 26 24 rs_leq_24_d21 (by decide) rfl rfl (fun q21 => ?_) (fun q21 => ?_)
                                      · skip
                                        refine iinc C rs_leq_24_d26 (pc' := 29) rfl rfl (Ls' := #[.val (.ref d), .val (.ref e1), .val (.int 19)]) rfl ?_
                                        refine goto_ C rs_leq_24_d29 (by decide) (pc' := 9) rfl ?_
                                        refine iloadN C rs_leq_24_d9 (pc' := 10) rfl rfl ?_
                                        refine aloadN C rs_leq_24_d10 (pc' := 11) rfl rfl rfl ?_
                                        refine alen_ C A_d rs_leq_24_d11 (pc' := 12) rfl ?_
                                        refine icmp_ge C 32 15 rs_leq_24_d12 (by decide) rfl rfl (fun q12 => ?_) (fun q12 => ?_)
                                        · exact absurd q12 (by decide)
                                        refine aloadN C rs_leq_24_d15 (pc' := 16) rfl rfl rfl ?_
                                        refine iloadN C rs_leq_24_d16 (pc' := 17) rfl rfl ?_
                                        refine ldB_ C (v := .int 104) A_d (by decide) rfl rs_leq_24_d17 (pc' := 18) rfl ?_
                                        refine aloadN C rs_leq_24_d18 (pc' := 19) rfl rfl rfl ?_
                                        refine iloadN C rs_leq_24_d19 (pc' := 20) rfl rfl ?_
                                        refine ldB_ C (v := .int 104) A_e1 (by decide) rfl rs_leq_24_d20 (pc' := 21) rfl ?_
                                        refine icmp_eq C 26 24 rs_leq_24_d21 (by decide) rfl rfl (fun q21 => ?_) (fun q21 => ?_)
                                        · skip
                                          refine iinc C rs_leq_24_d26 (pc' := 29) rfl rfl (Ls' := #[.val (.ref d), .val (.ref e1), .val (.int 20)]) rfl ?_
                                          refine goto_ C rs_leq_24_d29 (by decide) (pc' := 9) rfl ?_
                                          refine iloadN C rs_leq_24_d9 (pc' := 10) rfl rfl ?_
                                          refine aloadN C rs_leq_24_d10 (pc' := 11) rfl rfl rfl ?_
                                          refine alen_ C A_d rs_leq_24_d11 (pc' := 12) rfl ?_
                                          refine icmp_ge C 32 15 rs_leq_24_d12 (by decide) rfl rfl (fun q12 => ?_) (fun q12 => ?_)
                                          · exact absurd q12 (by decide)
                                          refine aloadN C rs_leq_24_d15 (pc' := 16) rfl rfl rfl ?_
                                          refine iloadN C rs_leq_24_d16 (pc' := 17) rfl rfl ?_
                                          refine ldB_ C (v := .int 97) A_d (by decide) rfl rs_leq_24_d17 (pc' := 18) rfl ?_
                                          refine aloadN C rs_leq_24_d18 (pc' := 19) rfl rfl rfl ?_
                                          refine iloadN C rs_leq_24_d19 (pc' := 20) rfl rfl ?_
                                          refine ldB_ C (v := .int 97) A_e1 (by decide) rfl rs_leq_24_d20 (pc' := 21) rfl ?_
                                          refine icmp_eq C 26 24 rs_leq_24_d21 (by decide) rfl rfl (fun q21 => ?_) (fun q21 => ?_)
                                          · skip
                                            refine iinc C rs_leq_24_d26 (pc' := 29) rfl rfl (Ls' := #[.val (.ref d), .val (.ref e1), .val (.int 21)]) rfl ?_
                                            refine goto_ C rs_leq_24_d29 (by decide) (pc' := 9) rfl ?_
                                            refine iloadN C rs_leq_24_d9 (pc' := 10) rfl rfl ?_
                                            refine aloadN C rs_leq_24_d10 (pc' := 11) rfl rfl rfl ?_
                                            refine alen_ C A_d rs_leq_24_d11 (pc' := 12) rfl ?_
                                            refine icmp_ge C 32 15 rs_leq_24_d12 (by decide) rfl rfl (fun q12 => ?_) (fun q12 => ?_)
                                            · exact absurd q12 (by decide)
                                            refine aloadN C rs_leq_24_d15 (pc' := 16) rfl rfl rfl ?_
                                            refine iloadN C rs_leq_24_d16 (pc' := 17) rfl rfl ?_
                                            refine ldB_ C (v := .int 114) A_d (by decide) rfl rs_leq_24_d17 (pc' := 18) rfl ?_
                                            refine aloadN C rs_leq_24_d18 (pc' := 19) rfl rfl rfl ?_
                                            refine iloadN C rs_leq_24_d19 (pc' := 20) rfl rfl ?_
                                            refine ldB_ C (v := .int 114) A_e1 (by decide) rfl rs_leq_24_d20 (pc' := 21) rfl ?_
                                            refine icmp_eq C 26 24 rs_leq_24_d21 (by decide) rfl rfl (fun q21 => ?_) (fun q21 => ?_)
                                            · skip
                                              refine iinc C rs_leq_24_d26 (pc' := 29) rfl rfl (Ls' := #[.val (.ref d), .val (.ref e1), .val (.int 22)]) rfl ?_
                                              refine goto_ C rs_leq_24_d29 (by decide) (pc' := 9) rfl ?_
                                              refine iloadN C rs_leq_24_d9 (pc' := 10) rfl rfl ?_
                                              refine aloadN C rs_leq_24_d10 (pc' := 11) rfl rfl rfl ?_
                                              refine alen_ C A_d rs_leq_24_d11 (pc' := 12) rfl ?_
                                              refine icmp_ge C 32 15 rs_leq_24_d12 (by decide) rfl rfl (fun q12 => ?_) (fun q12 => ?_)
                                              · exact absurd q12 (by decide)
                                              refine aloadN C rs_leq_24_d15 (pc' := 16) rfl rfl rfl ?_
                                              refine iloadN C rs_leq_24_d16 (pc' := 17) rfl rfl ?_
                                              refine ldB_ C (v := .int 101) A_d (by decide) rfl rs_leq_24_d17 (pc' := 18) rfl ?_
                                              refine aloadN C rs_leq_24_d18 (pc' := 19) rfl rfl rfl ?_
                                              refine iloadN C rs_leq_24_d19 (pc' := 20) rfl rfl ?_
                                              refine ldB_ C (v := .int 101) A_e1 (by decide) rfl rs_leq_24_d20 (pc' := 21) rfl ?_
                                              refine icmp_eq C 26 24 rs_leq_24_d21 (by decide) rfl rfl (fun q21 => ?_) (fun q21 => ?_)
                                              · skip
                                                refine iinc C rs_leq_24_d26 (pc' := 29) rfl rfl (Ls' := #[.val (.ref d), .val (.ref e1), .val (.int 23)]) rfl ?_
                                                refine goto_ C rs_leq_24_d29 (by decide) (pc' := 9) rfl ?_
                                                refine iloadN C rs_leq_24_d9 (pc' := 10) rfl rfl ?_
                                                refine aloadN C rs_leq_24_d10 (pc' := 11) rfl rfl rfl ?_
                                                refine alen_ C A_d rs_leq_24_d11 (pc' := 12) rfl ?_
                                                refine icmp_ge C 32 15 rs_leq_24_d12 (by decide) rfl rfl (fun q12 => ?_) (fun q12 => ?_)
                                                · exact absurd q12 (by decide)
                                                refine aloadN C rs_leq_24_d15 (pc' := 16) rfl rfl rfl ?_
                                                refine iloadN C rs_leq_24_d16 (pc' := 17) rfl rfl ?_
                                                refine ldB_ C (v := .int 115) A_d (by decide) rfl rs_leq_24_d17 (pc' := 18) rfl ?_
                                                refine aloadN C rs_leq_24_d18 (pc' := 19) rfl rfl rfl ?_
                                                refine iloadN C rs_leq_24_d19 (pc' := 20) rfl rfl ?_
                                                refine ldB_ C (v := .int 115) A_e1 (by decide) rfl rs_leq_24_d20 (pc' := 21) rfl ?_
                                                refine icmp_eq C 26 24 rs_leq_24_d21 (by decide) rfl rfl (fun q21 => ?_) (fun q21 => ?_)
                                                · skip
                                                  refine iinc C rs_leq_24_d26 (pc' := 29) rfl rfl (Ls' := #[.val (.ref d), .val (.ref e1), .val (.int 24)]) rfl ?_
                                                  refine goto_ C rs_leq_24_d29 (by decide) (pc' := 9) rfl ?_
                                                  refine iloadN C rs_leq_24_d9 (pc' := 10) rfl rfl ?_
                                                  refine aloadN C rs_leq_24_d10 (pc' := 11) rfl rfl rfl ?_
                                                  refine alen_ C A_d rs_leq_24_d11 (pc' := 12) rfl ?_
                                                  refine icmp_ge C 32 15 rs_leq_24_d12 (by decide) rfl rfl (fun q12 => ?_) (fun q12 => ?_)
                                                  · skip
                                                    refine iconst C rs_leq_24_d32 (pc' := 33) rfl (v := 1) rfl ?_
                                                    exact ret_Z C rs_leq_24_d33 rfl (by decide) (by decide) (by decide) ⟨rfl, rfl, rfl⟩
                                                  · exact absurd q12 (by decide)
                                                · exact absurd q21 (by decide)
                                              · exact absurd q21 (by decide)
                                            · exact absurd q21 (by decide)
                                          · exact absurd q21 (by decide)
                                        · exact absurd q21 (by decide)
                                      · exact absurd q21 (by decide)
                                    · exact absurd q21 (by decide)
                                  · exact absurd q21 (by decide)
                                · exact absurd q21 (by decide)
                              · exact absurd q21 (by decide)
                            · exact absurd q21 (by decide)
                          · exact absurd q21 (by decide)
                        · exact absurd q21 (by decide)
                      · exact absurd q21 (by decide)
                    · exact absurd q21 (by decide)
                  · exact absurd q21 (by decide)
                · exact absurd q21 (by decide)
              · exact absurd q21 (by decide)
            · exact absurd q21 (by decide)
          · exact absurd q21 (by decide)
        · exact absurd q21 (by decide)
      · exact absurd q21 (by decide)
    · exact absurd q21 (by decide)
  · exact absurd q21 (by decide)
theorem pd_19 : parseMethodDescriptor "([B[B)Z" = some ⟨[(.array .byte), (.array .byte)], some .boolean⟩ := by decide +kernel
theorem rs_equals_24_d0 : decode jdk_42_method_66_code 0 = .ok (.aload_n 0, 1) := by decide +kernel
theorem rs_equals_24_d1 : decode jdk_42_method_66_code 1 = .ok (.aload_n 1, 1) := by decide +kernel
theorem rs_equals_24_d2 : decode jdk_42_method_66_code 2 = .ok (.if_acmp .ne 5, 3) := by decide +kernel
theorem rs_equals_24_d5 : decode jdk_42_method_66_code 5 = .ok (.iconst 1, 1) := by decide +kernel
theorem rs_equals_24_d6 : decode jdk_42_method_66_code 6 = .ok (.ireturn, 1) := by decide +kernel
theorem rs_equals_24_d7 : decode jdk_42_method_66_code 7 = .ok (.aload_n 1, 1) := by decide +kernel
theorem rs_equals_24_d8 : decode jdk_42_method_66_code 8 = .ok (.instanceof 10, 3) := by decide +kernel
theorem rs_equals_24_d11 : decode jdk_42_method_66_code 11 = .ok (.ifCond .eq 43, 3) := by decide +kernel
theorem rs_equals_24_d14 : decode jdk_42_method_66_code 14 = .ok (.aload_n 1, 1) := by decide +kernel
theorem rs_equals_24_d15 : decode jdk_42_method_66_code 15 = .ok (.checkcast 10, 3) := by decide +kernel
theorem rs_equals_24_d18 : decode jdk_42_method_66_code 18 = .ok (.astore_n 2, 1) := by decide +kernel
theorem rs_equals_24_d19 : decode jdk_42_method_66_code 19 = .ok (.getstatic 38, 3) := by decide +kernel
theorem rs_equals_24_d22 : decode jdk_42_method_66_code 22 = .ok (.ifCond .eq 14, 3) := by decide +kernel
theorem rs_equals_24_d25 : decode jdk_42_method_66_code 25 = .ok (.aload_n 0, 1) := by decide +kernel
theorem rs_equals_24_d26 : decode jdk_42_method_66_code 26 = .ok (.getfield 15, 3) := by decide +kernel
theorem rs_equals_24_d29 : decode jdk_42_method_66_code 29 = .ok (.aload_n 2, 1) := by decide +kernel
theorem rs_equals_24_d30 : decode jdk_42_method_66_code 30 = .ok (.getfield 15, 3) := by decide +kernel
theorem rs_equals_24_d33 : decode jdk_42_method_66_code 33 = .ok (.if_icmp .ne 21, 3) := by decide +kernel
theorem rs_equals_24_d36 : decode jdk_42_method_66_code 36 = .ok (.aload_n 0, 1) := by decide +kernel
theorem rs_equals_24_d37 : decode jdk_42_method_66_code 37 = .ok (.getfield 9, 3) := by decide +kernel
theorem rs_equals_24_d40 : decode jdk_42_method_66_code 40 = .ok (.aload_n 2, 1) := by decide +kernel
theorem rs_equals_24_d41 : decode jdk_42_method_66_code 41 = .ok (.getfield 9, 3) := by decide +kernel
theorem rs_equals_24_d44 : decode jdk_42_method_66_code 44 = .ok (.invokestatic 541, 3) := by decide +kernel
theorem rs_equals_24_d47 : decode jdk_42_method_66_code 47 = .ok (.ifCond .eq 7, 3) := by decide +kernel
theorem rs_equals_24_d50 : decode jdk_42_method_66_code 50 = .ok (.iconst 1, 1) := by decide +kernel
theorem rs_equals_24_d51 : decode jdk_42_method_66_code 51 = .ok (.goto 4, 3) := by decide +kernel
theorem rs_equals_24_d55 : decode jdk_42_method_66_code 55 = .ok (.ireturn, 1) := by decide +kernel
set_option maxRecDepth 65536 in
set_option maxHeartbeats 40000000 in
theorem rs_equals_24 (l : Launch) (Z : State) (a0 : Array Value) (hw : ∀ d ∈ tables_1, d.before a0 Z = true) (cs : Int32) (Sc : Sta Z Z.heap "java/lang/String" "COMPACT_STRINGS" "Z" (.int cs)) (hcs : ¬ cs = 0) (a : Addr) (b : Addr) (d : Addr) (k_d : ClassId) (e1 : Addr) (k_e1 : ClassId) (h0 : Heap) (O : Old Z Z.heap.size h0) (X_a : Exa Z h0 a "java/lang/String") (F_a_value : Fld Z h0 a "java/lang/String" "value" "[B" (.ref d)) (F_a_coder : Fld Z h0 a "java/lang/String" "coder" "B" (.int 0)) (X_b : Exa Z h0 b "java/lang/String") (F_b_value : Fld Z h0 b "java/lang/String" "value" "[B" (.ref e1)) (F_b_coder : Fld Z h0 b "java/lang/String" "coder" "B" (.int 0)) (A_d : Arv Z h0 d k_d .byte 24 V14 (.int 0)) (A_e1 : Arv Z h0 e1 k_e1 .byte 24 V14 (.int 0)) :
    Met0 l Z (⟨"java/lang/String", "equals", "(Ljava/lang/Object;)Z"⟩ : MethodName) [] jdk_42_method_66_code 3 (some .boolean) ({ frames := 1, cells := 0, slots := 0, locals := 14 } : Room) #[(.ref a), (.ref b)] h0 (fun v h L => v = some (.int 1) ∧ h0 = h ∧ L = []) := by
  have N := Fr.nil Z.heap.size
  have P := Keep.refl h0 []
  refine Met0.of_walk (plainFor_of_name pn_java_lang_String) (Ls := #[.val (.ref a), .val (.ref b), .unset]) (fun m => by first | rfl | (simp [entryFrame, mkF, argsToLocals, Value.category]; done)) ?_
  intro p e s m below meth c C
  refine aloadN C rs_equals_24_d0 (pc' := 1) rfl rfl rfl ?_
  refine aloadN C rs_equals_24_d1 (pc' := 2) rfl rfl rfl ?_
  refine acmp_ne C 7 5 rs_equals_24_d2 (by decide) rfl rfl (fun q2 => ?_) (fun q2 => ?_)
  · skip
    refine aloadN C rs_equals_24_d7 (pc' := 8) rfl rfl rfl ?_
    refine instY_ C (hw _ (List.mem_of_getElem? (i := 187) rfl)) (Ins.self X_b) rs_equals_24_d8 (pc' := 11) rfl ?_
    refine if_eq C 54 14 rs_equals_24_d11 (by decide) rfl rfl (fun q11 => ?_) (fun q11 => ?_)
    · exact absurd q11 (by decide)
    refine aloadN C rs_equals_24_d14 (pc' := 15) rfl rfl rfl ?_
    refine castY_ C (hw _ (List.mem_of_getElem? (i := 187) rfl)) (Ins.self X_b) rs_equals_24_d15 (pc' := 18) rfl ?_
    refine astoreN C rs_equals_24_d18 (pc' := 19) rfl rfl (Ls' := #[.val (.ref a), .val (.ref b), .val (.ref b)]) rfl ?_
    refine getS_ C (hw _ (List.mem_of_getElem? (i := 73) rfl)) (Sc.ext O.2) rs_equals_24_d19 (pc' := 22) rfl ?_
    refine if_eq C 36 25 rs_equals_24_d22 (by decide) rfl rfl (fun q22 => ?_) (fun q22 => ?_)
    · exact absurd q22 hcs
    refine aloadN C rs_equals_24_d25 (pc' := 26) rfl rfl rfl ?_
    refine getF_ C (hw _ (List.mem_of_getElem? (i := 74) rfl)) Via.refl F_a_coder rs_equals_24_d26 (pc' := 29) rfl ?_
    refine aloadN C rs_equals_24_d29 (pc' := 30) rfl rfl rfl ?_
    refine getF_ C (hw _ (List.mem_of_getElem? (i := 74) rfl)) Via.refl F_b_coder rs_equals_24_d30 (pc' := 33) rfl ?_
    refine icmp_ne C 54 36 rs_equals_24_d33 (by decide) rfl rfl (fun q33 => ?_) (fun q33 => ?_)
    · exact absurd q33 (by decide)
    refine aloadN C rs_equals_24_d36 (pc' := 37) rfl rfl rfl ?_
    refine getF_ C (hw _ (List.mem_of_getElem? (i := 67) rfl)) Via.refl F_a_value rs_equals_24_d37 (pc' := 40) rfl ?_
    refine aloadN C rs_equals_24_d40 (pc' := 41) rfl rfl rfl ?_
    refine getF_ C (hw _ (List.mem_of_getElem? (i := 67) rfl)) Via.refl F_b_value rs_equals_24_d41 (pc' := 44) rfl ?_
    refine callS_ C (y := (⟨"java/lang/StringLatin1", "equals", "([B[B)Z"⟩ : MethodName)) (hw _ (List.mem_of_getElem? (i := 188) rfl)) (hw _ (List.mem_of_getElem? (i := 189) rfl)) (hw _ (List.mem_of_getElem? (i := 190) rfl)) (hw _ (List.mem_of_getElem? (i := 191) rfl)) (by decide) pd_19 [(.ref d), (.ref e1)] [] rfl rfl (W := 0) rfl (by decide) (by decide) (by decide) (by decide) (rs_leq_24 l Z a0 hw cs Sc hcs d k_d e1 k_e1 h0 O A_d A_e1) rfl rs_equals_24_d44 (pc' := 47) rfl ?_
    rintro _ _ _ ⟨rfl, rfl, rfl⟩
    show Wk p l e _ _ m _ below meth c _ _ _ _ _ _ (mkF m 47 #[.val (.ref a), .val (.ref b), .val (.ref b)] [(.int 1)])
    rw [List.append_nil]
    refine if_eq C 54 50 rs_equals_24_d47 (by decide) rfl rfl (fun q47 => ?_) (fun q47 => ?_)
    · exact absurd q47 (by decide)
    refine iconst C rs_equals_24_d50 (pc' := 51) rfl (v := 1) rfl ?_
    refine goto_ C rs_equals_24_d51 (by decide) (pc' := 55) rfl ?_
    exact ret_Z C rs_equals_24_d55 rfl (by decide) (by decide) (by decide) ⟨rfl, rfl, rfl⟩
  · skip
    refine iconst C rs_equals_24_d5 (pc' := 6) rfl (v := 1) rfl ?_
    exact ret_Z C rs_equals_24_d6 rfl (by decide) (by decide) (by decide) ⟨rfl, rfl, rfl⟩
theorem rs_leq_47_d0 : decode jdk_43_method_13_code 0 = .ok (.aload_n 0, 1) := by decide +kernel
theorem rs_leq_47_d1 : decode jdk_43_method_13_code 1 = .ok (.arraylength, 1) := by decide +kernel
theorem rs_leq_47_d2 : decode jdk_43_method_13_code 2 = .ok (.aload_n 1, 1) := by decide +kernel
theorem rs_leq_47_d3 : decode jdk_43_method_13_code 3 = .ok (.arraylength, 1) := by decide +kernel
theorem rs_leq_47_d4 : decode jdk_43_method_13_code 4 = .ok (.if_icmp .ne 30, 3) := by decide +kernel
theorem rs_leq_47_d7 : decode jdk_43_method_13_code 7 = .ok (.iconst 0, 1) := by decide +kernel
theorem rs_leq_47_d8 : decode jdk_43_method_13_code 8 = .ok (.istore_n 2, 1) := by decide +kernel
theorem rs_leq_47_d9 : decode jdk_43_method_13_code 9 = .ok (.iload_n 2, 1) := by decide +kernel
theorem rs_leq_47_d10 : decode jdk_43_method_13_code 10 = .ok (.aload_n 0, 1) := by decide +kernel
theorem rs_leq_47_d11 : decode jdk_43_method_13_code 11 = .ok (.arraylength, 1) := by decide +kernel
theorem rs_leq_47_d12 : decode jdk_43_method_13_code 12 = .ok (.if_icmp .ge 20, 3) := by decide +kernel
theorem rs_leq_47_d15 : decode jdk_43_method_13_code 15 = .ok (.aload_n 0, 1) := by decide +kernel
theorem rs_leq_47_d16 : decode jdk_43_method_13_code 16 = .ok (.iload_n 2, 1) := by decide +kernel
theorem rs_leq_47_d17 : decode jdk_43_method_13_code 17 = .ok (.baload, 1) := by decide +kernel
theorem rs_leq_47_d18 : decode jdk_43_method_13_code 18 = .ok (.aload_n 1, 1) := by decide +kernel
theorem rs_leq_47_d19 : decode jdk_43_method_13_code 19 = .ok (.iload_n 2, 1) := by decide +kernel
theorem rs_leq_47_d20 : decode jdk_43_method_13_code 20 = .ok (.baload, 1) := by decide +kernel
theorem rs_leq_47_d21 : decode jdk_43_method_13_code 21 = .ok (.if_icmp .eq 5, 3) := by decide +kernel
theorem rs_leq_47_d26 : decode jdk_43_method_13_code 26 = .ok (.iinc 2 1, 3) := by decide +kernel
theorem rs_leq_47_d29 : decode jdk_43_method_13_code 29 = .ok (.goto (-20), 3) := by decide +kernel
theorem rs_leq_47_d32 : decode jdk_43_method_13_code 32 = .ok (.iconst 1, 1) := by decide +kernel
theorem rs_leq_47_d33 : decode jdk_43_method_13_code 33 = .ok (.ireturn, 1) := by decide +kernel
set_option maxRecDepth 65536 in
set_option maxHeartbeats 40000000 in
theorem rs_leq_47 (l : Launch) (Z : State) (a0 : Array Value) (hw : ∀ d ∈ tables_1, d.before a0 Z = true) (cs : Int32) (Sc : Sta Z Z.heap "java/lang/String" "COMPACT_STRINGS" "Z" (.int cs)) (hcs : ¬ cs = 0) (d : Addr) (k_d : ClassId) (e1 : Addr) (k_e1 : ClassId) (h0 : Heap) (O : Old Z Z.heap.size h0) (A_d : Arv Z h0 d k_d .byte 47 V12 (.int 0)) (A_e1 : Arv Z h0 e1 k_e1 .byte 47 V12 (.int 0)) :
    Met0 l Z (⟨"java/lang/StringLatin1", "equals", "([B[B)Z"⟩ : MethodName) [] jdk_43_method_13_code 3 (some .boolean) ({ frames := 0, cells := 0, slots := 0, locals := 0 } : Room) #[(.ref d), (.ref e1)] h0 (fun v h L => v = some (.int 1) ∧ h0 = h ∧ L = []) := by
  have N := Fr.nil Z.heap.size
  have P := Keep.refl h0 []
  refine Met0.of_walk (plainFor_of_name pn_java_lang_StringLatin1) (Ls := #[.val (.ref d), .val (.ref e1), .unset]) (fun m => by first | rfl | (simp [entryFrame, mkF, argsToLocals, Value.category]; done)) ?_
  intro p e s m below meth c C
  refine aloadN C rs_leq_47_d0 (pc' := 1) rfl rfl rfl ?_
  refine alen_ C A_d rs_leq_47_d1 (pc' := 2) rfl ?_
  refine aloadN C rs_leq_47_d2 (pc' := 3) rfl rfl rfl ?_
  refine alen_ C A_e1 rs_leq_47_d3 (pc' := 4) rfl ?_
  refine icmp_ne C 34 7 rs_leq_47_d4 (by decide) rfl rfl (fun q4 => ?_) (fun q4 => ?_)
  · exact absurd q4 (by decide)
  refine iconst C rs_leq_47_d7 (pc' := 8) rfl (v := 0) rfl ?_
  refine istoreN C rs_leq_47_d8 (pc' := 9) rfl (Ls' := #[.val (.ref d), .val (.ref e1), .val (.int 0)]) rfl ?_
  refine iloadN C rs_leq_47_d9 (pc' := 10) rfl rfl ?_
  refine aloadN C rs_leq_47_d10 (pc' := 11) rfl rfl rfl ?_
  refine alen_ C A_d rs_leq_47_d11 (pc' := 12) rfl ?_
  refine icmp_ge C 32 15 rs_leq_47_d12 (by decide) rfl rfl (fun q12 => ?_) (fun q12 => ?_)
  · exact absurd q12 (by decide)
  refine aloadN C rs_leq_47_d15 (pc' := 16) rfl rfl rfl ?_
  refine iloadN C rs_leq_47_d16 (pc' := 17) rfl rfl ?_
  refine ldB_ C (v := .int 97) A_d (by decide) rfl rs_leq_47_d17 (pc' := 18) rfl ?_
  refine aloadN C rs_leq_47_d18 (pc' := 19) rfl rfl rfl ?_
  refine iloadN C rs_leq_47_d19 (pc' := 20) rfl rfl ?_
  refine ldB_ C (v := .int 97) A_e1 (by decide) rfl rs_leq_47_d20 (pc' := 21) rfl ?_
  refine icmp_eq C 26 24 rs_leq_47_d21 (by decide) rfl rfl (fun q21 => ?_) (fun q21 => ?_)
  · skip
    refine iinc C rs_leq_47_d26 (pc' := 29) rfl rfl (Ls' := #[.val (.ref d), .val (.ref e1), .val (.int 1)]) rfl ?_
    refine goto_ C rs_leq_47_d29 (by decide) (pc' := 9) rfl ?_
    refine iloadN C rs_leq_47_d9 (pc' := 10) rfl rfl ?_
    refine aloadN C rs_leq_47_d10 (pc' := 11) rfl rfl rfl ?_
    refine alen_ C A_d rs_leq_47_d11 (pc' := 12) rfl ?_
    refine icmp_ge C 32 15 rs_leq_47_d12 (by decide) rfl rfl (fun q12 => ?_) (fun q12 => ?_)
    · exact absurd q12 (by decide)
    refine aloadN C rs_leq_47_d15 (pc' := 16) rfl rfl rfl ?_
    refine iloadN C rs_leq_47_d16 (pc' := 17) rfl rfl ?_
    refine ldB_ C (v := .int 32) A_d (by decide) rfl rs_leq_47_d17 (pc' := 18) rfl ?_
    refine aloadN C rs_leq_47_d18 (pc' := 19) rfl rfl rfl ?_
    refine iloadN C rs_leq_47_d19 (pc' := 20) rfl rfl ?_
    refine ldB_ C (v := .int 32) A_e1 (by decide) rfl rs_leq_47_d20 (pc' := 21) rfl ?_
    refine icmp_eq C 26 24 rs_leq_47_d21 (by decide) rfl rfl (fun q21 => ?_) (fun q21 => ?_)
    · skip
      refine iinc C rs_leq_47_d26 (pc' := 29) rfl rfl (Ls' := #[.val (.ref d), .val (.ref e1), .val (.int 2)]) rfl ?_
      refine goto_ C rs_leq_47_d29 (by decide) (pc' := 9) rfl ?_
      refine iloadN C rs_leq_47_d9 (pc' := 10) rfl rfl ?_
      refine aloadN C rs_leq_47_d10 (pc' := 11) rfl rfl rfl ?_
      refine alen_ C A_d rs_leq_47_d11 (pc' := 12) rfl ?_
      refine icmp_ge C 32 15 rs_leq_47_d12 (by decide) rfl rfl (fun q12 => ?_) (fun q12 => ?_)
      · exact absurd q12 (by decide)
      refine aloadN C rs_leq_47_d15 (pc' := 16) rfl rfl rfl ?_
      refine iloadN C rs_leq_47_d16 (pc' := 17) rfl rfl ?_
      refine ldB_ C (v := .int 110) A_d (by decide) rfl rs_leq_47_d17 (pc' := 18) rfl ?_
      refine aloadN C rs_leq_47_d18 (pc' := 19) rfl rfl rfl ?_
      refine iloadN C rs_leq_47_d19 (pc' := 20) rfl rfl ?_
      refine ldB_ C (v := .int 110) A_e1 (by decide) rfl rs_leq_47_d20 (pc' := 21) rfl ?_
      refine icmp_eq C 26 24 rs_leq_47_d21 (by decide) rfl rfl (fun q21 => ?_) (fun q21 => ?_)
      · skip
        refine iinc C rs_leq_47_d26 (pc' := 29) rfl rfl (Ls' := #[.val (.ref d), .val (.ref e1), .val (.int 3)]) rfl ?_
        refine goto_ C rs_leq_47_d29 (by decide) (pc' := 9) rfl ?_
        refine iloadN C rs_leq_47_d9 (pc' := 10) rfl rfl ?_
        refine aloadN C rs_leq_47_d10 (pc' := 11) rfl rfl rfl ?_
        refine alen_ C A_d rs_leq_47_d11 (pc' := 12) rfl ?_
        refine icmp_ge C 32 15 rs_leq_47_d12 (by decide) rfl rfl (fun q12 => ?_) (fun q12 => ?_)
        · exact absurd q12 (by decide)
        refine aloadN C rs_leq_47_d15 (pc' := 16) rfl rfl rfl ?_
        refine iloadN C rs_leq_47_d16 (pc' := 17) rfl rfl ?_
        refine ldB_ C (v := .int 117) A_d (by decide) rfl rs_leq_47_d17 (pc' := 18) rfl ?_
        refine aloadN C rs_leq_47_d18 (pc' := 19) rfl rfl rfl ?_
        refine iloadN C rs_leq_47_d19 (pc' := 20) rfl rfl ?_
        refine ldB_ C (v := .int 117) A_e1 (by decide) rfl rs_leq_47_d20 (pc' := 21) rfl ?_
        refine icmp_eq C 26 24 rs_leq_47_d21 (by decide) rfl rfl (fun q21 => ?_) (fun q21 => ?_)
        · skip
          refine iinc C rs_leq_47_d26 (pc' := 29) rfl rfl (Ls' := #[.val (.ref d), .val (.ref e1), .val (.int 4)]) rfl ?_
          refine goto_ C rs_leq_47_d29 (by decide) (pc' := 9) rfl ?_
          refine iloadN C rs_leq_47_d9 (pc' := 10) rfl rfl ?_
          refine aloadN C rs_leq_47_d10 (pc' := 11) rfl rfl rfl ?_
          refine alen_ C A_d rs_leq_47_d11 (pc' := 12) rfl ?_
          refine icmp_ge C 32 15 rs_leq_47_d12 (by decide) rfl rfl (fun q12 => ?_) (fun q12 => ?_)
          · exact absurd q12 (by decide)
          refine aloadN C rs_leq_47_d15 (pc' := 16) rfl rfl rfl ?_
          refine iloadN C rs_leq_47_d16 (pc' := 17) rfl rfl ?_
          refine ldB_ C (v := .int 109) A_d (by decide) rfl rs_leq_47_d17 (pc' := 18) rfl ?_
          refine aloadN C rs_leq_47_d18 (pc' := 19) rfl rfl rfl ?_
          refine iloadN C rs_leq_47_d19 (pc' := 20) rfl rfl ?_
          refine ldB_ C (v := .int 109) A_e1 (by decide) rfl rs_leq_47_d20 (pc' := 21) rfl ?_
          refine icmp_eq C 26 24 rs_leq_47_d21 (by decide) rfl rfl (fun q21 => ?_) (fun q21 => ?_)
          · skip
            refine iinc C rs_leq_47_d26 (pc' := 29) rfl rfl (Ls' := #[.val (.ref d), .val (.ref e1), .val (.int 5)]) rfl ?_
            refine goto_ C rs_leq_47_d29 (by decide) (pc' := 9) rfl ?_
            refine iloadN C rs_leq_47_d9 (pc' := 10) rfl rfl ?_
            refine aloadN C rs_leq_47_d10 (pc' := 11) rfl rfl rfl ?_
            refine alen_ C A_d rs_leq_47_d11 (pc' := 12) rfl ?_
            refine icmp_ge C 32 15 rs_leq_47_d12 (by decide) rfl rfl (fun q12 => ?_) (fun q12 => ?_)
            · exact absurd q12 (by decide)
            refine aloadN C rs_leq_47_d15 (pc' := 16) rfl rfl rfl ?_
            refine iloadN C rs_leq_47_d16 (pc' := 17) rfl rfl ?_
            refine ldB_ C (v := .int 98) A_d (by decide) rfl rs_leq_47_d17 (pc' := 18) rfl ?_
            refine aloadN C rs_leq_47_d18 (pc' := 19) rfl rfl rfl ?_
            refine iloadN C rs_leq_47_d19 (pc' := 20) rfl rfl ?_
            refine ldB_ C (v := .int 98) A_e1 (by decide) rfl rs_leq_47_d20 (pc' := 21) rfl ?_
            refine icmp_eq C 26 24 rs_leq_47_d21 (by decide) rfl rfl (fun q21 => ?_) (fun q21 => ?_)
            · skip
              refine iinc C rs_leq_47_d26 (pc' := 29) rfl rfl (Ls' := #[.val (.ref d), .val (.ref e1), .val (.int 6)]) rfl ?_
              refine goto_ C rs_leq_47_d29 (by decide) (pc' := 9) rfl ?_
              refine iloadN C rs_leq_47_d9 (pc' := 10) rfl rfl ?_
              refine aloadN C rs_leq_47_d10 (pc' := 11) rfl rfl rfl ?_
              refine alen_ C A_d rs_leq_47_d11 (pc' := 12) rfl ?_
              refine icmp_ge C 32 15 rs_leq_47_d12 (by decide) rfl rfl (fun q12 => ?_) (fun q12 => ?_)
              · exact absurd q12 (by decide)
              refine aloadN C rs_leq_47_d15 (pc' := 16) rfl rfl rfl ?_
              refine iloadN C rs_leq_47_d16 (pc' := 17) rfl rfl ?_
              refine ldB_ C (v := .int 101) A_d (by decide) rfl rs_leq_47_d17 (pc' := 18) rfl ?_
              refine aloadN C rs_leq_47_d18 (pc' := 19) rfl rfl rfl ?_
              refine iloadN C rs_leq_47_d19 (pc' := 20) rfl rfl ?_
              refine ldB_ C (v := .int 101) A_e1 (by decide) rfl rs_leq_47_d20 (pc' := 21) rfl ?_
              refine icmp_eq C 26 24 rs_leq_47_d21 (by decide) rfl rfl (fun q21 => ?_) (fun q21 => ?_)
              · skip
                refine iinc C rs_leq_47_d26 (pc' := 29) rfl rfl (Ls' := #[.val (.ref d), .val (.ref e1), .val (.int 7)]) rfl ?_
                refine goto_ C rs_leq_47_d29 (by decide) (pc' := 9) rfl ?_
                refine iloadN C rs_leq_47_d9 (pc' := 10) rfl rfl ?_
                refine aloadN C rs_leq_47_d10 (pc' := 11) rfl rfl rfl ?_
                refine alen_ C A_d rs_leq_47_d11 (pc' := 12) rfl ?_
                refine icmp_ge C 32 15 rs_leq_47_d12 (by decide) rfl rfl (fun q12 => ?_) (fun q12 => ?_)
                · exact absurd q12 (by decide)
                refine aloadN C rs_leq_47_d15 (pc' := 16) rfl rfl rfl ?_
                refine iloadN C rs_leq_47_d16 (pc' := 17) rfl rfl ?_
                refine ldB_ C (v := .int 114) A_d (by decide) rfl rs_leq_47_d17 (pc' := 18) rfl ?_
                refine aloadN C rs_leq_47_d18 (pc' := 19) rfl rfl rfl ?_
                refine iloadN C rs_leq_47_d19 (pc' := 20) rfl rfl ?_
                refine ldB_ C (v := .int 114) A_e1 (by decide) rfl rs_leq_47_d20 (pc' := 21) rfl ?_
                refine icmp_eq C 26 24 rs_leq_47_d21 (by decide) rfl rfl (fun q21 => ?_) (fun q21 => ?_)
                · skip
                  refine iinc C rs_leq_47_d26 (pc' := 29) rfl rfl (Ls' := #[.val (.ref d), .val (.ref e1), .val (.int 8)]) rfl ?_
                  refine goto_ C rs_leq_47_d29 (by decide) (pc' := 9) rfl ?_
                  refine iloadN C rs_leq_47_d9 (pc' := 10) rfl rfl ?_
                  refine aloadN C rs_leq_47_d10 (pc' := 11) rfl rfl rfl ?_
                  refine alen_ C A_d rs_leq_47_d11 (pc' := 12) rfl ?_
                  refine icmp_ge C 32 15 rs_leq_47_d12 (by decide) rfl rfl (fun q12 => ?_) (fun q12 => ?_)
                  · exact absurd q12 (by decide)
                  refine aloadN C rs_leq_47_d15 (pc' := 16) rfl rfl rfl ?_
                  refine iloadN C rs_leq_47_d16 (pc' := 17) rfl rfl ?_
                  refine ldB_ C (v := .int 32) A_d (by decide) rfl rs_leq_47_d17 (pc' := 18) rfl ?_
                  refine aloadN C rs_leq_47_d18 (pc' := 19) rfl rfl rfl ?_
                  refine iloadN C rs_leq_47_d19 (pc' := 20) rfl rfl ?_
                  refine ldB_ C (v := .int 32) A_e1 (by decide) rfl rs_leq_47_d20 (pc' := 21) rfl ?_
                  refine icmp_eq C 26 24 rs_leq_47_d21 (by decide) rfl rfl (fun q21 => ?_) (fun q21 => ?_)
                  · skip
                    refine iinc C rs_leq_47_d26 (pc' := 29) rfl rfl (Ls' := #[.val (.ref d), .val (.ref e1), .val (.int 9)]) rfl ?_
                    refine goto_ C rs_leq_47_d29 (by decide) (pc' := 9) rfl ?_
                    refine iloadN C rs_leq_47_d9 (pc' := 10) rfl rfl ?_
                    refine aloadN C rs_leq_47_d10 (pc' := 11) rfl rfl rfl ?_
                    refine alen_ C A_d rs_leq_47_d11 (pc' := 12) rfl ?_
                    refine icmp_ge C 32 15 rs_leq_47_d12 (by decide) rfl rfl (fun q12 => ?_) (fun q12 => ?_)
                    · exact absurd q12 (by decide)
                    refine aloadN C rs_leq_47_d15 (pc' := 16) rfl rfl rfl ?_
                    refine iloadN C rs_leq_47_d16 (pc' := 17) rfl rfl ?_
                    refine ldB_ C (v := .int 111) A_d (by decide) rfl rs_leq_47_d17 (pc' := 18) rfl ?_
                    refine aloadN C rs_leq_47_d18 (pc' := 19) rfl rfl rfl ?_
                    refine iloadN C rs_leq_47_d19 (pc' := 20) rfl rfl ?_
                    refine ldB_ C (v := .int 111) A_e1 (by decide) rfl rs_leq_47_d20 (pc' := 21) rfl ?_
                    refine icmp_eq C 26 24 rs_leq_47_d21 (by decide) rfl rfl (fun q21 => ?_) (fun q21 => ?_)
                    · skip
                      refine iinc C rs_leq_47_d26 (pc' := 29) rfl rfl (Ls' := #[.val (.ref d), .val (.ref e1), .val (.int 10)]) rfl ?_
                      refine goto_ C rs_leq_47_d29 (by decide) (pc' := 9) rfl ?_
                      refine iloadN C rs_leq_47_d9 (pc' := 10) rfl rfl ?_
                      refine aloadN C rs_leq_47_d10 (pc' := 11) rfl rfl rfl ?_
                      refine alen_ C A_d rs_leq_47_d11 (pc' := 12) rfl ?_
                      refine icmp_ge C 32 15 rs_leq_47_d12 (by decide) rfl rfl (fun q12 => ?_) (fun q12 => ?_)
                      · exact absurd q12 (by decide)
                      refine aloadN C rs_leq_47_d15 (pc' := 16) rfl rfl rfl ?_
                      refine iloadN C rs_leq_47_d16 (pc' := 17) rfl rfl ?_
                      refine ldB_ C (v := .int 102) A_d (by decide) rfl rs_leq_47_d17 (pc' := 18) rfl ?_
                      refine aloadN C rs_leq_47_d18 (pc' := 19) rfl rfl rfl ?_
                      refine iloadN C rs_leq_47_d19 (pc' := 20) rfl rfl ?_
                      refine ldB_ C (v := .int 102) A_e1 (by decide) rfl rs_leq_47_d20 (pc' := 21) rfl ?_
                      refine icmp_eq C 26 24 rs_leq_47_d21 (by decide) rfl rfl (fun q21 => ?_) (fun q21 => ?_)
                      · skip
                        refine iinc C rs_leq_47_d26 (pc' := 29) rfl rfl (Ls' := #[.val (.ref d), .val (.ref e1), .val (.int 11)]) rfl ?_
                        refine goto_ C rs_leq_47_d29 (by decide) (pc' := 9) rfl ?_
                        refine iloadN C rs_leq_47_d9 (pc' := 10) rfl rfl ?_
                        refine aloadN C rs_leq_47_d10 (pc' := 11) rfl rfl rfl ?_
                        refine alen_ C A_d rs_leq_47_d11 (pc' := 12) rfl ?_
                        refine icmp_ge C 32 15 rs_leq_47_d12 (by decide) rfl rfl (fun q12 => ?_) (fun q12 => ?_)
                        · exact absurd q12 (by decide)
                        refine aloadN C rs_leq_47_d15 (pc' := 16) rfl rfl rfl ?_
                        refine iloadN C rs_leq_47_d16 (pc' := 17) rfl rfl ?_
                        refine ldB_ C (v := .int 32) A_d (by decide) rfl rs_leq_47_d17 (pc' := 18) rfl ?_
                        refine aloadN C rs_leq_47_d18 (pc' := 19) rfl rfl rfl ?_
                        refine iloadN C rs_leq_47_d19 (pc' := 20) rfl rfl ?_
                        refine ldB_ C (v := .int 32) A_e1 (by decide) rfl rs_leq_47_d20 (pc' := 21) rfl ?_
                        refine icmp_eq C 26 24 rs_leq_47_d21 (by decide) rfl rfl (fun q21 => ?_) (fun q21 => ?_)
                        · skip
                          refine iinc C rs_leq_47_d26 (pc' := 29) rfl rfl (Ls' := #[.val (.ref d), .val (.ref e1), .val (.int 12)]) rfl ?_
                          refine goto_ C rs_leq_47_d29 (by decide) (pc' := 9) rfl ?_
                          refine iloadN C rs_leq_47_d9 (pc' := 10) rfl rfl ?_
                          refine aloadN C rs_leq_47_d10 (pc' := 11) rfl rfl rfl ?_
                          refine alen_ C A_d rs_leq_47_d11 (pc' := 12) rfl ?_
                          refine icmp_ge C 32 15 rs_leq_47_d12 (by decide) rfl rfl (fun q12 => ?_) (fun q12 => ?_)
                          · exact absurd q12 (by decide)
                          refine aloadN C rs_leq_47_d15 (pc' := 16) rfl rfl rfl ?_
                          refine iloadN C rs_leq_47_d16 (pc' := 17) rfl rfl ?_
                          refine ldB_ C (v := .int 115) A_d (by decide) rfl rs_leq_47_d17 (pc' := 18) rfl ?_
                          refine aloadN C rs_leq_47_d18 (pc' := 19) rfl rfl rfl ?_
                          refine iloadN C rs_leq_47_d19 (pc' := 20) rfl rfl ?_
                          refine ldB_ C (v := .int 115) A_e1 (by decide) rfl rs_leq_47_d20 (pc' := 21) rfl ?_
                          refine icmp_eq C 26 24 rs_leq_47_d21 (by decide) rfl rfl (fun q21 => ?_) (fun q21 => ?_)
                          · skip
                            refine iinc C rs_leq_47_d26 (pc' := 29) rfl rfl (Ls' := #[.val (.ref d), .val (.ref e1), .val (.int 13)]) rfl ?_
                            refine goto_ C rs_leq_47_d29 (by decide) (pc' := 9) rfl ?_
                            refine iloadN C rs_leq_47_d9 (pc' := 10) rfl rfl ?_
                            refine aloadN C rs_leq_47_d10 (pc' := 11) rfl rfl rfl ?_
                            refine alen_ C A_d rs_leq_47_d11 (pc' := 12) rfl ?_
                            refine icmp_ge C 32 15 rs_leq_47_d12 (by decide) rfl rfl (fun q12 => ?_) (fun q12 => ?_)
                            · exact absurd q12 (by decide)
                            refine aloadN C rs_leq_47_d15 (pc' := 16) rfl rfl rfl ?_
                            refine iloadN C rs_leq_47_d16 (pc' := 17) rfl rfl ?_
                            refine ldB_ C (v := .int 104) A_d (by decide) rfl rs_leq_47_d17 (pc' := 18) rfl ?_
                            refine aloadN C rs_leq_47_d18 (pc' := 19) rfl rfl rfl ?_
                            refine iloadN C rs_leq_47_d19 (pc' := 20) rfl rfl ?_
                            refine ldB_ C (v := .int 104) A_e1 (by decide) rfl rs_leq_47_d20 (pc' := 21) rfl ?_
                            refine icmp_eq C 26 24 rs_leq_47_d21 (by decide) rfl rfl (fun q21 => ?_) (fun q21 => ?_)
                            · skip
                              refine iinc C rs_leq_47_d26 (pc' := 29) rfl rfl (Ls' := #[.val (.ref d), .val (.ref e1), .val (.int 14)]) rfl ?_
                              refine goto_ C rs_leq_47_d29 (by decide) (pc' := 9) rfl ?_
                              refine iloadN C rs_leq_47_d9 (pc' := 10) rfl rfl ?_
                              refine aloadN C rs_leq_47_d10 (pc' := 11) rfl rfl rfl ?_
                              refine alen_ C A_d rs_leq_47_d11 (pc' := 12) rfl ?_
                              refine icmp_ge C 32 15 rs_leq_47_d12 (by decide) rfl rfl (fun q12 => ?_) (fun q12 => ?_)
                              · exact absurd q12 (by decide)
                              refine aloadN C rs_leq_47_d15 (pc' := 16) rfl rfl rfl ?_
                              refine iloadN C rs_leq_47_d16 (pc' := 17) rfl rfl ?_
                              refine ldB_ C (v := .int 97) A_d (by decide) rfl rs_leq_47_d17 (pc' := 18) rfl ?_
                              refine aloadN C rs_leq_47_d18 (pc' := 19) rfl rfl rfl ?_
                              refine iloadN C rs_leq_47_d19 (pc' := 20) rfl rfl ?_
                              refine ldB_ C (v := .int 97) A_e1 (by decide) rfl rs_leq_47_d20 (pc' := 21) rfl ?_
                              refine icmp_eq C 26 24 rs_leq_47_d21 (by decide) rfl rfl (fun q21 => ?_) (fun q21 => ?_)
                              · skip
                                refine iinc C rs_leq_47_d26 (pc' := 29) rfl rfl (Ls' := #[.val (.ref d), .val (.ref e1), .val (.int 15)]) rfl ?_
                                refine goto_ C rs_leq_47_d29 (by decide) (pc' := 9) rfl ?_
                                refine iloadN C rs_leq_47_d9 (pc' := 10) rfl rfl ?_
                                refine aloadN C rs_leq_47_d10 (pc' := 11) rfl rfl rfl ?_
                                refine alen_ C A_d rs_leq_47_d11 (pc' := 12) rfl ?_
                                refine icmp_ge C 32 15 rs_leq_47_d12 (by decide) rfl rfl (fun q12 => ?_) (fun q12 => ?_)
                                · exact absurd q12 (by decide)
                                refine aloadN C rs_leq_47_d15 (pc' := 16) rfl rfl rfl ?_
                                refine iloadN C rs_leq_47_d16 (pc' := 17) rfl rfl ?_
                                refine ldB_ C (v := .int 114) A_d (by decide) rfl rs_leq_47_d17 (pc' := 18) rfl ?_
                                refine aloadN C rs_leq_47_d18 (pc' := 19) rfl rfl rfl ?_
                                refine iloadN C rs_leq_47_d19 (pc' := 20) rfl rfl ?_
                                refine ldB_ C (v := .int 114) A_e1 (by decide) rfl rs_leq_47_d20 (pc' := 21) rfl ?_
                                refine icmp_eq C 26 24 rs_leq_47_d21 (by decide) rfl rfl (fun q21 => ?_) (fun q21 => ?_)
                                · skip
                                  refine iinc C rs_leq_47_d26 (pc' := 29) rfl rfl (Ls' := #[.val (.ref d), .val (.ref e1), .val (.int 16)]) rfl ?_
                                  refine goto_ C rs_leq_47_d29 (by decide) (pc' := 9) rfl ?_
                                  refine iloadN C rs_leq_47_d9 (pc' := 10) rfl rfl ?_
                                  refine aloadN C rs_leq_47_d10 (pc' := 11) rfl rfl rfl ?_
                                  refine alen_ C A_d rs_leq_47_d11 (pc' := 12) rfl ?_
                                  refine icmp_ge C 32 15 rs_leq_47_d12 (by decide) rfl rfl (fun q12 => ?_) (fun q12 => ?_)
                                  · exact absurd q12 (by decide)
                                  refine aloadN C rs_leq_47_d15 (pc' := 16) rfl rfl rfl ?_
                                  refine iloadN C rs_leq_47_d16 (pc' := 17) rfl rfl ?_
                                  refine ldB_ C (v := .int 101) A_d (by decide) rfl rs_leq_47_d17 (pc' := 18) rfl ?_
                                  refine aloadN C rs_leq_47_d18 (pc' := 19) rfl rfl rfl ?_
                                  refine iloadN C rs_leq_47_d19 (pc' := 20) rfl rfl ?_
                                  refine ldB_ C (v := .int 101) A_e1 (by decide) rfl rs_leq_47_d20 (pc' := 21) rfl ?_
                                  refine icmp_eq C 26 24 rs_leq_47_d21 (by decide) rfl rfl (fun q21 => ?_) (fun q21 => ?_)
                                  · skip
                                    refine iinc C rs_leq_47_d26 (pc' := 29) rfl rfl (Ls' := #[.val (.ref d), .val (.ref e1), .val (.int 17)]) rfl ?_
                                    refine goto_ C rs_leq_47_d29 (by decide) (pc' := 9) rfl ?_
                                    refine iloadN C rs_leq_47_d9 (pc' := 10) rfl rfl ?_
                                    refine aloadN C rs_leq_47_d10 (pc' := 11) rfl rfl rfl ?_
                                    refine alen_ C A_d rs_leq_47_d11 (pc' := 12) rfl ?_
                                    refine icmp_ge C 32 15 rs_leq_47_d12 (by decide) rfl rfl (fun q12 => ?_) (fun q12 => ?_)
                                    · exact absurd q12 (by decide)
                                    refine aloadN C rs_leq_47_d15 (pc' := 16) rfl rfl rfl ?_
                                    refine iloadN C rs_leq_47_d16 (pc' := 17) rfl rfl ?_
                                    refine ldB_ C (v := .int 115) A_d (by decide) rfl rs_leq_47_d17 (pc' := 18) rfl ?_
                                    refine aloadN C rs_leq_47_d18 (pc' := 19) rfl rfl rfl ?_
                                    refine iloadN C rs_leq_47_d19 (pc' := 20) rfl rfl ?_
                                    refine ldB_ C (v := .int 115) A_e1 (by decide) rfl rs_leq_47_d20 (pc' := 21) rfl ?_
                                    refine icmp_eq C 26 24 rs_leq_47_d21 (by decide) rfl rfl (fun q21 => ?_) (fun q21 => ?_)
                                    · skip
                                      refine iinc C rs_leq_47_d26 (pc' := 29) rfl rfl (Ls' := #[.val (.ref d), .val (.ref e1), .val (.int 18)]) rfl ?_
                                      refine goto_ C rs_leq_47_d29 (by decide) (pc' := 9) rfl ?_
                                      refine iloadN C rs_leq_47_d9 (pc' := 10) rfl rfl ?_
                                      refine aloadN C rs_leq_47_d10 (pc' := 11) rfl rfl rfl ?_
                                      refine alen_ C A_d rs_leq_47_d11 (pc' := 12) rfl ?_
                                      refine icmp_ge C 32 15 rs_leq_47_d12 (by decide) rfl rfl (fun q12 => ?_) (fun q12 => ?_)
                                      · exact absurd q12 (by decide)
                                      refine aloadN C rs_leq_47_d15 (pc' := 16) rfl rfl rfl ?_
                                      refine iloadN C rs_leq_47_d16 (pc' := 17) rfl rfl ?_
                                      refine ldB_ C (v := .int 32) A_d (by decide) rfl rs_leq_47_d17 (pc' := 18) rfl ?_
                                      refine aloadN C rs_leq_47_d18 (pc' := 19) rfl rfl rfl ?_
                                      refine iloadN C rs_leq_47_d19 (pc' := 20) rfl rfl ?_
                                      refine ldB_ C (v := .int 32) A_e1 (by decide) rfl rs_leq_47_d20 (pc' := 21) rfl ?_
                                      refine icmp_eq C 26 24 rs_leq_47_d21 (by decide) rfl rfl (fun q21 => ?_) (fun q21 => ?_)
                                      · skip
                                        refine iinc C rs_leq_47_d26 (pc' := 29) rfl rfl (Ls' := #[.val (.ref d), .val (.ref e1), .val (.int 19)]) rfl ?_
                                        refine goto_ C rs_leq_47_d29 (by decide) (pc' := 9) rfl ?_
                                        refine iloadN C rs_leq_47_d9 (pc' := 10) rfl rfl ?_
                                        refine aloadN C rs_leq_47_d10 (pc' := 11) rfl rfl rfl ?_
                                        refine alen_ C A_d rs_leq_47_d11 (pc' := 12) rfl ?_
                                        refine icmp_ge C 32 15 rs_leq_47_d12 (by decide) rfl rfl (fun q12 => ?_) (fun q12 => ?_)
                                        · exact absurd q12 (by decide)
                                        refine aloadN C rs_leq_47_d15 (pc' := 16) rfl rfl rfl ?_
                                        refine iloadN C rs_leq_47_d16 (pc' := 17) rfl rfl ?_
                                        refine ldB_ C (v := .int 111) A_d (by decide) rfl rs_leq_47_d17 (pc' := 18) rfl ?_
                                        refine aloadN C rs_leq_47_d18 (pc' := 19) rfl rfl rfl ?_
                                        refine iloadN C rs_leq_47_d19 (pc' := 20) rfl rfl ?_
                                        refine ldB_ C (v := .int 111) A_e1 (by decide) rfl rs_leq_47_d20 (pc' := 21) rfl ?_
                                        refine icmp_eq C 26 24 rs_leq_47_d21 (by decide) rfl rfl (fun q21 => ?_) (fun q21 => ?_)
                                        · skip
                                          refine iinc C rs_leq_47_d26 (pc' := 29) rfl rfl (Ls' := #[.val (.ref d), .val (.ref e1), .val (.int 20)]) rfl ?_
                                          refine goto_ C rs_leq_47_d29 (by decide) (pc' := 9) rfl ?_
                                          refine iloadN C rs_leq_47_d9 (pc' := 10) rfl rfl ?_
                                          refine aloadN C rs_leq_47_d10 (pc' := 11) rfl rfl rfl ?_
                                          refine alen_ C A_d rs_leq_47_d11 (pc' := 12) rfl ?_
                                          refine icmp_ge C 32 15 rs_leq_47_d12 (by decide) rfl rfl (fun q12 => ?_) (fun q12 => ?_)
                                          · exact absurd q12 (by decide)
                                          refine aloadN C rs_leq_47_d15 (pc' := 16) rfl rfl rfl ?_
                                          refine iloadN C rs_leq_47_d16 (pc' := 17) rfl rfl ?_
                                          refine ldB_ C (v := .int 102) A_d (by decide) rfl rs_leq_47_d17 (pc' := 18) rfl ?_
                                          refine aloadN C rs_leq_47_d18 (pc' := 19) rfl rfl rfl ?_
                                          refine iloadN C rs_leq_47_d19 (pc' := 20) rfl rfl ?_
                                          refine ldB_ C (v := .int 102) A_e1 (by decide) rfl rs_leq_47_d20 (pc' := 21) rfl ?_
                                          refine icmp_eq C 26 24 rs_leq_47_d21 (by decide) rfl rfl (fun q21 => ?_) (fun q21 => ?_)
                                          · skip
                                            refine iinc C rs_leq_47_d26 (pc' := 29) rfl rfl (Ls' := #[.val (.ref d), .val (.ref e1), .val (.int 21)]) rfl ?_
                                            refine goto_ C rs_leq_47_d29 (by decide) (pc' := 9) rfl ?_
                                            refine iloadN C rs_leq_47_d9 (pc' := 10) rfl rfl ?_
                                            refine aloadN C rs_leq_47_d10 (pc' := 11) rfl rfl rfl ?_
                                            refine alen_ C A_d rs_leq_47_d11 (pc' := 12) rfl ?_
                                            refine icmp_ge C 32 15 rs_leq_47_d12 (by decide) rfl rfl (fun q12 => ?_) (fun q12 => ?_)
                                            · exact absurd q12 (by decide)
                                            refine aloadN C rs_leq_47_d15 (pc' := 16) rfl rfl rfl ?_
                                            refine iloadN C rs_leq_47_d16 (pc' := 17) rfl rfl ?_
                                            refine ldB_ C (v := .int 32) A_d (by decide) rfl rs_leq_47_d17 (pc' := 18) rfl ?_
                                            refine aloadN C rs_leq_47_d18 (pc' := 19) rfl rfl rfl ?_
                                            refine iloadN C rs_leq_47_d19 (pc' := 20) rfl rfl ?_
                                            refine ldB_ C (v := .int 32) A_e1 (by decide) rfl rs_leq_47_d20 (pc' := 21) rfl ?_
                                            refine icmp_eq C 26 24 rs_leq_47_d21 (by decide) rfl rfl (fun q21 => ?_) (fun q21 => ?_)
                                            · skip
                                              refine iinc C rs_leq_47_d26 (pc' := 29) rfl rfl (Ls' := #[.val (.ref d), .val (.ref e1), .val (.int 22)]) rfl ?_
                                              refine goto_ C rs_leq_47_d29 (by decide) (pc' := 9) rfl ?_
                                              refine iloadN C rs_leq_47_d9 (pc' := 10) rfl rfl ?_
                                              refine aloadN C rs_leq_47_d10 (pc' := 11) rfl rfl rfl ?_
                                              refine alen_ C A_d rs_leq_47_d11 (pc' := 12) rfl ?_
                                              refine icmp_ge C 32 15 rs_leq_47_d12 (by decide) rfl rfl (fun q12 => ?_) (fun q12 => ?_)
                                              · exact absurd q12 (by decide)
                                              refine aloadN C rs_leq_47_d15 (pc' := 16) rfl rfl rfl ?_
                                              refine iloadN C rs_leq_47_d16 (pc' := 17) rfl rfl ?_
                                              refine ldB_ C (v := .int 97) A_d (by decide) rfl rs_leq_47_d17 (pc' := 18) rfl ?_
                                              refine aloadN C rs_leq_47_d18 (pc' := 19) rfl rfl rfl ?_
                                              refine iloadN C rs_leq_47_d19 (pc' := 20) rfl rfl ?_
                                              refine ldB_ C (v := .int 97) A_e1 (by decide) rfl rs_leq_47_d20 (pc' := 21) rfl ?_
                                              refine icmp_eq C 26 24 rs_leq_47_d21 (by decide) rfl rfl (fun q21 => ?_) (fun q21 => ?_)
                                              · skip
                                                refine iinc C rs_leq_47_d26 (pc' := 29) rfl rfl (Ls' := #[.val (.ref d), .val (.ref e1), .val (.int 23)]) rfl ?_
                                                refine goto_ C rs_leq_47_d29 (by decide) (pc' := 9) rfl ?_
                                                refine iloadN C rs_leq_47_d9 (pc' := 10) rfl rfl ?_
                                                refine aloadN C rs_leq_47_d10 (pc' := 11) rfl rfl rfl ?_
                                                refine alen_ C A_d rs_leq_47_d11 (pc' := 12) rfl ?_
                                                refine icmp_ge C 32 15 rs_leq_47_d12 (by decide) rfl rfl (fun q12 => ?_) (fun q12 => ?_)
                                                · exact absurd q12 (by decide)
                                                refine aloadN C rs_leq_47_d15 (pc' := 16) rfl rfl rfl ?_
                                                refine iloadN C rs_leq_47_d16 (pc' := 17) rfl rfl ?_
                                                refine ldB_ C (v := .int 116) A_d (by decide) rfl rs_leq_47_d17 (pc' := 18) rfl ?_
                                                refine aloadN C rs_leq_47_d18 (pc' := 19) rfl rfl rfl ?_
                                                refine iloadN C rs_leq_47_d19 (pc' := 20) rfl rfl ?_
                                                refine ldB_ C (v := .int 116) A_e1 (by decide) rfl rs_leq_47_d20 (pc' := 21) rfl ?_
                                                refine icmp_eq C 26 24 rs_leq_47_d21 (by decide) rfl rfl (fun q21 => ?_) (fun q21 => ?_)
                                                · skip
                                                  refine iinc C rs_leq_47_d26 (pc' := 29) rfl rfl (Ls' := #[.val (.ref d), .val (.ref e1), .val (.int 24)]) rfl ?_
                                                  refine goto_ C rs_leq_47_d29 (by decide) (pc' := 9) rfl ?_
                                                  refine iloadN C rs_leq_47_d9 (pc' := 10) rfl rfl ?_
                                                  refine aloadN C rs_leq_47_d10 (pc' := 11) rfl rfl rfl ?_
                                                  refine alen_ C A_d rs_leq_47_d11 (pc' := 12) rfl ?_
                                                  refine icmp_ge C 32 15 rs_leq_47_d12 (by decide) rfl rfl (fun q12 => ?_) (fun q12 => ?_)
                                                  · exact absurd q12 (by decide)
                                                  refine aloadN C rs_leq_47_d15 (pc' := 16) rfl rfl rfl ?_
                                                  refine iloadN C rs_leq_47_d16 (pc' := 17) rfl rfl ?_
                                                  refine ldB_ C (v := .int 32) A_d (by decide) rfl rs_leq_47_d17 (pc' := 18) rfl ?_
                                                  refine aloadN C rs_leq_47_d18 (pc' := 19) rfl rfl rfl ?_
                                                  refine iloadN C rs_leq_47_d19 (pc' := 20) rfl rfl ?_
                                                  refine ldB_ C (v := .int 32) A_e1 (by decide) rfl rs_leq_47_d20 (pc' := 21) rfl ?_
                                                  refine icmp_eq C 26 24 rs_leq_47_d21 (by decide) rfl rfl (fun q21 => ?_) (fun q21 => ?_)
                                                  · skip
                                                    refine iinc C rs_leq_47_d26 (pc' := 29) rfl rfl (Ls' := #[.val (.ref d), .val (.ref e1), .val (.int 25)]) rfl ?_
                                                    refine goto_ C rs_leq_47_d29 (by decide) (pc' := 9) rfl ?_
                                                    refine iloadN C rs_leq_47_d9 (pc' := 10) rfl rfl ?_
                                                    refine aloadN C rs_leq_47_d10 (pc' := 11) rfl rfl rfl ?_
                                                    refine alen_ C A_d rs_leq_47_d11 (pc' := 12) rfl ?_
                                                    refine icmp_ge C 32 15 rs_leq_47_d12 (by decide) rfl rfl (fun q12 => ?_) (fun q12 => ?_)
                                                    · exact absurd q12 (by decide)
                                                    refine aloadN C rs_leq_47_d15 (pc' := 16) rfl rfl rfl ?_
                                                    refine iloadN C rs_leq_47_d16 (pc' := 17) rfl rfl ?_
                                                    refine ldB_ C (v := .int 109) A_d (by decide) rfl rs_leq_47_d17 (pc' := 18) rfl ?_
                                                    refine aloadN C rs_leq_47_d18 (pc' := 19) rfl rfl rfl ?_
                                                    refine iloadN C rs_leq_47_d19 (pc' := 20) rfl rfl ?_
                                                    refine ldB_ C (v := .int 109) A_e1 (by decide) rfl rs_leq_47_d20 (pc' := 21) rfl ?_
                                                    refine icmp_eq C 26 24 rs_leq_47_d21 (by decide) rfl rfl (fun q21 => ?_) (fun q21 => ?_)
                                                    · skip
                                                      refine iinc C rs_leq_47_d26 (pc' := 29) rfl rfl (Ls' := #[.val (.ref d), .val (.ref e1), .val (.int 26)]) rfl ?_
                                                      refine goto_ C rs_leq_47_d29 (by decide) (pc' := 9) rfl ?_
                                                      refine iloadN C rs_leq_47_d9 (pc' := 10) rfl rfl ?_
                                                      refine aloadN C rs_leq_47_d10 (pc' := 11) rfl rfl rfl ?_
                                                      refine alen_ C A_d rs_leq_47_d11 (pc' := 12) rfl ?_
                                                      refine icmp_ge C 32 15 rs_leq_47_d12 (by decide) rfl rfl (fun q12 => ?_) (fun q12 => ?_)
                                                      · exact absurd q12 (by decide)
                                                      refine aloadN C rs_leq_47_d15 (pc' := 16) rfl rfl rfl ?_
                                                      refine iloadN C rs_leq_47_d16 (pc' := 17) rfl rfl ?_
                                                      refine ldB_ C (v := .int 111) A_d (by decide) rfl rs_leq_47_d17 (pc' := 18) rfl ?_
                                                      refine aloadN C rs_leq_47_d18 (pc' := 19) rfl rfl rfl ?_
                                                      refine iloadN C rs_leq_47_d19 (pc' := 20) rfl rfl ?_
                                                      refine ldB_ C (v := .int 111) A_e1 (by decide) rfl rs_leq_47_d20 (pc' := 21) rfl ?_
                                                      refine icmp_eq C 26 24 rs_leq_47_d21 (by decide) rfl rfl (fun q21 => ?_) (fun q21 => ?_)
                                                      · skip
                                                        refine iinc C rs_leq_47_d26 (pc' := 29) rfl rfl (Ls' := #[.val (.ref d), .val (.ref e1), .val (.int 27)]) rfl ?_
                                                        refine goto_ C rs_leq_47_d29 (by decide) (pc' := 9) rfl ?_
                                                        refine iloadN C rs_leq_47_d9 (pc' := 10) rfl rfl ?_
                                                        refine aloadN C rs_leq_47_d10 (pc' := 11) rfl rfl rfl ?_
                                                        refine alen_ C A_d rs_leq_47_d11 (pc' := 12) rfl ?_
                                                        refine icmp_ge C 32 15 rs_leq_47_d12 (by decide) rfl rfl (fun q12 => ?_) (fun q12 => ?_)
                                                        · exact absurd q12 (by decide)
                                                        refine aloadN C rs_leq_47_d15 (pc' := 16) rfl rfl rfl ?_
                                                        refine iloadN C rs_leq_47_d16 (pc' := 17) rfl rfl ?_
                                                        refine ldB_ C (v := .int 115) A_d (by decide) rfl rs_leq_47_d17 (pc' := 18) rfl ?_
                                                        refine aloadN C rs_leq_47_d18 (pc' := 19) rfl rfl rfl ?_
                                                        refine iloadN C rs_leq_47_d19 (pc' := 20) rfl rfl ?_
                                                        refine ldB_ C (v := .int 115) A_e1 (by decide) rfl rs_leq_47_d20 (pc' := 21) rfl ?_
                                                        refine icmp_eq C 26 24 rs_leq_47_d21 (by decide) rfl rfl (fun q21 => ?_) (fun q21 => ?_)
                                                        · skip
                                                          refine iinc C rs_leq_47_d26 (pc' := 29) rfl rfl (Ls' := #[.val (.ref d), .val (.ref e1), .val (.int 28)]) rfl ?_
                                                          refine goto_ C rs_leq_47_d29 (by decide) (pc' := 9) rfl ?_
                                                          refine iloadN C rs_leq_47_d9 (pc' := 10) rfl rfl ?_
                                                          refine aloadN C rs_leq_47_d10 (pc' := 11) rfl rfl rfl ?_
                                                          refine alen_ C A_d rs_leq_47_d11 (pc' := 12) rfl ?_
                                                          refine icmp_ge C 32 15 rs_leq_47_d12 (by decide) rfl rfl (fun q12 => ?_) (fun q12 => ?_)
                                                          · exact absurd q12 (by decide)
                                                          refine aloadN C rs_leq_47_d15 (pc' := 16) rfl rfl rfl ?_
                                                          refine iloadN C rs_leq_47_d16 (pc' := 17) rfl rfl ?_
                                                          refine ldB_ C (v := .int 116) A_d (by decide) rfl rs_leq_47_d17 (pc' := 18) rfl ?_
                                                          refine aloadN C rs_leq_47_d18 (pc' := 19) rfl rfl rfl ?_
                                                          refine iloadN C rs_leq_47_d19 (pc' := 20) rfl rfl ?_
                                                          refine ldB_ C (v := .int 116) A_e1 (by decide) rfl rs_leq_47_d20 (pc' := 21) rfl ?_
                                                          refine icmp_eq C 26 24 rs_leq_47_d21 (by decide) rfl rfl (fun q21 => ?_) (fun q21 => ?_)
                                                          · skip
                                                            refine iinc C rs_leq_47_d26 (pc' := 29) rfl rfl (Ls' := #[.val (.ref d), .val (.ref e1), .val (.int 29)]) rfl ?_
                                                            refine goto_ C rs_leq_47_d29 (by decide) (pc' := 9) rfl ?_
                                                            refine iloadN C rs_leq_47_d9 (pc' := 10) rfl rfl ?_
                                                            refine aloadN C rs_leq_47_d10 (pc' := 11) rfl rfl rfl ?_
                                                            refine alen_ C A_d rs_leq_47_d11 (pc' := 12) rfl ?_
                                                            refine icmp_ge C 32 15 rs_leq_47_d12 (by decide) rfl rfl (fun q12 => ?_) (fun q12 => ?_)
                                                            · exact absurd q12 (by decide)
                                                            refine aloadN C rs_leq_47_d15 (pc' := 16) rfl rfl rfl ?_
                                                            refine iloadN C rs_leq_47_d16 (pc' := 17) rfl rfl ?_
                                                            refine ldB_ C (v := .int 32) A_d (by decide) rfl rs_leq_47_d17 (pc' := 18) rfl ?_
                                                            refine aloadN C rs_leq_47_d18 (pc' := 19) rfl rfl rfl ?_
                                                            refine iloadN C rs_leq_47_d19 (pc' := 20) rfl rfl ?_
                                                            refine ldB_ C (v := .int 32) A_e1 (by decide) rfl rs_leq_47_d20 (pc' := 21) rfl ?_
                                                            refine icmp_eq C 26 24 rs_leq_47_d21 (by decide) rfl rfl (fun q21 => ?_) (fun q21 => ?_)
                                                            · skip
                                                              refine iinc C rs_leq_47_d26 (pc' := 29) rfl rfl (Ls' := #[.val (.ref d), .val (.ref e1), .val (.int 30)]) rfl ?_
                                                              refine goto_ C rs_leq_47_d29 (by decide) (pc' := 9) rfl ?_
                                                              refine iloadN C rs_leq_47_d9 (pc' := 10) rfl rfl ?_
                                                              refine aloadN C rs_leq_47_d10 (pc' := 11) rfl rfl rfl ?_
                                                              refine alen_ C A_d rs_leq_47_d11 (pc' := 12) rfl ?_
                                                              refine icmp_ge C 32 15 rs_leq_47_d12 (by decide) rfl rfl (fun q12 => ?_) (fun q12 => ?_)
                                                              · exact absurd q12 (by decide)
                                                              refine aloadN C rs_leq_47_d15 (pc' := 16) rfl rfl rfl ?_
                                                              refine iloadN C rs_leq_47_d16 (pc' := 17) rfl rfl ?_
                                                              refine ldB_ C (v := .int 49) A_d (by decide) rfl rs_leq_47_d17 (pc' := 18) rfl ?_
                                                              refine aloadN C rs_leq_47_d18 (pc' := 19) rfl rfl rfl ?_
                                                              refine iloadN C rs_leq_47_d19 (pc' := 20) rfl rfl ?_
                                                              refine ldB_ C (v := .int 49) A_e1 (by decide) rfl rs_leq_47_d20 (pc' := 21) rfl ?_
                                                              refine icmp_eq C 26 24 rs_leq_47_d21 (by decide) rfl rfl (fun q21 => ?_) (fun q21 => ?_)
                                                              · skip
                                                                refine iinc C rs_leq_47_d26 (pc' := 29) rfl rfl (Ls' := #[.val (.ref d), .val (.ref e1), .val (.int 31)]) rfl ?_
                                                                refine goto_ C rs_leq_47_d29 (by decide) (pc' := 9) rfl ?_
                                                                refine iloadN C rs_leq_47_d9 (pc' := 10) rfl rfl ?_
                                                                refine aloadN C rs_leq_47_d10 (pc' := 11) rfl rfl rfl ?_
                                                                refine alen_ C A_d rs_leq_47_d11 (pc' := 12) rfl ?_
                                                                refine icmp_ge C 32 15 rs_leq_47_d12 (by decide) rfl rfl (fun q12 => ?_) (fun q12 => ?_)
                                                                · exact absurd q12 (by decide)
                                                                refine aloadN C rs_leq_47_d15 (pc' := 16) rfl rfl rfl ?_
                                                                refine iloadN C rs_leq_47_d16 (pc' := 17) rfl rfl ?_
                                                                refine ldB_ C (v := .int 48) A_d (by decide) rfl rs_leq_47_d17 (pc' := 18) rfl ?_
                                                                refine aloadN C rs_leq_47_d18 (pc' := 19) rfl rfl rfl ?_
                                                                refine iloadN C rs_leq_47_d19 (pc' := 20) rfl rfl ?_
                                                                refine ldB_ C (v := .int 48) A_e1 (by decide) rfl rs_leq_47_d20 (pc' := 21) rfl ?_
                                                                refine icmp_eq C 26 24 rs_leq_47_d21 (by decide) rfl rfl (fun q21 => ?_) (fun q21 => ?_)
                                                                · skip
                                                                  refine iinc C rs_leq_47_d26 (pc' := 29) rfl rfl (Ls' := #[.val (.ref d), .val (.ref e1), .val (.int 32)]) rfl ?_
                                                                  refine goto_ C rs_leq_47_d29 (by decide) (pc' := 9) rfl ?_
                                                                  refine iloadN C rs_leq_47_d9 (pc' := 10) rfl rfl ?_
                                                                  refine aloadN C rs_leq_47_d10 (pc' := 11) rfl rfl rfl ?_
                                                                  refine alen_ C A_d rs_leq_47_d11 (pc' := 12) rfl ?_
                                                                  refine icmp_ge C 32 15 rs_leq_47_d12 (by decide) rfl rfl (fun q12 => ?_) (fun q12 => ?_)
                                                                  · exact absurd q12 (by decide)
                                                                  refine aloadN C rs_leq_47_d15 (pc' := 16) rfl rfl rfl ?_
                                                                  refine iloadN C rs_leq_47_d16 (pc' := 17) rfl rfl ?_
                                                                  refine ldB_ C (v := .int 32) A_d (by decide) rfl rs_leq_47_d17 (pc' := 18) rfl ?_
                                                                  refine aloadN C rs_leq_47_d18 (pc' := 19) rfl rfl rfl ?_
                                                                  refine iloadN C rs_leq_47_d19 (pc' := 20) rfl rfl ?_
                                                                  refine ldB_ C (v := .int 32) A_e1 (by decide) rfl rs_leq_47_d20 (pc' := 21) rfl ?_
                                                                  refine icmp_eq C 26 24 rs_leq_47_d21 (by decide) rfl rfl (fun q21 => ?_) (fun q21 => ?_)
                                                                  · skip
                                                                    refine iinc C rs_leq_47_d26 (pc' := 29) rfl rfl (Ls' := #[.val (.ref d), .val (.ref e1), .val (.int 33)]) rfl ?_
                                                                    refine goto_ C rs_leq_47_d29 (by decide) (pc' := 9) rfl ?_
                                                                    refine iloadN C rs_leq_47_d9 (pc' := 10) rfl rfl ?_
                                                                    refine aloadN C rs_leq_47_d10 (pc' := 11) rfl rfl rfl ?_
                                                                    refine alen_ C A_d rs_leq_47_d11 (pc' := 12) rfl ?_
                                                                    refine icmp_ge C 32 15 rs_leq_47_d12 (by decide) rfl rfl (fun q12 => ?_) (fun q12 => ?_)
                                                                    · exact absurd q12 (by decide)
                                                                    refine aloadN C rs_leq_47_d15 (pc' := 16) rfl rfl rfl ?_
                                                                    refine iloadN C rs_leq_47_d16 (pc' := 17) rfl rfl ?_
                                                                    refine ldB_ C (v := .int 100) A_d (by decide) rfl rs_leq_47_d17 (pc' := 18) rfl ?_
                                                                    refine aloadN C rs_leq_47_d18 (pc' := 19) rfl rfl rfl ?_
                                                                    refine iloadN C rs_leq_47_d19 (pc' := 20) rfl rfl ?_
                                                                    refine ldB_ C (v := .int 100) A_e1 (by decide) rfl rs_leq_47_d20 (pc' := 21) rfl ?_
                                                                    refine icmp_eq C 26 24 rs_leq_47_d21 (by decide) rfl rfl (fun q21 => ?_) (fun q21 => ?_)
                                                                    · skip
                                                                      refine iinc C rs_leq_47_d26 (pc' := 29) rfl rfl (Ls' := #[.val (.ref d), .val (.ref e1), .val (.int 34)]) rfl ?_
                                                                      refine goto_ C rs_leq_47_d29 (by decide) (pc' := 9) rfl ?_
                                                                      refine iloadN C rs_leq_47_d9 (pc' := 10) rfl rfl ?_
                                                                      refine aloadN C rs_leq_47_d10 (pc' := 11) rfl rfl rfl ?_
                                                                      refine alen_ C A_d rs_leq_47_d11 (pc' := 12) rfl ?_
                                                                      refine icmp_ge C 32 15 rs_leq_47_d12 (by decide) rfl rfl (fun q12 => ?_) (fun q12 => ?_)
                                                                      · exact absurd q12 (by decide)
                                                                      refine aloadN C rs_leq_47_d15 (pc' := 16) rfl rfl rfl ?_
                                                                      refine iloadN C rs_leq_47_d16 (pc' := 17) rfl rfl ?_
                                                                      refine ldB_ C (v := .int 101) A_d (by decide) rfl rs_leq_47_d17 (pc' := 18) rfl ?_
                                                                      refine aloadN C rs_leq_47_d18 (pc' := 19) rfl rfl rfl ?_
                                                                      refine iloadN C rs_leq_47_d19 (pc' := 20) rfl rfl ?_
                                                                      refine ldB_ C (v := .int 101) A_e1 (by decide) rfl rs_leq_47_d20 (pc' := 21) rfl ?_
                                                                      refine icmp_eq C 26 24 rs_leq_47_d21 (by decide) rfl rfl (fun q21 => ?_) (fun q21 => ?_)
                                                                      · skip
                                                                        refine iinc C rs_leq_47_d26 (pc' := 29) rfl rfl (Ls' := #[.val (.ref d), .val (.ref e1), .val (.int 35)]) rfl ?_
                                                                        refine goto_ C rs_leq_47_d29 (by decide) (pc' := 9) rfl ?_
                                                                        refine iloadN C rs_leq_47_d9 (pc' := 10) rfl rfl ?_
                                                                        refine aloadN C rs_leq_47_d10 (pc' := 11) rfl rfl rfl ?_
                                                                        refine alen_ C A_d rs_leq_47_d11 (pc' := 12) rfl ?_
                                                                        refine icmp_ge C 32 15 rs_leq_47_d12 (by decide) rfl rfl (fun q12 => ?_) (fun q12 => ?_)
                                                                        · exact absurd q12 (by decide)
                                                                        refine aloadN C rs_leq_47_d15 (pc' := 16) rfl rfl rfl ?_
                                                                        refine iloadN C rs_leq_47_d16 (pc' := 17) rfl rfl ?_
                                                                        refine ldB_ C (v := .int 99) A_d (by decide) rfl rs_leq_47_d17 (pc' := 18) rfl ?_
                                                                        refine aloadN C rs_leq_47_d18 (pc' := 19) rfl rfl rfl ?_
                                                                        refine iloadN C rs_leq_47_d19 (pc' := 20) rfl rfl ?_
                                                                        refine ldB_ C (v := .int 99) A_e1 (by decide) rfl rs_leq_47_d20 (pc' := 21) rfl ?_
                                                                        refine icmp_eq C 26 24 rs_leq_47_d21 (by decide) rfl rfl (fun q21 => ?_) (fun q21 => ?_)
                                                                        · skip
                                                                          refine iinc C rs_leq_47_d26 (pc' := 29) rfl rfl (Ls' := #[.val (.ref d), .val (.ref e1), .val (.int 36)]) rfl ?_
                                                                          refine goto_ C rs_leq_47_d29 (by decide) (pc' := 9) rfl ?_
                                                                          refine iloadN C rs_leq_47_d9 (pc' := 10) rfl rfl ?_
                                                                          refine aloadN C rs_leq_47_d10 (pc' := 11) rfl rfl rfl ?_
                                                                          refine alen_ C A_d rs_leq_47_d11 (pc' := 12) rfl ?_
                                                                          refine icmp_ge C 32 15 rs_leq_47_d12 (by decide) rfl rfl (fun q12 => ?_) (fun q12 => ?_)
                                                                          · exact absurd q12 (by decide)
                                                                          refine aloadN C rs_leq_47_d15 (pc' := 16) rfl rfl rfl ?_
                                                                          refine iloadN C rs_leq_47_d16 (pc' := 17) rfl rfl ?_
                                                                          refine ldB_ C (v := .int 105) A_d (by decide) rfl rs_leq_47_d17 (pc' := 18) rfl ?_
                                                                          refine aloadN C rs_leq_47_d18 (pc' := 19) rfl rfl rfl ?_
                                                                          refine iloadN C rs_leq_47_d19 (pc' := 20) rfl rfl ?_
                                                                          refine ldB_ C (v := .int 105) A_e1 (by decide) rfl rs_leq_47_d20 (pc' := 21) rfl ?_
                                                                          refine icmp_eq C 26 24 rs_leq_47_d21 (by decide) rfl rfl (fun q21 => ?_) (fun q21 => ?_)
                                                                          · skip
                                                                            refine iinc C rs_leq_47_d26 (pc' := 29) rfl rfl (Ls' := #[.val (.ref d), .val (.ref e1), .val (.int 37)]) rfl ?_
                                                                            refine goto_ C rs_leq_47_d29 (by decide) (pc' := 9) rfl ?_
                                                                            refine iloadN C rs_leq_47_d9 (pc' := 10) rfl rfl ?_
                                                                            refine aloadN C rs_leq_47_d10 (pc' := 11) rfl rfl rfl ?_
                                                                            refine alen_ C A_d rs_leq_47_d11 (pc' := 12) rfl ?_
                                                                            refine icmp_ge C 32 15 rs_leq_47_d12 (by decide) rfl rfl (fun q12 => ?_) (fun q12 => ?_)
                                                                            · exact absurd q12 (by decide)
                                                                            refine aloadN C rs_leq_47_d15 (pc' := 16) rfl rfl rfl ?_
                                                                            refine iloadN C rs_leq_47_d16 (pc' := 17) rfl rfl ?_
                                                                            refine ldB_ C (v := .int 109) A_d (by decide) rfl rs_leq_47_d17 (pc' := 18) rfl ?_
                                                                            refine aloadN C rs_leq_47_d18 (pc' := 19) rfl rfl rfl ?_
                                                                            refine iloadN C rs_leq_47_d19 (pc' := 20) rfl rfl ?_
                                                                            refine ldB_ C (v := .int 109) A_e1 (by decide) rfl rs_leq_47_d20 (pc' := 21) rfl ?_
                                                                            refine icmp_eq C 26 24 rs_leq_47_d21 (by decide) rfl rfl (fun q21 => ?_) (fun q21 => ?_)
                                                                            · skip
                                                                              refine iinc C rs_leq_47_d26 (pc' := 29) rfl rfl (Ls' := #[.val (.ref d), .val (.ref e1), .val (.int 38)]) rfl ?_
                                                                              refine goto_ C rs_leq_47_d29 (by decide) (pc' := 9) rfl ?_
                                                                              refine iloadN C rs_leq_47_d9 (pc' := 10) rfl rfl ?_
                                                                              refine aloadN C rs_leq_47_d10 (pc' := 11) rfl rfl rfl ?_
                                                                              refine alen_ C A_d rs_leq_47_d11 (pc' := 12) rfl ?_
                                                                              refine icmp_ge C 32 15 rs_leq_47_d12 (by decide) rfl rfl (fun q12 => ?_) (fun q12 => ?_)
                                                                              · exact absurd q12 (by decide)
                                                                              refine aloadN C rs_leq_47_d15 (pc' := 16) rfl rfl rfl ?_
                                                                              refine iloadN C rs_leq_47_d16 (pc' := 17) rfl rfl ?_
                                                                              refine ldB_ C (v := .int 97) A_d (by decide) rfl rs_leq_47_d17 (pc' := 18) rfl ?_
                                                                              refine aloadN C rs_leq_47_d18 (pc' := 19) rfl rfl rfl ?_
                                                                              refine iloadN C rs_leq_47_d19 (pc' := 20) rfl rfl ?_
                                                                              refine ldB_ C (v := .int 97) A_e1 (by decide) rfl rs_leq_47_d20 (pc' := 21) rfl ?_
                                                                              refine icmp_eq C 26 24 rs_leq_47_d21 (by decide) rfl rfl (fun q21 => ?_) (fun q21 => ?_)
                                                                              · skip
                                                                                refine iinc C rs_leq_47_d26 (pc' := 29) rfl rfl (Ls' := #[.val (.ref d), .val (.ref e1), .val (.int 39)]) rfl ?_
                                                                                refine goto_ C rs_leq_47_d29 (by decide) (pc' := 9) rfl ?_
                                                                                refine iloadN C rs_leq_47_d9 (pc' := 10) rfl rfl ?_
                                                                                refine aloadN C rs_leq_47_d10 (pc' := 11) rfl rfl rfl ?_
                                                                                refine alen_ C A_d rs_leq_47_d11 (pc' := 12) rfl ?_
                                                                                refine icmp_ge C 32 15 rs_leq_47_d12 (by decide) rfl rfl (fun q12 => ?_) (fun q12 => ?_)
                                                                                · exact absurd q12 (by decide)
                                                                                refine aloadN C rs_leq_47_d15 (pc' := 16) rfl rfl rfl ?_
                                                                                refine iloadN C rs_leq_47_d16 (pc' := 17) rfl rfl ?_
                                                                                refine ldB_ C (v := .int 108) A_d (by decide) rfl rs_leq_47_d17 (pc' := 18) rfl ?_
                                                                                refine aloadN C rs_leq_47_d18 (pc' := 19) rfl rfl rfl ?_
                                                                                refine iloadN C rs_leq_47_d19 (pc' := 20) rfl rfl ?_
                                                                                refine ldB_ C (v := .int 108) A_e1 (by decide) rfl rs_leq_47_d20 (pc' := 21) rfl ?_
                                                                                refine icmp_eq C 26 24 rs_leq_47_d21 (by decide) rfl rfl (fun q21 => ?_) (fun q21 => ?_)
                                                                                · skip
                                                                                  refine iinc C rs_leq_47_d26 (pc' := 29) rfl rfl (Ls' := #[.val (.ref d), .val (.ref e1), .val (.int 40)]) rfl ?_
                                                                                  refine goto_ C rs_leq_47_d29 (by decide) (pc' := 9) rfl ?_
                                                                                  refine iloadN C rs_leq_47_d9 (pc' := 10) rfl rfl ?_
                                                                                  refine aloadN C rs_leq_47_d10 (pc' := 11) rfl rfl rfl ?_
                                                                                  refine alen_ C A_d rs_leq_47_d11 (pc' := 12) rfl ?_
                                                                                  refine icmp_ge C 32 15 rs_leq_47_d12 (by decide) rfl rfl (fun q12 => ?_) (fun q12 => ?_)
                                                                                  · exact absurd q12 (by decide)
                                                                                  refine aloadN C rs_leq_47_d15 (pc' := 16) rfl rfl rfl ?_
                                                                                  refine iloadN C rs_leq_47_d16 (pc' := 17) rfl rfl ?_
                                                                                  refine ldB_ C (v := .int 32) A_d (by decide) rfl rs_leq_47_d17 (pc' := 18) rfl ?_
                                                                                  refine aloadN C rs_leq_47_d18 (pc' := 19) rfl rfl rfl ?_
                                                                                  refine iloadN C rs_leq_47_d19 (pc' := 20) rfl rfl ?_
                                                                                  refine ldB_ C (v := .int 32) A_e1 (by decide) rfl rs_leq_47_d20 (pc' := 21) rfl ?_
                                                                                  refine icmp_eq C 26 24 rs_leq_47_d21 (by decide) rfl rfl (fun q21 => ?_) (fun q21 => ?_)
                                                                                  · skip
                                                                                    refine iinc C rs_leq_47_d26 (pc' := 29) rfl rfl (Ls' := #[.val (.ref d), .val (.ref e1), .val (.int 41)]) rfl ?_
                                                                                    refine goto_ C rs_leq_47_d29 (by decide) (pc' := 9) rfl ?_
                                                                                    refine iloadN C rs_leq_47_d9 (pc' := 10) rfl rfl ?_
                                                                                    refine aloadN C rs_leq_47_d10 (pc' := 11) rfl rfl rfl ?_
                                                                                    refine alen_ C A_d rs_leq_47_d11 (pc' := 12) rfl ?_
                                                                                    refine icmp_ge C 32 15 rs_leq_47_d12 (by decide) rfl rfl (fun q12 => ?_) (fun q12 => ?_)
                                                                                    · exact absurd q12 (by decide)
                                                                                    refine aloadN C rs_leq_47_d15 (pc' := 16) rfl rfl rfl ?_
                                                                                    refine iloadN C rs_leq_47_d16 (pc' := 17) rfl rfl ?_
                                                                                    refine ldB_ C (v := .int 112) A_d (by decide) rfl rs_leq_47_d17 (pc' := 18) rfl ?_
                                                                                    refine aloadN C rs_leq_47_d18 (pc' := 19) rfl rfl rfl ?_
                                                                                    refine iloadN C rs_leq_47_d19 (pc' := 20) rfl rfl ?_
                                                                                    refine ldB_ C (v := .int 112) A_e1 (by decide) rfl rs_leq_47_d20 (pc' := 21) rfl ?_
                                                                                    refine icmp_eq C 26 24 rs_leq_47_d21 (by decide) rfl rfl (fun q21 => ?_) (fun q21 => ?_)
                                                                                    · skip
                                                                                      refine iinc C rs_leq_47_d26 (pc' := 29) rfl rfl (Ls' := #[.val (.ref d), .val (.ref e1), .val (.int 42)]) rfl ?_
                                                                                      refine goto_ C rs_leq_47_d29 (by decide) (pc' := 9) rfl ?_
                                                                                      refine iloadN C rs_leq_47_d9 (pc' := 10) rfl rfl ?_
                                                                                      refine aloadN C rs_leq_47_d10 (pc' := 11) rfl rfl rfl ?_
                                                                                      refine alen_ C A_d rs_leq_47_d11 (pc' := 12) rfl ?_
                                                                                      refine icmp_ge C 32 15 rs_leq_47_d12 (by decide) rfl rfl (fun q12 => ?_) (fun q12 => ?_)
                                                                                      · exact absurd q12 (by decide)
                                                                                      refine aloadN C rs_leq_47_d15 (pc' := 16) rfl rfl rfl ?_
                                                                                      refine iloadN C rs_leq_47_d16 (pc' := 17) rfl rfl ?_
                                                                                      refine ldB_ C (v := .int 108) A_d (by decide) rfl rs_leq_47_d17 (pc' := 18) rfl ?_
                                                                                      refine aloadN C rs_leq_47_d18 (pc' := 19) rfl rfl rfl ?_
                                                                                      refine iloadN C rs_leq_47_d19 (pc' := 20) rfl rfl ?_
                                                                                      refine ldB_ C (v := .int 108) A_e1 (by decide) rfl rs_leq_47_d20 (pc' := 21) rfl ?_
                                                                                      refine icmp_eq C 26 24 rs_leq_47_d21 (by decide) rfl rfl (fun q21 => ?_) (fun q21 => ?_)
                                                                                      · skip
                                                                                        refine iinc C rs_leq_47_d26 (pc' := 29) rfl rfl (Ls' := #[.val (.ref d), .val (.ref e1), .val (.int 43)]) rfl ?_
                                                                                        refine goto_ C rs_leq_47_d29 (by decide) (pc' := 9) rfl ?_
                                                                                        refine iloadN C rs_leq_47_d9 (pc' := 10) rfl rfl ?_
                                                                                        refine aloadN C rs_leq_47_d10 (pc' := 11) rfl rfl rfl ?_
                                                                                        refine alen_ C A_d rs_leq_47_d11 (pc' := 12) rfl ?_
                                                                                        refine icmp_ge C 32 15 rs_leq_47_d12 (by decide) rfl rfl (fun q12 => ?_) (fun q12 => ?_)
                                                                                        · exact absurd q12 (by decide)
                                                                                        refine aloadN C rs_leq_47_d15 (pc' := 16) rfl rfl rfl ?_
                                                                                        refine iloadN C rs_leq_47_d16 (pc' := 17) rfl rfl ?_
                                                                                        refine ldB_ C (v := .int 97) A_d (by decide) rfl rs_leq_47_d17 (pc' := 18) rfl ?_
                                                                                        refine aloadN C rs_leq_47_d18 (pc' := 19) rfl rfl rfl ?_
                                                                                        refine iloadN C rs_leq_47_d19 (pc' := 20) rfl rfl ?_
                                                                                        refine ldB_ C (v := .int 97) A_e1 (by decide) rfl rs_leq_47_d20 (pc' := 21) rfl ?_
                                                                                        refine icmp_eq C 26 24 rs_leq_47_d21 (by decide) rfl rfl (fun q21 => ?_) (fun q21 => ?_)
                                                                                        · skip
                                                                                          refine iinc C rs_leq_47_d26 (pc' := 29) rfl rfl (Ls' := #[.val (.ref d), .val (.ref e1), .val (.int 44)]) rfl ?_
                                                                                          refine goto_ C rs_leq_47_d29 (by decide) (pc' := 9) rfl ?_
                                                                                          refine iloadN C rs_leq_47_d9 (pc' := 10) rfl rfl ?_
                                                                                          refine aloadN C rs_leq_47_d10 (pc' := 11) rfl rfl rfl ?_
                                                                                          refine alen_ C A_d rs_leq_47_d11 (pc' := 12) rfl ?_
                                                                                          refine icmp_ge C 32 15 rs_leq_47_d12 (by decide) rfl rfl (fun q12 => ?_) (fun q12 => ?_)
                                                                                          · exact absurd q12 (by decide)
                                                                                          refine aloadN C rs_leq_47_d15 (pc' := 16) rfl rfl rfl ?_
                                                                                          refine iloadN C rs_leq_47_d16 (pc' := 17) rfl rfl ?_
                                                                                          refine ldB_ C (v := .int 99) A_d (by decide) rfl rs_leq_47_d17 (pc' := 18) rfl ?_
                                                                                          refine aloadN C rs_leq_47_d18 (pc' := 19) rfl rfl rfl ?_
                                                                                          refine iloadN C rs_leq_47_d19 (pc' := 20) rfl rfl ?_
                                                                                          refine ldB_ C (v := .int 99) A_e1 (by decide) rfl rs_leq_47_d20 (pc' := 21) rfl ?_
                                                                                          refine icmp_eq C 26 24 rs_leq_47_d21 (by decide) rfl rfl (fun q21 => ?_) (fun q21 => ?_)
                                                                                          · skip
                                                                                            refine iinc C rs_leq_47_d26 (pc' := 29) rfl rfl (Ls' := #[.val (.ref d), .val (.ref e1), .val (.int 45)]) rfl ?_
                                                                                            refine goto_ C rs_leq_47_d29 (by decide) (pc' := 9) rfl ?_
                                                                                            refine iloadN C rs_leq_47_d9 (pc' := 10) rfl rfl ?_
                                                                                            refine aloadN C rs_leq_47_d10 (pc' := 11) rfl rfl rfl ?_
                                                                                            refine alen_ C A_d rs_leq_47_d11 (pc' := 12) rfl ?_
                                                                                            refine icmp_ge C 32 15 rs_leq_47_d12 (by decide) rfl rfl (fun q12 => ?_) (fun q12 => ?_)
                                                                                            · exact absurd q12 (by decide)
                                                                                            refine aloadN C rs_leq_47_d15 (pc' := 16) rfl rfl rfl ?_
                                                                                            refine iloadN C rs_leq_47_d16 (pc' := 17) rfl rfl ?_
                                                                                            refine ldB_ C (v := .int 101) A_d (by decide) rfl rs_leq_47_d17 (pc' := 18) rfl ?_
                                                                                            refine aloadN C rs_leq_47_d18 (pc' := 19) rfl rfl rfl ?_
                                                                                            refine iloadN C rs_leq_47_d19 (pc' := 20) rfl rfl ?_
                                                                                            refine ldB_ C (v := .int 101) A_e1 (by decide) rfl rs_leq_47_d20 (pc' := 21) rfl ?_
                                                                                            refine icmp_eq C 26 24 rs_leq_47_d21 (by decide) rfl rfl (fun q21 => ?_) (fun q21 => ?_)
                                                                                            · skip
                                                                                              refine iinc C rs_leq_47_d26 (pc' := 29) rfl rfl (Ls' := #[.val (.ref d), .val (.ref e1), .val (.int 46)]) rfl ?_
                                                                                              refine goto_ C rs_leq_47_d29 (by decide) (pc' := 9) rfl ?_
                                                                                              refine iloadN C rs_leq_47_d9 (pc' := 10) rfl rfl ?_
                                                                                              refine aloadN C rs_leq_47_d10 (pc' := 11) rfl rfl rfl ?_
                                                                                              refine alen_ C A_d rs_leq_47_d11 (pc' := 12) rfl ?_
                                                                                              refine icmp_ge C 32 15 rs_leq_47_d12 (by decide) rfl rfl (fun q12 => ?_) (fun q12 => ?_)
                                                                                              · exact absurd q12 (by decide)
                                                                                              refine aloadN C rs_leq_47_d15 (pc' := 16) rfl rfl rfl ?_
                                                                                              refine iloadN C rs_leq_47_d16 (pc' := 17) rfl rfl ?_
                                                                                              refine ldB_ C (v := .int 115) A_d (by decide) rfl rs_leq_47_d17 (pc' := 18) rfl ?_
                                                                                              refine aloadN C rs_leq_47_d18 (pc' := 19) rfl rfl rfl ?_
                                                                                              refine iloadN C rs_leq_47_d19 (pc' := 20) rfl rfl ?_
                                                                                              refine ldB_ C (v := .int 115) A_e1 (by decide) rfl rs_leq_47_d20 (pc' := 21) rfl ?_
                                                                                              refine icmp_eq C 26 24 rs_leq_47_d21 (by decide) rfl rfl (fun q21 => ?_) (fun q21 => ?_)
                                                                                              · skip
                                                                                                refine iinc C rs_leq_47_d26 (pc' := 29) rfl rfl (Ls' := #[.val (.ref d), .val (.ref e1), .val (.int 47)]) rfl ?_
                                                                                                refine goto_ C rs_leq_47_d29 (by decide) (pc' := 9) rfl ?_
                                                                                                refine iloadN C rs_leq_47_d9 (pc' := 10) rfl rfl ?_
                                                                                                refine aloadN C rs_leq_47_d10 (pc' := 11) rfl rfl rfl ?_
                                                                                                refine alen_ C A_d rs_leq_47_d11 (pc' := 12) rfl ?_
                                                                                                refine icmp_ge C 32 15 rs_leq_47_d12 (by decide) rfl rfl (fun q12 => ?_) (fun q12 => ?_)
                                                                                                · skip
                                                                                                  refine iconst C rs_leq_47_d32 (pc' := 33) rfl (v := 1) rfl ?_
                                                                                                  exact ret_Z C rs_leq_47_d33 rfl (by decide) (by decide) (by decide) ⟨rfl, rfl, rfl⟩
                                                                                                · exact absurd q12 (by decide)
                                                                                              · exact absurd q21 (by decide)
                                                                                            · exact absurd q21 (by decide)
                                                                                          · exact absurd q21 (by decide)
                                                                                        · exact absurd q21 (by decide)
                                                                                      · exact absurd q21 (by decide)
                                                                                    · exact absurd q21 (by decide)
                                                                                  · exact absurd q21 (by decide)
                                                                                · exact absurd q21 (by decide)
                                                                              · exact absurd q21 (by decide)
                                                                            · exact absurd q21 (by decide)
                                                                          · exact absurd q21 (by decide)
                                                                        · exact absurd q21 (by decide)
                                                                      · exact absurd q21 (by decide)
                                                                    · exact absurd q21 (by decide)
                                                                  · exact absurd q21 (by decide)
                                                                · exact absurd q21 (by decide)
                                                              · exact absurd q21 (by decide)
                                                            · exact absurd q21 (by decide)
                                                          · exact absurd q21 (by decide)
                                                        · exact absurd q21 (by decide)
                                                      · exact absurd q21 (by decide)
                                                    · exact absurd q21 (by decide)
                                                  · exact absurd q21 (by decide)
                                                · exact absurd q21 (by decide)
                                              · exact absurd q21 (by decide)
                                            · exact absurd q21 (by decide)
                                          · exact absurd q21 (by decide)
                                        · exact absurd q21 (by decide)
                                      · exact absurd q21 (by decide)
                                    · exact absurd q21 (by decide)
                                  · exact absurd q21 (by decide)
                                · exact absurd q21 (by decide)
                              · exact absurd q21 (by decide)
                            · exact absurd q21 (by decide)
                          · exact absurd q21 (by decide)
                        · exact absurd q21 (by decide)
                      · exact absurd q21 (by decide)
                    · exact absurd q21 (by decide)
                  · exact absurd q21 (by decide)
                · exact absurd q21 (by decide)
              · exact absurd q21 (by decide)
            · exact absurd q21 (by decide)
          · exact absurd q21 (by decide)
        · exact absurd q21 (by decide)
      · exact absurd q21 (by decide)
    · exact absurd q21 (by decide)
  · exact absurd q21 (by decide)
theorem rs_equals_47_d0 : decode jdk_42_method_66_code 0 = .ok (.aload_n 0, 1) := by decide +kernel
theorem rs_equals_47_d1 : decode jdk_42_method_66_code 1 = .ok (.aload_n 1, 1) := by decide +kernel
theorem rs_equals_47_d2 : decode jdk_42_method_66_code 2 = .ok (.if_acmp .ne 5, 3) := by decide +kernel
theorem rs_equals_47_d5 : decode jdk_42_method_66_code 5 = .ok (.iconst 1, 1) := by decide +kernel
theorem rs_equals_47_d6 : decode jdk_42_method_66_code 6 = .ok (.ireturn, 1) := by decide +kernel
theorem rs_equals_47_d7 : decode jdk_42_method_66_code 7 = .ok (.aload_n 1, 1) := by decide +kernel
theorem rs_equals_47_d8 : decode jdk_42_method_66_code 8 = .ok (.instanceof 10, 3) := by decide +kernel
theorem rs_equals_47_d11 : decode jdk_42_method_66_code 11 = .ok (.ifCond .eq 43, 3) := by decide +kernel
theorem rs_equals_47_d14 : decode jdk_42_method_66_code 14 = .ok (.aload_n 1, 1) := by decide +kernel
theorem rs_equals_47_d15 : decode jdk_42_method_66_code 15 = .ok (.checkcast 10, 3) := by decide +kernel
theorem rs_equals_47_d18 : decode jdk_42_method_66_code 18 = .ok (.astore_n 2, 1) := by decide +kernel
theorem rs_equals_47_d19 : decode jdk_42_method_66_code 19 = .ok (.getstatic 38, 3) := by decide +kernel
theorem rs_equals_47_d22 : decode jdk_42_method_66_code 22 = .ok (.ifCond .eq 14, 3) := by decide +kernel
theorem rs_equals_47_d25 : decode jdk_42_method_66_code 25 = .ok (.aload_n 0, 1) := by decide +kernel
theorem rs_equals_47_d26 : decode jdk_42_method_66_code 26 = .ok (.getfield 15, 3) := by decide +kernel
theorem rs_equals_47_d29 : decode jdk_42_method_66_code 29 = .ok (.aload_n 2, 1) := by decide +kernel
theorem rs_equals_47_d30 : decode jdk_42_method_66_code 30 = .ok (.getfield 15, 3) := by decide +kernel
theorem rs_equals_47_d33 : decode jdk_42_method_66_code 33 = .ok (.if_icmp .ne 21, 3) := by decide +kernel
theorem rs_equals_47_d36 : decode jdk_42_method_66_code 36 = .ok (.aload_n 0, 1) := by decide +kernel
theorem rs_equals_47_d37 : decode jdk_42_method_66_code 37 = .ok (.getfield 9, 3) := by decide +kernel
theorem rs_equals_47_d40 : decode jdk_42_method_66_code 40 = .ok (.aload_n 2, 1) := by decide +kernel
theorem rs_equals_47_d41 : decode jdk_42_method_66_code 41 = .ok (.getfield 9, 3) := by decide +kernel
theorem rs_equals_47_d44 : decode jdk_42_method_66_code 44 = .ok (.invokestatic 541, 3) := by decide +kernel
theorem rs_equals_47_d47 : decode jdk_42_method_66_code 47 = .ok (.ifCond .eq 7, 3) := by decide +kernel
theorem rs_equals_47_d50 : decode jdk_42_method_66_code 50 = .ok (.iconst 1, 1) := by decide +kernel
theorem rs_equals_47_d51 : decode jdk_42_method_66_code 51 = .ok (.goto 4, 3) := by decide +kernel
theorem rs_equals_47_d55 : decode jdk_42_method_66_code 55 = .ok (.ireturn, 1) := by decide +kernel
set_option maxRecDepth 65536 in
set_option maxHeartbeats 40000000 in
theorem rs_equals_47 (l : Launch) (Z : State) (a0 : Array Value) (hw : ∀ d ∈ tables_1, d.before a0 Z = true) (cs : Int32) (Sc : Sta Z Z.heap "java/lang/String" "COMPACT_STRINGS" "Z" (.int cs)) (hcs : ¬ cs = 0) (a : Addr) (b : Addr) (d : Addr) (k_d : ClassId) (e1 : Addr) (k_e1 : ClassId) (h0 : Heap) (O : Old Z Z.heap.size h0) (X_a : Exa Z h0 a "java/lang/String") (F_a_value : Fld Z h0 a "java/lang/String" "value" "[B" (.ref d)) (F_a_coder : Fld Z h0 a "java/lang/String" "coder" "B" (.int 0)) (X_b : Exa Z h0 b "java/lang/String") (F_b_value : Fld Z h0 b "java/lang/String" "value" "[B" (.ref e1)) (F_b_coder : Fld Z h0 b "java/lang/String" "coder" "B" (.int 0)) (A_d : Arv Z h0 d k_d .byte 47 V12 (.int 0)) (A_e1 : Arv Z h0 e1 k_e1 .byte 47 V12 (.int 0)) :
    Met0 l Z (⟨"java/lang/String", "equals", "(Ljava/lang/Object;)Z"⟩ : MethodName) [] jdk_42_method_66_code 3 (some .boolean) ({ frames := 1, cells := 0, slots := 0, locals := 14 } : Room) #[(.ref a), (.ref b)] h0 (fun v h L => v = some (.int 1) ∧ h0 = h ∧ L = []) := by
  have N := Fr.nil Z.heap.size
  have P := Keep.refl h0 []
  refine Met0.of_walk (plainFor_of_name pn_java_lang_String) (Ls := #[.val (.ref a), .val (.ref b), .unset]) (fun m => by first | rfl | (simp [entryFrame, mkF, argsToLocals, Value.category]; done)) ?_
  intro p e s m below meth c C
  refine aloadN C rs_equals_47_d0 (pc' := 1) rfl rfl rfl ?_
  refine aloadN C rs_equals_47_d1 (pc' := 2) rfl rfl rfl ?_
  refine acmp_ne C 7 5 rs_equals_47_d2 (by decide) rfl rfl (fun q2 => ?_) (fun q2 => ?_)
  · skip
    refine aloadN C rs_equals_47_d7 (pc' := 8) rfl rfl rfl ?_
    refine instY_ C (hw _ (List.mem_of_getElem? (i := 187) rfl)) (Ins.self X_b) rs_equals_47_d8 (pc' := 11) rfl ?_
    refine if_eq C 54 14 rs_equals_47_d11 (by decide) rfl rfl (fun q11 => ?_) (fun q11 => ?_)
    · exact absurd q11 (by decide)
    refine aloadN C rs_equals_47_d14 (pc' := 15) rfl rfl rfl ?_
    refine castY_ C (hw _ (List.mem_of_getElem? (i := 187) rfl)) (Ins.self X_b) rs_equals_47_d15 (pc' := 18) rfl ?_
    refine astoreN C rs_equals_47_d18 (pc' := 19) rfl rfl (Ls' := #[.val (.ref a), .val (.ref b), .val (.ref b)]) rfl ?_
    refine getS_ C (hw _ (List.mem_of_getElem? (i := 73) rfl)) (Sc.ext O.2) rs_equals_47_d19 (pc' := 22) rfl ?_
    refine if_eq C 36 25 rs_equals_47_d22 (by decide) rfl rfl (fun q22 => ?_) (fun q22 => ?_)
    · exact absurd q22 hcs
    refine aloadN C rs_equals_47_d25 (pc' := 26) rfl rfl rfl ?_
    refine getF_ C (hw _ (List.mem_of_getElem? (i := 74) rfl)) Via.refl F_a_coder rs_equals_47_d26 (pc' := 29) rfl ?_
    refine aloadN C rs_equals_47_d29 (pc' := 30) rfl rfl rfl ?_
    refine getF_ C (hw _ (List.mem_of_getElem? (i := 74) rfl)) Via.refl F_b_coder rs_equals_47_d30 (pc' := 33) rfl ?_
    refine icmp_ne C 54 36 rs_equals_47_d33 (by decide) rfl rfl (fun q33 => ?_) (fun q33 => ?_)
    · exact absurd q33 (by decide)
    refine aloadN C rs_equals_47_d36 (pc' := 37) rfl rfl rfl ?_
    refine getF_ C (hw _ (List.mem_of_getElem? (i := 67) rfl)) Via.refl F_a_value rs_equals_47_d37 (pc' := 40) rfl ?_
    refine aloadN C rs_equals_47_d40 (pc' := 41) rfl rfl rfl ?_
    refine getF_ C (hw _ (List.mem_of_getElem? (i := 67) rfl)) Via.refl F_b_value rs_equals_47_d41 (pc' := 44) rfl ?_
    refine callS_ C (y := (⟨"java/lang/StringLatin1", "equals", "([B[B)Z"⟩ : MethodName)) (hw _ (List.mem_of_getElem? (i := 188) rfl)) (hw _ (List.mem_of_getElem? (i := 189) rfl)) (hw _ (List.mem_of_getElem? (i := 190) rfl)) (hw _ (List.mem_of_getElem? (i := 191) rfl)) (by decide) pd_19 [(.ref d), (.ref e1)] [] rfl rfl (W := 0) rfl (by decide) (by decide) (by decide) (by decide) (rs_leq_47 l Z a0 hw cs Sc hcs d k_d e1 k_e1 h0 O A_d A_e1) rfl rs_equals_47_d44 (pc' := 47) rfl ?_
    rintro _ _ _ ⟨rfl, rfl, rfl⟩
    show Wk p l e _ _ m _ below meth c _ _ _ _ _ _ (mkF m 47 #[.val (.ref a), .val (.ref b), .val (.ref b)] [(.int 1)])
    rw [List.append_nil]
    refine if_eq C 54 50 rs_equals_47_d47 (by decide) rfl rfl (fun q47 => ?_) (fun q47 => ?_)
    · exact absurd q47 (by decide)
    refine iconst C rs_equals_47_d50 (pc' := 51) rfl (v := 1) rfl ?_
    refine goto_ C rs_equals_47_d51 (by decide) (pc' := 55) rfl ?_
    exact ret_Z C rs_equals_47_d55 rfl (by decide) (by decide) (by decide) ⟨rfl, rfl, rfl⟩
  · skip
    refine iconst C rs_equals_47_d5 (pc' := 6) rfl (v := 1) rfl ?_
    exact ret_Z C rs_equals_47_d6 rfl (by decide) (by decide) (by decide) ⟨rfl, rfl, rfl⟩
theorem strAtoms {Z : State} {a0 : Array Value} (hw : ∀ d ∈ tables_1, d.before a0 Z = true) : ∀ a ∈ Bundle.stringAtoms, a.before a0 Z = true := by
  intro a ha
  simp only [Bundle.stringAtoms, List.mem_cons, List.not_mem_nil, or_false] at ha
  rcases ha with rfl | rfl | rfl | rfl | rfl | rfl | rfl
  · exact (hw _ (List.mem_of_getElem? (i := 10) rfl))
  · exact (hw _ (List.mem_of_getElem? (i := 11) rfl))
  · exact (hw _ (List.mem_of_getElem? (i := 12) rfl))
  · exact (hw _ (List.mem_of_getElem? (i := 13) rfl))
  · exact (hw _ (List.mem_of_getElem? (i := 14) rfl))
  · exact (hw _ (List.mem_of_getElem? (i := 15) rfl))
  · exact (hw _ (List.mem_of_getElem? (i := 16) rfl))
theorem ew {Z : State} {a0 : Array Value} (hw : ∀ d ∈ tables_1, d.before a0 Z = true) : EW Z a0 consts_1 := EW.cons (hw _ (List.mem_of_getElem? (i := 9) rfl)) (by decide +kernel) (EW.cons (hw _ (List.mem_of_getElem? (i := 51) rfl)) (by decide +kernel) (EW.cons (hw _ (List.mem_of_getElem? (i := 148) rfl)) (by decide +kernel) (EW.cons (hw _ (List.mem_of_getElem? (i := 186) rfl)) (by decide +kernel) (EW.cons (hw _ (List.mem_of_getElem? (i := 19) rfl)) (by decide +kernel) (EW.nil)))))
theorem pn_com_example_vestline_vestline_AllocationType : plainName "com/example/vestline/vestline/AllocationType" = true := by first | (simp [plainName, overriddenIn]; done) | decide +kernel
theorem rs_accepted_0_d0 : decode prog_3_method_7_code 0 = .ok (.ldc 64, 2) := by decide +kernel
theorem rs_accepted_0_d2 : decode prog_3_method_7_code 2 = .ok (.astore_n 1, 1) := by decide +kernel
theorem rs_accepted_0_d3 : decode prog_3_method_7_code 3 = .ok (.aload_n 0, 1) := by decide +kernel
theorem rs_accepted_0_d4 : decode prog_3_method_7_code 4 = .ok (.getfield 47, 3) := by decide +kernel
theorem rs_accepted_0_d7 : decode prog_3_method_7_code 7 = .ok (.ifCond .le 31, 3) := by decide +kernel
theorem rs_accepted_0_d38 : decode prog_3_method_7_code 38 = .ok (.aload_n 1, 1) := by decide +kernel
theorem rs_accepted_0_d39 : decode prog_3_method_7_code 39 = .ok (.areturn, 1) := by decide +kernel
set_option maxRecDepth 65536 in
set_option maxHeartbeats 40000000 in
theorem rs_accepted_0 (l : Launch) (Z : State) (a0 : Array Value) (hw : ∀ d ∈ tables_1, d.before a0 Z = true) (cs : Int32) (Sc : Sta Z Z.heap "java/lang/String" "COMPACT_STRINGS" "Z" (.int cs)) (hcs : ¬ cs = 0) (t : Addr) (h0 : Heap) (O : Old Z Z.heap.size h0) (X_t : Exa Z h0 t "com/example/vestline/vestline/AllocationType") (F_t_decimalPlaces : Fld Z h0 t "com/example/vestline/vestline/AllocationType" "decimalPlaces" "I" (.int 0)) :
    MetH l Z consts_1 (⟨"com/example/vestline/vestline/AllocationType", "acceptedQuantity", "()Ljava/lang/String;"⟩ : MethodName) [] prog_3_method_7_code 2 (some (.object "java/lang/String")) ({ frames := 0, cells := 2, slots := 100, locals := 0 } : Room) #[(.ref t)] h0 (fun v h L => ∃ (r : Addr), ∃ (r2 : Addr) (k_r2 : ClassId), v = some (.ref r) ∧ Fr Z.heap.size L ∧ Keep h0 h [] ∧ Exa Z h r "java/lang/String" ∧ Fld Z h r "java/lang/String" "value" "[B" (.ref r2) ∧ Fld Z h r "java/lang/String" "coder" "B" (.int 0) ∧ Arv Z h r2 k_r2 .byte 24 V14 (.int 0)) := by
  have N := Fr.nil Z.heap.size
  have P := Keep.refl h0 []
  have hEL := ew hw
  refine MetH.of_walk (plainFor_of_name pn_com_example_vestline_vestline_AllocationType) (Ls := #[.val (.ref t), .unset]) (fun m => by first | rfl | (simp [entryFrame, mkF, argsToLocals, Value.category]; done)) ?_
  intro p e s vm0 m below meth c C hS hA
  have hk := Nat.zero_le (Array.size h0)
  have lt67_t := X_t.lt
  refine ldcH_ C hS hk hEL (List.mem_of_getElem? (i := 0) rfl) hA.1 (vs := V14) (z := 24) ⟨by decide +kernel, by decide +kernel⟩ (by decide) (by decide) (hw _ (List.mem_of_getElem? (i := 9) rfl)) (strAtoms hw) rs_accepted_0_d0 (pc' := 2) rfl (n := 96) (by decide +kernel) (by decide) (by decide) (by decide) ?_
  intro vm67 kk67 b67 d67_ k_d67_ h67 C hS hk E67 hR67 X67_b67 F67_b67_coder F67_b67_value A67_d67_ hsf67
  replace hA := hA.trans hR67
  have O67 := O.ext E67
  have X67_t := X_t.ext E67
  have F67_t_decimalPlaces := F_t_decimalPlaces.ext E67
  have P67 := P.ext E67
  have sn67_t := hsf67 _ (Safe.exa (show Z.vm.Alike _ from C.2.2.2.2.2.1.alike) X67_t (by decide) (by decide))
  have ne67_t_b67 := sn67_t.1
  have ne67_t_d67_ := sn67_t.2
  refine astoreN C rs_accepted_0_d2 (pc' := 3) rfl rfl (Ls' := #[.val (.ref t), .val (.ref b67)]) rfl ?_
  refine aloadN C rs_accepted_0_d3 (pc' := 4) rfl rfl rfl ?_
  refine getF_ C (hw _ (List.mem_of_getElem? (i := 17) rfl)) Via.refl F67_t_decimalPlaces rs_accepted_0_d4 (pc' := 7) rfl ?_
  refine if_le C 38 10 rs_accepted_0_d7 (by decide) rfl rfl (fun q7 => ?_) (fun q7 => ?_)
  · skip
    refine aloadN C rs_accepted_0_d38 (pc' := 39) rfl rfl rfl ?_
    exact ret_A C rs_accepted_0_d39 rfl rfl rfl rfl (by decide) (by decide) ⟨b67, d67_, k_d67_, rfl, N, P67, X67_b67, F67_b67_value, F67_b67_coder, A67_d67_⟩ (gh_end (a0 := a0) C.2.2.2.2.2.1 hEL hk hA)
  · exact absurd q7 (by decide)
theorem pd_20 : parseMethodDescriptor "()V" = some ⟨[], none⟩ := by decide +kernel
theorem pd_21 : parseMethodDescriptor "(Ljava/lang/String;)Ljava/lang/StringBuilder;" = some ⟨[(.object "java/lang/String")], some (.object "java/lang/StringBuilder")⟩ := by decide +kernel
theorem pd_22 : parseMethodDescriptor "(I)Ljava/lang/StringBuilder;" = some ⟨[.int], some (.object "java/lang/StringBuilder")⟩ := by decide +kernel
theorem pd_23 : parseMethodDescriptor "()Ljava/lang/String;" = some ⟨[], some (.object "java/lang/String")⟩ := by decide +kernel
theorem rs_accepted_10_d0 : decode prog_3_method_7_code 0 = .ok (.ldc 64, 2) := by decide +kernel
theorem rs_accepted_10_d2 : decode prog_3_method_7_code 2 = .ok (.astore_n 1, 1) := by decide +kernel
theorem rs_accepted_10_d3 : decode prog_3_method_7_code 3 = .ok (.aload_n 0, 1) := by decide +kernel
theorem rs_accepted_10_d4 : decode prog_3_method_7_code 4 = .ok (.getfield 47, 3) := by decide +kernel
theorem rs_accepted_10_d7 : decode prog_3_method_7_code 7 = .ok (.ifCond .le 31, 3) := by decide +kernel
theorem rs_accepted_10_d10 : decode prog_3_method_7_code 10 = .ok (.new 66, 3) := by decide +kernel
theorem rs_accepted_10_d13 : decode prog_3_method_7_code 13 = .ok (.dup, 1) := by decide +kernel
theorem rs_accepted_10_d14 : decode prog_3_method_7_code 14 = .ok (.invokespecial 68, 3) := by decide +kernel
theorem rs_accepted_10_d17 : decode prog_3_method_7_code 17 = .ok (.ldc 71, 2) := by decide +kernel
theorem rs_accepted_10_d19 : decode prog_3_method_7_code 19 = .ok (.invokevirtual 73, 3) := by decide +kernel
theorem rs_accepted_10_d22 : decode prog_3_method_7_code 22 = .ok (.aload_n 0, 1) := by decide +kernel
theorem rs_accepted_10_d23 : decode prog_3_method_7_code 23 = .ok (.getfield 47, 3) := by decide +kernel
theorem rs_accepted_10_d26 : decode prog_3_method_7_code 26 = .ok (.invokevirtual 77, 3) := by decide +kernel
theorem rs_accepted_10_d29 : decode prog_3_method_7_code 29 = .ok (.ldc 80, 2) := by decide +kernel
theorem rs_accepted_10_d31 : decode prog_3_method_7_code 31 = .ok (.invokevirtual 73, 3) := by decide +kernel
theorem rs_accepted_10_d34 : decode prog_3_method_7_code 34 = .ok (.invokevirtual 82, 3) := by decide +kernel
theorem rs_accepted_10_d37 : decode prog_3_method_7_code 37 = .ok (.astore_n 1, 1) := by decide +kernel
theorem rs_accepted_10_d38 : decode prog_3_method_7_code 38 = .ok (.aload_n 1, 1) := by decide +kernel
theorem rs_accepted_10_d39 : decode prog_3_method_7_code 39 = .ok (.areturn, 1) := by decide +kernel
set_option maxRecDepth 65536 in
set_option maxHeartbeats 40000000 in
theorem rs_accepted_10 (l : Launch) (Z : State) (a0 : Array Value) (hw : ∀ d ∈ tables_1, d.before a0 Z = true) (cs : Int32) (Sc : Sta Z Z.heap "java/lang/String" "COMPACT_STRINGS" "Z" (.int cs)) (hcs : ¬ cs = 0) (t : Addr) (d1 : Addr) (k_d1 : ClassId) (d2 : Addr) (k_d2 : ClassId) (h0 : Heap) (O : Old Z Z.heap.size h0) (X_t : Exa Z h0 t "com/example/vestline/vestline/AllocationType") (F_t_decimalPlaces : Fld Z h0 t "com/example/vestline/vestline/AllocationType" "decimalPlaces" "I" (.int 10)) (A_d1 : Arv Z h0 d1 k_d1 .byte 100 V9 (.int 0)) (A_d2 : Arv Z h0 d2 k_d2 .byte 100 V10 (.int 0)) (S_d1 : Sta Z Z.heap "java/lang/Integer" "DigitOnes" "[B" (.ref d1)) (S_d2 : Sta Z Z.heap "java/lang/Integer" "DigitTens" "[B" (.ref d2)) :
    MetH l Z consts_1 (⟨"com/example/vestline/vestline/AllocationType", "acceptedQuantity", "()Ljava/lang/String;"⟩ : MethodName) [] prog_3_method_7_code 2 (some (.object "java/lang/String")) ({ frames := 6, cells := 12, slots := 463, locals := 91 } : Room) #[(.ref t)] h0 (fun v h L => ∃ (r : Addr), ∃ (r2 : Addr) (k_r2 : ClassId), v = some (.ref r) ∧ Fr Z.heap.size L ∧ Keep h0 h [] ∧ Exa Z h r "java/lang/String" ∧ Fld Z h r "java/lang/String" "value" "[B" (.ref r2) ∧ Fld Z h r "java/lang/String" "coder" "B" (.int 0) ∧ Arv Z h r2 k_r2 .byte 47 V12 (.int 0)) := by
  have N := Fr.nil Z.heap.size
  have P := Keep.refl h0 []
  have hEL := ew hw
  refine MetH.of_walk (plainFor_of_name pn_com_example_vestline_vestline_AllocationType) (Ls := #[.val (.ref t), .unset]) (fun m => by first | rfl | (simp [entryFrame, mkF, argsToLocals, Value.category]; done)) ?_
  intro p e s vm0 m below meth c C hS hA
  have hk := Nat.zero_le (Array.size h0)
  have lt68_t := X_t.lt
  have lt68_d1 := A_d1.lt
  have lt68_d2 := A_d2.lt
  refine ldcH_ C hS hk hEL (List.mem_of_getElem? (i := 0) rfl) hA.1 (vs := V14) (z := 24) ⟨by decide +kernel, by decide +kernel⟩ (by decide) (by decide) (hw _ (List.mem_of_getElem? (i := 9) rfl)) (strAtoms hw) rs_accepted_10_d0 (pc' := 2) rfl (n := 96) (by decide +kernel) (by decide) (by decide) (by decide) ?_
  intro vm68 kk68 b68 d68_ k_d68_ h68 C hS hk E68 hR68 X68_b68 F68_b68_coder F68_b68_value A68_d68_ hsf68
  replace hA := hA.trans hR68
  have O68 := O.ext E68
  have X68_t := X_t.ext E68
  have F68_t_decimalPlaces := F_t_decimalPlaces.ext E68
  have A68_d1 := A_d1.ext E68
  have A68_d2 := A_d2.ext E68
  have P68 := P.ext E68
  have sn68_t := hsf68 _ (Safe.exa (show Z.vm.Alike _ from C.2.2.2.2.2.1.alike) X68_t (by decide) (by decide))
  have ne68_t_b68 := sn68_t.1
  have ne68_t_d68_ := sn68_t.2
  refine astoreN C rs_accepted_10_d2 (pc' := 3) rfl rfl (Ls' := #[.val (.ref t), .val (.ref b68)]) rfl ?_
  refine aloadN C rs_accepted_10_d3 (pc' := 4) rfl rfl rfl ?_
  refine getF_ C (hw _ (List.mem_of_getElem? (i := 17) rfl)) Via.refl F68_t_decimalPlaces rs_accepted_10_d4 (pc' := 7) rfl ?_
  refine if_le C 38 10 rs_accepted_10_d7 (by decide) rfl rfl (fun q7 => ?_) (fun q7 => ?_)
  · exact absurd q7 (by decide)
  have lt69_t := X68_t.lt
  have lt69_b68 := X68_b68.lt
  have lt69_d1 := A68_d1.lt
  have lt69_d2 := A68_d2.lt
  have lt69_d68_ := A68_d68_.lt
  refine newO_ C (hw _ (List.mem_of_getElem? (i := 31) rfl)) (hw _ (List.mem_of_getElem? (i := 32) rfl)) (hw _ (List.mem_of_getElem? (i := 33) rfl)) rs_accepted_10_d10 (pc' := 13) rfl (by decide) (by decide) ?_
  intro h69 b69 g69 E69 X69_b69 D69
  have ge69_b69 : Z.heap.size ≤ b69 := by rw [g69]; exact O68.2.1
  have sz69_b69 : h0.size ≤ b69 := by rw [g69]; exact P68.1
  have ne69_t_b69 : t ≠ b69 := Nat.ne_of_lt (Nat.lt_of_lt_of_le lt69_t (Nat.le_of_eq g69.symm))
  have ne69_b68_b69 : b68 ≠ b69 := Nat.ne_of_lt (Nat.lt_of_lt_of_le lt69_b68 (Nat.le_of_eq g69.symm))
  have ne69_d1_b69 : d1 ≠ b69 := Nat.ne_of_lt (Nat.lt_of_lt_of_le lt69_d1 (Nat.le_of_eq g69.symm))
  have ne69_d2_b69 : d2 ≠ b69 := Nat.ne_of_lt (Nat.lt_of_lt_of_le lt69_d2 (Nat.le_of_eq g69.symm))
  have ne69_d68__b69 : d68_ ≠ b69 := Nat.ne_of_lt (Nat.lt_of_lt_of_le lt69_d68_ (Nat.le_of_eq g69.symm))
  replace hk := Nat.le_trans hk E69.1
  replace hA := hA.trans (CHr.ext E69 hA.1)
  have F69_b69_value : Fld Z h69 b69 "java/lang/AbstractStringBuilder" "value" "[B" .null := D69 (Or.inl (hw _ (List.mem_of_getElem? (i := 48) rfl))) (ty := (.array .byte)) (by decide)
  have F69_b69_coder : Fld Z h69 b69 "java/lang/AbstractStringBuilder" "coder" "B" (.int 0) := D69 (Or.inl (hw _ (List.mem_of_getElem? (i := 50) rfl))) (ty := .byte) (by decide)
  have F69_b69_count : Fld Z h69 b69 "java/lang/AbstractStringBuilder" "count" "I" (.int 0) := D69 (Or.inl (hw _ (List.mem_of_getElem? (i := 76) rfl))) (ty := .int) (by decide)
  have O69 := O68.ext E69
  have X69_t := X68_t.ext E69
  have F69_t_decimalPlaces := F68_t_decimalPlaces.ext E69
  have X69_b68 := X68_b68.ext E69
  have F69_b68_value := F68_b68_value.ext E69
  have F69_b68_coder := F68_b68_coder.ext E69
  have A69_d1 := A68_d1.ext E69
  have A69_d2 := A68_d2.ext E69
  have A69_d68_ := A68_d68_.ext E69
  have P69 := P68.ext E69
  refine dup C rs_accepted_10_d13 (pc' := 14) rfl rfl ?_
  have lt70_t := X69_t.lt
  have lt70_b68 := X69_b68.lt
  have lt70_b69 := X69_b69.lt
  have lt70_d1 := A69_d1.lt
  have lt70_d2 := A69_d2.lt
  have lt70_d68_ := A69_d68_.lt
  refine callC_ C (y := (⟨"java/lang/StringBuilder", "<init>", "()V"⟩ : MethodName)) rfl (hw _ (List.mem_of_getElem? (i := 34) rfl)) (hw _ (List.mem_of_getElem? (i := 35) rfl)) (hw _ (List.mem_of_getElem? (i := 33) rfl)) (hw _ (List.mem_of_getElem? (i := 36) rfl)) (by decide) pd_20 [] [(.ref b69)] rfl rfl (W := 1) rfl (by decide) (by decide) (by decide) (by decide) (rs_init_sb l Z a0 hw cs Sc hcs b69 h69 O69 X69_b69 F69_b69_value F69_b69_coder F69_b69_count ge69_b69) rfl rs_accepted_10_d14 (pc' := 17) rfl ?_
  rintro _ h70 L70 ⟨b70r, k_b70r, rfl, N70', K70, X70_b69, F70_b69_value, F70_b69_coder, F70_b69_count, z70_b70r, A70_b70r⟩
  have N70 := Fr.app N N70'
  have O70 := O69.keep K70 (allS ge69_b69 all0)
  have P70 := P69.trans K70 (allS (Or.inr sz69_b69) all0)
  have hs70 : ∀ x ∈ ([b69] : List Addr), Safe Z consts_1 vm68 h69 x := (sfS (Safe.exa (show Z.vm.Alike _ from C.2.2.2.2.2.1.alike) X69_b69 (by decide) (by decide)) sf0)
  have sf70_b70r := Safe.keep K70 hs70 hA.1 (Safe.new z70_b70r)
  replace hk := Nat.le_trans hk K70.1
  replace hA := hA.trans (CHr.keep K70 hs70 hA.1)
  have X70_t := X69_t.keep K70
  have F70_t_decimalPlaces := F69_t_decimalPlaces.keep K70 (ninS ne69_t_b69 (nin0))
  have X70_b68 := X69_b68.keep K70
  have F70_b68_value := F69_b68_value.keep K70 (ninS ne69_b68_b69 (nin0))
  have F70_b68_coder := F69_b68_coder.keep K70 (ninS ne69_b68_b69 (nin0))
  have A70_d1 := A69_d1.keep K70 (ninS ne69_d1_b69 (nin0))
  have A70_d2 := A69_d2.keep K70 (ninS ne69_d2_b69 (nin0))
  have A70_d68_ := A69_d68_.keep K70 (ninS ne69_d68__b69 (nin0))
  have ge70_b70r : Z.heap.size ≤ b70r := Nat.le_trans O69.2.1 z70_b70r
  have sz70_b70r : h0.size ≤ b70r := Nat.le_trans P69.1 z70_b70r
  have ne70_t_b70r : t ≠ b70r := Nat.ne_of_lt (Nat.lt_of_lt_of_le lt70_t z70_b70r)
  have ne70_b68_b70r : b68 ≠ b70r := Nat.ne_of_lt (Nat.lt_of_lt_of_le lt70_b68 z70_b70r)
  have ne70_b69_b70r : b69 ≠ b70r := Nat.ne_of_lt (Nat.lt_of_lt_of_le lt70_b69 z70_b70r)
  have ne70_d1_b70r : d1 ≠ b70r := Nat.ne_of_lt (Nat.lt_of_lt_of_le lt70_d1 z70_b70r)
  have ne70_d2_b70r : d2 ≠ b70r := Nat.ne_of_lt (Nat.lt_of_lt_of_le lt70_d2 z70_b70r)
  have ne70_d68__b70r : d68_ ≠ b70r := Nat.ne_of_lt (Nat.lt_of_lt_of_le lt70_d68_ z70_b70r)
  show Wk p l e _ _ m _ below meth c _ _ _ _ _ _ (mkF m 17 #[.val (.ref t), .val (.ref b68)] [(.ref b69)])
  have lt71_t := X70_t.lt
  have lt71_b68 := X70_b68.lt
  have lt71_b69 := X70_b69.lt
  have lt71_d1 := A70_d1.lt
  have lt71_d2 := A70_d2.lt
  have lt71_d68_ := A70_d68_.lt
  have lt71_b70r := A70_b70r.lt
  refine ldcH_ C hS hk hEL (List.mem_of_getElem? (i := 1) rfl) hA.1 (vs := V0) (z := 30) ⟨by decide +kernel, by decide +kernel⟩ (by decide) (by decide) (hw _ (List.mem_of_getElem? (i := 51) rfl)) (strAtoms hw) rs_accepted_10_d17 (pc' := 19) rfl (n := 120) (by decide +kernel) (by decide) (by decide) (by decide) ?_
  intro vm71 kk71 b71 d71_ k_d71_ h71 C hS hk E71 hR71 X71_b71 F71_b71_coder F71_b71_value A71_d71_ hsf71
  replace hA := hA.trans hR71
  have O71 := O70.ext E71
  have X71_t := X70_t.ext E71
  have F71_t_decimalPlaces := F70_t_decimalPlaces.ext E71
  have X71_b68 := X70_b68.ext E71
  have F71_b68_value := F70_b68_value.ext E71
  have F71_b68_coder := F70_b68_coder.ext E71
  have X71_b69 := X70_b69.ext E71
  have F71_b69_value := F70_b69_value.ext E71
  have F71_b69_coder := F70_b69_coder.ext E71
  have F71_b69_count := F70_b69_count.ext E71
  have A71_d1 := A70_d1.ext E71
  have A71_d2 := A70_d2.ext E71
  have A71_d68_ := A70_d68_.ext E71
  have A71_b70r := A70_b70r.ext E71
  have P71 := P70.ext E71
  have sn71_t := hsf71 _ (Safe.exa (show Z.vm.Alike _ from C.2.2.2.2.2.1.alike) X71_t (by decide) (by decide))
  have ne71_t_b71 := sn71_t.1
  have ne71_t_d71_ := sn71_t.2
  have sn71_b69 := hsf71 _ (Safe.exa (show Z.vm.Alike _ from C.2.2.2.2.2.1.alike) X71_b69 (by decide) (by decide))
  have ne71_b69_b71 := sn71_b69.1
  have ne71_b69_d71_ := sn71_b69.2
  have lt72_t := X71_t.lt
  have lt72_b68 := X71_b68.lt
  have lt72_b69 := X71_b69.lt
  have lt72_b71 := X71_b71.lt
  have lt72_d1 := A71_d1.lt
  have lt72_d2 := A71_d2.lt
  have lt72_d68_ := A71_d68_.lt
  have lt72_b70r := A71_b70r.lt
  have lt72_d71_ := A71_d71_.lt
  refine callV_ C (y := (⟨"java/lang/StringBuilder", "append", "(Ljava/lang/String;)Ljava/lang/StringBuilder;"⟩ : MethodName)) (z := (⟨"java/lang/StringBuilder", "append", "(Ljava/lang/String;)Ljava/lang/StringBuilder;"⟩ : MethodName)) (hw _ (List.mem_of_getElem? (i := 52) rfl)) (hw _ (List.mem_of_getElem? (i := 53) rfl)) (nf_sel (hw _ (List.mem_of_getElem? (i := 55) rfl))) (hw _ (List.mem_of_getElem? (i := 55) rfl)) (hw _ (List.mem_of_getElem? (i := 54) rfl)) (hw _ (List.mem_of_getElem? (i := 33) rfl)) (hw _ (List.mem_of_getElem? (i := 56) rfl)) (by decide) X71_b69 pd_21 [(.ref b71)] [] rfl rfl (W := 0) rfl (by decide) (by decide) (by decide) (by decide) (rs_appends_30 l Z a0 hw cs Sc hcs b69 b71 d71_ k_d71_ b70r k_b70r h71 O71 X71_b69 F71_b69_value F71_b69_coder F71_b69_count X71_b71 F71_b71_value F71_b71_coder A71_d71_ A71_b70r ge69_b69 ne71_b69_b71 ne71_b69_d71_ ne70_b69_b70r) rfl rs_accepted_10_d19 (pc' := 22) rfl ?_
  rintro _ h72 L72 ⟨b72r, k_b72r, rfl, N72', K72, X72_b69, F72_b69_value, F72_b69_coder, F72_b69_count, z72_b72r, A72_b72r⟩
  have N72 := Fr.app N70 N72'
  have O72 := O71.keep K72 (allS ge69_b69 all0)
  have P72 := P71.trans K72 (allS (Or.inr sz69_b69) all0)
  have hs72 : ∀ x ∈ ([b69] : List Addr), Safe Z consts_1 vm71 h71 x := (sfS (Safe.exa (show Z.vm.Alike _ from C.2.2.2.2.2.1.alike) X71_b69 (by decide) (by decide)) sf0)
  have sf72_b72r := Safe.keep K72 hs72 hA.1 (Safe.new z72_b72r)
  replace hk := Nat.le_trans hk K72.1
  replace hA := hA.trans (CHr.keep K72 hs72 hA.1)
  have X72_t := X71_t.keep K72
  have F72_t_decimalPlaces := F71_t_decimalPlaces.keep K72 (ninS ne69_t_b69 (nin0))
  have X72_b68 := X71_b68.keep K72
  have F72_b68_value := F71_b68_value.keep K72 (ninS ne69_b68_b69 (nin0))
  have F72_b68_coder := F71_b68_coder.keep K72 (ninS ne69_b68_b69 (nin0))
  have X72_b71 := X71_b71.keep K72
  have F72_b71_value := F71_b71_value.keep K72 (ninS (Ne.symm ne71_b69_b71) (nin0))
  have F72_b71_coder := F71_b71_coder.keep K72 (ninS (Ne.symm ne71_b69_b71) (nin0))
  have A72_d1 := A71_d1.keep K72 (ninS ne69_d1_b69 (nin0))
  have A72_d2 := A71_d2.keep K72 (ninS ne69_d2_b69 (nin0))
  have A72_d68_ := A71_d68_.keep K72 (ninS ne69_d68__b69 (nin0))
  have A72_b70r := A71_b70r.keep K72 (ninS (Ne.symm ne70_b69_b70r) (nin0))
  have A72_d71_ := A71_d71_.keep K72 (ninS (Ne.symm ne71_b69_d71_) (nin0))
  have ge72_b72r : Z.heap.size ≤ b72r := Nat.le_trans O71.2.1 z72_b72r
  have sz72_b72r : h0.size ≤ b72r := Nat.le_trans P71.1 z72_b72r
  have ne72_t_b72r : t ≠ b72r := Nat.ne_of_lt (Nat.lt_of_lt_of_le lt72_t z72_b72r)
  have ne72_b68_b72r : b68 ≠ b72r := Nat.ne_of_lt (Nat.lt_of_lt_of_le lt72_b68 z72_b72r)
  have ne72_b69_b72r : b69 ≠ b72r := Nat.ne_of_lt (Nat.lt_of_lt_of_le lt72_b69 z72_b72r)
  have ne72_b71_b72r : b71 ≠ b72r := Nat.ne_of_lt (Nat.lt_of_lt_of_le lt72_b71 z72_b72r)
  have ne72_d1_b72r : d1 ≠ b72r := Nat.ne_of_lt (Nat.lt_of_lt_of_le lt72_d1 z72_b72r)
  have ne72_d2_b72r : d2 ≠ b72r := Nat.ne_of_lt (Nat.lt_of_lt_of_le lt72_d2 z72_b72r)
  have ne72_d68__b72r : d68_ ≠ b72r := Nat.ne_of_lt (Nat.lt_of_lt_of_le lt72_d68_ z72_b72r)
  have ne72_b70r_b72r : b70r ≠ b72r := Nat.ne_of_lt (Nat.lt_of_lt_of_le lt72_b70r z72_b72r)
  have ne72_d71__b72r : d71_ ≠ b72r := Nat.ne_of_lt (Nat.lt_of_lt_of_le lt72_d71_ z72_b72r)
  show Wk p l e _ _ m _ below meth c _ _ _ _ _ _ (mkF m 22 #[.val (.ref t), .val (.ref b68)] [(.ref b69)])
  refine aloadN C rs_accepted_10_d22 (pc' := 23) rfl rfl rfl ?_
  refine getF_ C (hw _ (List.mem_of_getElem? (i := 17) rfl)) Via.refl F72_t_decimalPlaces rs_accepted_10_d23 (pc' := 26) rfl ?_
  have lt73_t := X72_t.lt
  have lt73_b68 := X72_b68.lt
  have lt73_b69 := X72_b69.lt
  have lt73_b71 := X72_b71.lt
  have lt73_d1 := A72_d1.lt
  have lt73_d2 := A72_d2.lt
  have lt73_d68_ := A72_d68_.lt
  have lt73_b70r := A72_b70r.lt
  have lt73_d71_ := A72_d71_.lt
  have lt73_b72r := A72_b72r.lt
  refine callV_ C (y := (⟨"java/lang/StringBuilder", "append", "(I)Ljava/lang/StringBuilder;"⟩ : MethodName)) (z := (⟨"java/lang/StringBuilder", "append", "(I)Ljava/lang/StringBuilder;"⟩ : MethodName)) (hw _ (List.mem_of_getElem? (i := 125) rfl)) (hw _ (List.mem_of_getElem? (i := 126) rfl)) (nf_sel (hw _ (List.mem_of_getElem? (i := 128) rfl))) (hw _ (List.mem_of_getElem? (i := 128) rfl)) (hw _ (List.mem_of_getElem? (i := 127) rfl)) (hw _ (List.mem_of_getElem? (i := 33) rfl)) (hw _ (List.mem_of_getElem? (i := 129) rfl)) (by decide) X72_b69 pd_22 [(.int 10)] [] rfl rfl (W := 0) rfl (by decide) (by decide) (by decide) (by decide) (rs_appends_I l Z a0 hw cs Sc hcs b69 b72r k_b72r d1 k_d1 d2 k_d2 h72 O72 X72_b69 F72_b69_value F72_b69_coder F72_b69_count A72_b72r A72_d1 A72_d2 ge69_b69 ge72_b72r ne72_b69_b72r (Ne.symm ne69_d1_b69) (Ne.symm ne69_d2_b69) (Ne.symm ne72_d1_b72r) (Ne.symm ne72_d2_b72r) S_d1 S_d2) rfl rs_accepted_10_d26 (pc' := 29) rfl ?_
  rintro _ h73 L73 ⟨rfl, N73', K73, X73_b69, F73_b69_value, F73_b69_coder, F73_b69_count, A73_b72r⟩
  have N73 := Fr.app N72 N73'
  have O73 := O72.keep K73 (allS ge69_b69 (allS ge72_b72r all0))
  have P73 := P72.trans K73 (allS (Or.inr sz69_b69) (allS (Or.inr sz72_b72r) all0))
  have hs73 : ∀ x ∈ ([b69, b72r] : List Addr), Safe Z consts_1 vm71 h72 x := (sfS (Safe.exa (show Z.vm.Alike _ from C.2.2.2.2.2.1.alike) X72_b69 (by decide) (by decide)) (sfS sf72_b72r sf0))
  replace hk := Nat.le_trans hk K73.1
  replace hA := hA.trans (CHr.keep K73 hs73 hA.1)
  have X73_t := X72_t.keep K73
  have F73_t_decimalPlaces := F72_t_decimalPlaces.keep K73 (ninS ne69_t_b69 (ninS ne72_t_b72r (nin0)))
  have X73_b68 := X72_b68.keep K73
  have F73_b68_value := F72_b68_value.keep K73 (ninS ne69_b68_b69 (ninS ne72_b68_b72r (nin0)))
  have F73_b68_coder := F72_b68_coder.keep K73 (ninS ne69_b68_b69 (ninS ne72_b68_b72r (nin0)))
  have X73_b71 := X72_b71.keep K73
  have F73_b71_value := F72_b71_value.keep K73 (ninS (Ne.symm ne71_b69_b71) (ninS ne72_b71_b72r (nin0)))
  have F73_b71_coder := F72_b71_coder.keep K73 (ninS (Ne.symm ne71_b69_b71) (ninS ne72_b71_b72r (nin0)))
  have A73_d1 := A72_d1.keep K73 (ninS ne69_d1_b69 (ninS ne72_d1_b72r (nin0)))
  have A73_d2 := A72_d2.keep K73 (ninS ne69_d2_b69 (ninS ne72_d2_b72r (nin0)))
  have A73_d68_ := A72_d68_.keep K73 (ninS ne69_d68__b69 (ninS ne72_d68__b72r (nin0)))
  have A73_b70r := A72_b70r.keep K73 (ninS (Ne.symm ne70_b69_b70r) (ninS ne72_b70r_b72r (nin0)))
  have A73_d71_ := A72_d71_.keep K73 (ninS (Ne.symm ne71_b69_d71_) (ninS ne72_d71__b72r (nin0)))
  show Wk p l e _ _ m _ below meth c _ _ _ _ _ _ (mkF m 29 #[.val (.ref t), .val (.ref b68)] [(.ref b69)])
  have lt74_t := X73_t.lt
  have lt74_b68 := X73_b68.lt
  have lt74_b69 := X73_b69.lt
  have lt74_b71 := X73_b71.lt
  have lt74_d1 := A73_d1.lt
  have lt74_d2 := A73_d2.lt
  have lt74_d68_ := A73_d68_.lt
  have lt74_b70r := A73_b70r.lt
  have lt74_d71_ := A73_d71_.lt
  have lt74_b72r := A73_b72r.lt
  refine ldcH_ C hS hk hEL (List.mem_of_getElem? (i := 2) rfl) hA.1 (vs := V1) (z := 15) ⟨by decide +kernel, by decide +kernel⟩ (by decide) (by decide) (hw _ (List.mem_of_getElem? (i := 148) rfl)) (strAtoms hw) rs_accepted_10_d29 (pc' := 31) rfl (n := 60) (by decide +kernel) (by decide) (by decide) (by decide) ?_
  intro vm74 kk74 b74 d74_ k_d74_ h74 C hS hk E74 hR74 X74_b74 F74_b74_coder F74_b74_value A74_d74_ hsf74
  replace hA := hA.trans hR74
  have O74 := O73.ext E74
  have X74_t := X73_t.ext E74
  have F74_t_decimalPlaces := F73_t_decimalPlaces.ext E74
  have X74_b68 := X73_b68.ext E74
  have F74_b68_value := F73_b68_value.ext E74
  have F74_b68_coder := F73_b68_coder.ext E74
  have X74_b69 := X73_b69.ext E74
  have F74_b69_value := F73_b69_value.ext E74
  have F74_b69_coder := F73_b69_coder.ext E74
  have F74_b69_count := F73_b69_count.ext E74
  have X74_b71 := X73_b71.ext E74
  have F74_b71_value := F73_b71_value.ext E74
  have F74_b71_coder := F73_b71_coder.ext E74
  have A74_d1 := A73_d1.ext E74
  have A74_d2 := A73_d2.ext E74
  have A74_d68_ := A73_d68_.ext E74
  have A74_b70r := A73_b70r.ext E74
  have A74_d71_ := A73_d71_.ext E74
  have A74_b72r := A73_b72r.ext E74
  have P74 := P73.ext E74
  have sn74_t := hsf74 _ (Safe.exa (show Z.vm.Alike _ from C.2.2.2.2.2.1.alike) X74_t (by decide) (by decide))
  have ne74_t_b74 := sn74_t.1
  have ne74_t_d74_ := sn74_t.2
  have sn74_b69 := hsf74 _ (Safe.exa (show Z.vm.Alike _ from C.2.2.2.2.2.1.alike) X74_b69 (by decide) (by decide))
  have ne74_b69_b74 := sn74_b69.1
  have ne74_b69_d74_ := sn74_b69.2
  have lt75_t := X74_t.lt
  have lt75_b68 := X74_b68.lt
  have lt75_b69 := X74_b69.lt
  have lt75_b71 := X74_b71.lt
  have lt75_b74 := X74_b74.lt
  have lt75_d1 := A74_d1.lt
  have lt75_d2 := A74_d2.lt
  have lt75_d68_ := A74_d68_.lt
  have lt75_b70r := A74_b70r.lt
  have lt75_d71_ := A74_d71_.lt
  have lt75_b72r := A74_b72r.lt
  have lt75_d74_ := A74_d74_.lt
  refine callV_ C (y := (⟨"java/lang/StringBuilder", "append", "(Ljava/lang/String;)Ljava/lang/StringBuilder;"⟩ : MethodName)) (z := (⟨"java/lang/StringBuilder", "append", "(Ljava/lang/String;)Ljava/lang/StringBuilder;"⟩ : MethodName)) (hw _ (List.mem_of_getElem? (i := 52) rfl)) (hw _ (List.mem_of_getElem? (i := 53) rfl)) (nf_sel (hw _ (List.mem_of_getElem? (i := 55) rfl))) (hw _ (List.mem_of_getElem? (i := 55) rfl)) (hw _ (List.mem_of_getElem? (i := 54) rfl)) (hw _ (List.mem_of_getElem? (i := 33) rfl)) (hw _ (List.mem_of_getElem? (i := 56) rfl)) (by decide) X74_b69 pd_21 [(.ref b74)] [] rfl rfl (W := 0) rfl (by decide) (by decide) (by decide) (by decide) (rs_appends_15 l Z a0 hw cs Sc hcs b69 b74 d74_ k_d74_ b72r k_b72r h74 O74 X74_b69 F74_b69_value F74_b69_coder F74_b69_count X74_b74 F74_b74_value F74_b74_coder A74_d74_ A74_b72r ge69_b69 ne74_b69_b74 ne74_b69_d74_ ne72_b69_b72r) rfl rs_accepted_10_d31 (pc' := 34) rfl ?_
  rintro _ h75 L75 ⟨b75r, k_b75r, rfl, N75', K75, X75_b69, F75_b69_value, F75_b69_coder, F75_b69_count, z75_b75r, A75_b75r⟩
  have N75 := Fr.app N73 N75'
  have O75 := O74.keep K75 (allS ge69_b69 all0)
  have P75 := P74.trans K75 (allS (Or.inr sz69_b69) all0)
  have hs75 : ∀ x ∈ ([b69] : List Addr), Safe Z consts_1 vm74 h74 x := (sfS (Safe.exa (show Z.vm.Alike _ from C.2.2.2.2.2.1.alike) X74_b69 (by decide) (by decide)) sf0)
  have sf75_b75r := Safe.keep K75 hs75 hA.1 (Safe.new z75_b75r)
  replace hk := Nat.le_trans hk K75.1
  replace hA := hA.trans (CHr.keep K75 hs75 hA.1)
  have X75_t := X74_t.keep K75
  have F75_t_decimalPlaces := F74_t_decimalPlaces.keep K75 (ninS ne69_t_b69 (nin0))
  have X75_b68 := X74_b68.keep K75
  have F75_b68_value := F74_b68_value.keep K75 (ninS ne69_b68_b69 (nin0))
  have F75_b68_coder := F74_b68_coder.keep K75 (ninS ne69_b68_b69 (nin0))
  have X75_b71 := X74_b71.keep K75
  have F75_b71_value := F74_b71_value.keep K75 (ninS (Ne.symm ne71_b69_b71) (nin0))
  have F75_b71_coder := F74_b71_coder.keep K75 (ninS (Ne.symm ne71_b69_b71) (nin0))
  have X75_b74 := X74_b74.keep K75
  have F75_b74_value := F74_b74_value.keep K75 (ninS (Ne.symm ne74_b69_b74) (nin0))
  have F75_b74_coder := F74_b74_coder.keep K75 (ninS (Ne.symm ne74_b69_b74) (nin0))
  have A75_d1 := A74_d1.keep K75 (ninS ne69_d1_b69 (nin0))
  have A75_d2 := A74_d2.keep K75 (ninS ne69_d2_b69 (nin0))
  have A75_d68_ := A74_d68_.keep K75 (ninS ne69_d68__b69 (nin0))
  have A75_b70r := A74_b70r.keep K75 (ninS (Ne.symm ne70_b69_b70r) (nin0))
  have A75_d71_ := A74_d71_.keep K75 (ninS (Ne.symm ne71_b69_d71_) (nin0))
  have A75_b72r := A74_b72r.keep K75 (ninS (Ne.symm ne72_b69_b72r) (nin0))
  have A75_d74_ := A74_d74_.keep K75 (ninS (Ne.symm ne74_b69_d74_) (nin0))
  have ge75_b75r : Z.heap.size ≤ b75r := Nat.le_trans O74.2.1 z75_b75r
  have sz75_b75r : h0.size ≤ b75r := Nat.le_trans P74.1 z75_b75r
  have ne75_t_b75r : t ≠ b75r := Nat.ne_of_lt (Nat.lt_of_lt_of_le lt75_t z75_b75r)
  have ne75_b68_b75r : b68 ≠ b75r := Nat.ne_of_lt (Nat.lt_of_lt_of_le lt75_b68 z75_b75r)
  have ne75_b69_b75r : b69 ≠ b75r := Nat.ne_of_lt (Nat.lt_of_lt_of_le lt75_b69 z75_b75r)
  have ne75_b71_b75r : b71 ≠ b75r := Nat.ne_of_lt (Nat.lt_of_lt_of_le lt75_b71 z75_b75r)
  have ne75_b74_b75r : b74 ≠ b75r := Nat.ne_of_lt (Nat.lt_of_lt_of_le lt75_b74 z75_b75r)
  have ne75_d1_b75r : d1 ≠ b75r := Nat.ne_of_lt (Nat.lt_of_lt_of_le lt75_d1 z75_b75r)
  have ne75_d2_b75r : d2 ≠ b75r := Nat.ne_of_lt (Nat.lt_of_lt_of_le lt75_d2 z75_b75r)
  have ne75_d68__b75r : d68_ ≠ b75r := Nat.ne_of_lt (Nat.lt_of_lt_of_le lt75_d68_ z75_b75r)
  have ne75_b70r_b75r : b70r ≠ b75r := Nat.ne_of_lt (Nat.lt_of_lt_of_le lt75_b70r z75_b75r)
  have ne75_d71__b75r : d71_ ≠ b75r := Nat.ne_of_lt (Nat.lt_of_lt_of_le lt75_d71_ z75_b75r)
  have ne75_b72r_b75r : b72r ≠ b75r := Nat.ne_of_lt (Nat.lt_of_lt_of_le lt75_b72r z75_b75r)
  have ne75_d74__b75r : d74_ ≠ b75r := Nat.ne_of_lt (Nat.lt_of_lt_of_le lt75_d74_ z75_b75r)
  show Wk p l e _ _ m _ below meth c _ _ _ _ _ _ (mkF m 34 #[.val (.ref t), .val (.ref b68)] [(.ref b69)])
  have lt76_t := X75_t.lt
  have lt76_b68 := X75_b68.lt
  have lt76_b69 := X75_b69.lt
  have lt76_b71 := X75_b71.lt
  have lt76_b74 := X75_b74.lt
  have lt76_d1 := A75_d1.lt
  have lt76_d2 := A75_d2.lt
  have lt76_d68_ := A75_d68_.lt
  have lt76_b70r := A75_b70r.lt
  have lt76_d71_ := A75_d71_.lt
  have lt76_b72r := A75_b72r.lt
  have lt76_d74_ := A75_d74_.lt
  have lt76_b75r := A75_b75r.lt
  refine callV_ C (y := (⟨"java/lang/StringBuilder", "toString", "()Ljava/lang/String;"⟩ : MethodName)) (z := (⟨"java/lang/StringBuilder", "toString", "()Ljava/lang/String;"⟩ : MethodName)) (hw _ (List.mem_of_getElem? (i := 149) rfl)) (hw _ (List.mem_of_getElem? (i := 150) rfl)) (nf_sel (hw _ (List.mem_of_getElem? (i := 152) rfl))) (hw _ (List.mem_of_getElem? (i := 152) rfl)) (hw _ (List.mem_of_getElem? (i := 151) rfl)) (hw _ (List.mem_of_getElem? (i := 33) rfl)) (hw _ (List.mem_of_getElem? (i := 153) rfl)) (by decide) X75_b69 pd_23 [] [] rfl rfl (W := 0) rfl (by decide) (by decide) (by decide) (by decide) (rs_toString l Z a0 hw cs Sc hcs b69 b75r k_b75r h75 O75 X75_b69 F75_b69_value F75_b69_coder F75_b69_count A75_b75r) rfl rs_accepted_10_d34 (pc' := 37) rfl ?_
  rintro _ h76 L76 ⟨b76r, b76r2, k_b76r2, rfl, N76', K76, z76_b76r, X76_b76r, F76_b76r_value, F76_b76r_coder, z76_b76r2, A76_b76r2⟩
  have N76 := Fr.app N75 N76'
  have O76 := O75.keep K76 all0
  have P76 := P75.trans K76 all0
  have hs76 : ∀ x ∈ ([] : List Addr), Safe Z consts_1 vm74 h75 x := sf0
  have sf76_b76r2 := Safe.keep K76 hs76 hA.1 (Safe.new z76_b76r2)
  replace hk := Nat.le_trans hk K76.1
  replace hA := hA.trans (CHr.keep K76 hs76 hA.1)
  have X76_t := X75_t.keep K76
  have F76_t_decimalPlaces := F75_t_decimalPlaces.keep K76 nin0
  have X76_b68 := X75_b68.keep K76
  have F76_b68_value := F75_b68_value.keep K76 nin0
  have F76_b68_coder := F75_b68_coder.keep K76 nin0
  have X76_b69 := X75_b69.keep K76
  have F76_b69_value := F75_b69_value.keep K76 nin0
  have F76_b69_coder := F75_b69_coder.keep K76 nin0
  have F76_b69_count := F75_b69_count.keep K76 nin0
  have X76_b71 := X75_b71.keep K76
  have F76_b71_value := F75_b71_value.keep K76 nin0
  have F76_b71_coder := F75_b71_coder.keep K76 nin0
  have X76_b74 := X75_b74.keep K76
  have F76_b74_value := F75_b74_value.keep K76 nin0
  have F76_b74_coder := F75_b74_coder.keep K76 nin0
  have A76_d1 := A75_d1.keep K76 nin0
  have A76_d2 := A75_d2.keep K76 nin0
  have A76_d68_ := A75_d68_.keep K76 nin0
  have A76_b70r := A75_b70r.keep K76 nin0
  have A76_d71_ := A75_d71_.keep K76 nin0
  have A76_b72r := A75_b72r.keep K76 nin0
  have A76_d74_ := A75_d74_.keep K76 nin0
  have A76_b75r := A75_b75r.keep K76 nin0
  have ge76_b76r : Z.heap.size ≤ b76r := Nat.le_trans O75.2.1 z76_b76r
  have sz76_b76r : h0.size ≤ b76r := Nat.le_trans P75.1 z76_b76r
  have ne76_t_b76r : t ≠ b76r := Nat.ne_of_lt (Nat.lt_of_lt_of_le lt76_t z76_b76r)
  have ne76_b68_b76r : b68 ≠ b76r := Nat.ne_of_lt (Nat.lt_of_lt_of_le lt76_b68 z76_b76r)
  have ne76_b69_b76r : b69 ≠ b76r := Nat.ne_of_lt (Nat.lt_of_lt_of_le lt76_b69 z76_b76r)
  have ne76_b71_b76r : b71 ≠ b76r := Nat.ne_of_lt (Nat.lt_of_lt_of_le lt76_b71 z76_b76r)
  have ne76_b74_b76r : b74 ≠ b76r := Nat.ne_of_lt (Nat.lt_of_lt_of_le lt76_b74 z76_b76r)
  have ne76_d1_b76r : d1 ≠ b76r := Nat.ne_of_lt (Nat.lt_of_lt_of_le lt76_d1 z76_b76r)
  have ne76_d2_b76r : d2 ≠ b76r := Nat.ne_of_lt (Nat.lt_of_lt_of_le lt76_d2 z76_b76r)
  have ne76_d68__b76r : d68_ ≠ b76r := Nat.ne_of_lt (Nat.lt_of_lt_of_le lt76_d68_ z76_b76r)
  have ne76_b70r_b76r : b70r ≠ b76r := Nat.ne_of_lt (Nat.lt_of_lt_of_le lt76_b70r z76_b76r)
  have ne76_d71__b76r : d71_ ≠ b76r := Nat.ne_of_lt (Nat.lt_of_lt_of_le lt76_d71_ z76_b76r)
  have ne76_b72r_b76r : b72r ≠ b76r := Nat.ne_of_lt (Nat.lt_of_lt_of_le lt76_b72r z76_b76r)
  have ne76_d74__b76r : d74_ ≠ b76r := Nat.ne_of_lt (Nat.lt_of_lt_of_le lt76_d74_ z76_b76r)
  have ne76_b75r_b76r : b75r ≠ b76r := Nat.ne_of_lt (Nat.lt_of_lt_of_le lt76_b75r z76_b76r)
  have ge76_b76r2 : Z.heap.size ≤ b76r2 := Nat.le_trans O75.2.1 z76_b76r2
  have sz76_b76r2 : h0.size ≤ b76r2 := Nat.le_trans P75.1 z76_b76r2
  have ne76_t_b76r2 : t ≠ b76r2 := Nat.ne_of_lt (Nat.lt_of_lt_of_le lt76_t z76_b76r2)
  have ne76_b68_b76r2 : b68 ≠ b76r2 := Nat.ne_of_lt (Nat.lt_of_lt_of_le lt76_b68 z76_b76r2)
  have ne76_b69_b76r2 : b69 ≠ b76r2 := Nat.ne_of_lt (Nat.lt_of_lt_of_le lt76_b69 z76_b76r2)
  have ne76_b71_b76r2 : b71 ≠ b76r2 := Nat.ne_of_lt (Nat.lt_of_lt_of_le lt76_b71 z76_b76r2)
  have ne76_b74_b76r2 : b74 ≠ b76r2 := Nat.ne_of_lt (Nat.lt_of_lt_of_le lt76_b74 z76_b76r2)
  have ne76_d1_b76r2 : d1 ≠ b76r2 := Nat.ne_of_lt (Nat.lt_of_lt_of_le lt76_d1 z76_b76r2)
  have ne76_d2_b76r2 : d2 ≠ b76r2 := Nat.ne_of_lt (Nat.lt_of_lt_of_le lt76_d2 z76_b76r2)
  have ne76_d68__b76r2 : d68_ ≠ b76r2 := Nat.ne_of_lt (Nat.lt_of_lt_of_le lt76_d68_ z76_b76r2)
  have ne76_b70r_b76r2 : b70r ≠ b76r2 := Nat.ne_of_lt (Nat.lt_of_lt_of_le lt76_b70r z76_b76r2)
  have ne76_d71__b76r2 : d71_ ≠ b76r2 := Nat.ne_of_lt (Nat.lt_of_lt_of_le lt76_d71_ z76_b76r2)
  have ne76_b72r_b76r2 : b72r ≠ b76r2 := Nat.ne_of_lt (Nat.lt_of_lt_of_le lt76_b72r z76_b76r2)
  have ne76_d74__b76r2 : d74_ ≠ b76r2 := Nat.ne_of_lt (Nat.lt_of_lt_of_le lt76_d74_ z76_b76r2)
  have ne76_b75r_b76r2 : b75r ≠ b76r2 := Nat.ne_of_lt (Nat.lt_of_lt_of_le lt76_b75r z76_b76r2)
  show Wk p l e _ _ m _ below meth c _ _ _ _ _ _ (mkF m 37 #[.val (.ref t), .val (.ref b68)] [(.ref b76r)])
  refine astoreN C rs_accepted_10_d37 (pc' := 38) rfl rfl (Ls' := #[.val (.ref t), .val (.ref b76r)]) rfl ?_
  refine aloadN C rs_accepted_10_d38 (pc' := 39) rfl rfl rfl ?_
  exact ret_A C rs_accepted_10_d39 rfl rfl rfl rfl (by decide) (by decide) ⟨b76r, b76r2, k_b76r2, rfl, N76, P76, X76_b76r, F76_b76r_value, F76_b76r_coder, A76_b76r2⟩ (gh_end (a0 := a0) C.2.2.2.2.2.1 hEL hk hA)
def nmsA (k : Nat) : String := ["CUMULATIVE_ROUNDING", "CUMULATIVE_ROUND_DOWN", "FRONT_LOADED", "BACK_LOADED", "FRONT_LOADED_TO_SINGLE_TRANCHE", "BACK_LOADED_TO_SINGLE_TRANCHE", "FRACTIONAL"].getD k ""
def dpA (k : Nat) : Int32 := [0, 0, 0, 0, 0, 0, 10].getD k 0
def KsA (Z : State) (ad : Nat → Addr) : Prop := ∀ k, k < 7 → Sta Z Z.heap "com/example/vestline/vestline/AllocationType" (nmsA k) "Lcom/example/vestline/vestline/AllocationType;" (.ref (ad k)) ∧ Exa Z Z.heap (ad k) "com/example/vestline/vestline/AllocationType" ∧ Fld Z Z.heap (ad k) "com/example/vestline/vestline/AllocationType" "decimalPlaces" "I" (.int (dpA k))
theorem pd_24 : parseMethodDescriptor "(Ljava/lang/Object;)Z" = some ⟨[(.object "java/lang/Object")], some .boolean⟩ := by decide +kernel
theorem pn_com_example_vestline_vestline_AllocationTypeAcceptedQuantityPinLaw : plainName "com/example/vestline/vestline/AllocationTypeAcceptedQuantityPinLaw" = true := by first | (simp [plainName, overriddenIn]; done) | decide +kernel
set_option maxRecDepth 65536 in
set_option maxHeartbeats 40000000 in
theorem rm0 (l : Launch) (Z : State) (a0 : Array Value) (hw : ∀ d ∈ tables_1, d.before a0 Z = true) (cs : Int32) (Sc : Sta Z Z.heap "java/lang/String" "COMPACT_STRINGS" "Z" (.int cs)) (hcs : ¬ cs = 0) (ad : Nat → Addr) (K : KsA Z ad) (d1 : Addr) (k_d1 : ClassId) (d2 : Addr) (k_d2 : ClassId) (k i : Int32) (hi : (k &&& 2147483647) % 7 = i) (h0 : Heap) (eh : h0 = Z.heap) (A_d1 : Arv Z Z.heap d1 k_d1 .byte 100 V9 (.int 0)) (A_d2 : Arv Z Z.heap d2 k_d2 .byte 100 V10 (.int 0)) (S_d1 : Sta Z Z.heap "java/lang/Integer" "DigitOnes" "[B" (.ref d1)) (S_d2 : Sta Z Z.heap "java/lang/Integer" "DigitTens" "[B" (.ref d2)) :
    MetH l Z consts_1 x tables_1 code maxLocals ret room_1 #[(.int k)] h0 (fun v _ L => v = some (.int 1) ∧ Fr Z.heap.size L) := by
  subst eh
  have O := Old.start Z
  have N := Fr.nil Z.heap.size
  have hEL := ew hw
  refine MetH.of_walk (plainFor_of_name pn_com_example_vestline_vestline_AllocationTypeAcceptedQuantityPinLaw) (Ls := #[.val (.int k), .unset, .unset, .unset, .unset]) (fun m => by first | rfl | (simp [entryFrame, mkF, argsToLocals, Value.category, maxLocals]; done)) ?_
  intro p e s vm0 m below meth c C hS hA
  have hk := Nat.zero_le (Array.size Z.heap)
  refine iloadN C at_0 (pc' := 1) rfl rfl ?_
  refine ldcInt C (hw _ (List.mem_of_getElem? (i := 0) rfl)) at_1 (pc' := 3) rfl ?_
  refine iand C at_3 (pc' := 4) rfl ?_
  refine bipush C at_4 (pc' := 6) rfl (v := 7) rfl ?_
  refine irem C at_6 (pc' := 7) rfl (by decide) ?_
  rw [hi]
  refine istoreN C at_7 (pc' := 8) rfl (Ls' := #[.val (.int k), .val (.int i), .unset, .unset, .unset]) rfl ?_
  refine iconst C at_8 (pc' := 9) rfl (v := 0) rfl ?_
  refine istoreN C at_9 (pc' := 10) rfl (Ls' := #[.val (.int k), .val (.int i), .unset, .val (.int 0), .unset]) rfl ?_
  refine iloadN C at_10 (pc' := 11) rfl rfl ?_
  refine if_ne C 21 14 at_11 (by decide) rfl rfl (fun q11 => ?_) (fun q11 => ?_)
  · skip
    refine iloadN C at_21 (pc' := 22) rfl rfl ?_
    refine iconst C at_22 (pc' := 23) rfl (v := 1) rfl ?_
    refine icmp_ne C 33 26 at_23 (by decide) rfl rfl (fun q23 => ?_) (fun q23 => ?_)
    · skip
      refine iloadN C at_33 (pc' := 34) rfl rfl ?_
      refine iconst C at_34 (pc' := 35) rfl (v := 2) rfl ?_
      refine icmp_ne C 45 38 at_35 (by decide) rfl rfl (fun q35 => ?_) (fun q35 => ?_)
      · skip
        refine iloadN C at_45 (pc' := 46) rfl rfl ?_
        refine iconst C at_46 (pc' := 47) rfl (v := 3) rfl ?_
        refine icmp_ne C 57 50 at_47 (by decide) rfl rfl (fun q47 => ?_) (fun q47 => ?_)
        · skip
          refine iloadN C at_57 (pc' := 58) rfl rfl ?_
          refine iconst C at_58 (pc' := 59) rfl (v := 4) rfl ?_
          refine icmp_ne C 69 62 at_59 (by decide) rfl rfl (fun q59 => ?_) (fun q59 => ?_)
          · skip
            refine iloadN C at_69 (pc' := 70) rfl rfl ?_
            refine iconst C at_70 (pc' := 71) rfl (v := 5) rfl ?_
            refine icmp_ne C 81 74 at_71 (by decide) rfl rfl (fun q71 => ?_) (fun q71 => ?_)
            · skip
              refine getS_ C (hw _ (List.mem_of_getElem? (i := 29) rfl)) ((K 6 (by decide)).1.ext O.2) at_81 (pc' := 84) rfl ?_
              generalize hq77 : ad 6 = t77
              have X_t77 : Exa Z Z.heap t77 "com/example/vestline/vestline/AllocationType" := by rw [← hq77]; exact (K 6 (by decide)).2.1.ext O.2
              have F_t77 : Fld Z Z.heap t77 "com/example/vestline/vestline/AllocationType" "decimalPlaces" "I" (.int 10) := by rw [← hq77]; exact (K 6 (by decide)).2.2.ext O.2
              refine astoreN C at_84 (pc' := 85) rfl rfl (Ls' := #[.val (.int k), .val (.int i), .val (.ref t77), .val (.int 0), .unset]) rfl ?_
              refine iconst C at_85 (pc' := 86) rfl (v := 1) rfl ?_
              refine istoreN C at_86 (pc' := 87) rfl (Ls' := #[.val (.int k), .val (.int i), .val (.ref t77), .val (.int 1), .unset]) rfl ?_
              refine aloadN C at_87 (pc' := 88) rfl rfl rfl ?_
              refine callVH_ C hS hk hEL hA.1 (y := (⟨"com/example/vestline/vestline/AllocationType", "acceptedQuantity", "()Ljava/lang/String;"⟩ : MethodName)) (z := (⟨"com/example/vestline/vestline/AllocationType", "acceptedQuantity", "()Ljava/lang/String;"⟩ : MethodName)) (hw _ (List.mem_of_getElem? (i := 4) rfl)) (hw _ (List.mem_of_getElem? (i := 5) rfl)) (nf_sel (hw _ (List.mem_of_getElem? (i := 7) rfl))) (hw _ (List.mem_of_getElem? (i := 7) rfl)) (hw _ (List.mem_of_getElem? (i := 6) rfl)) (hw _ (List.mem_of_getElem? (i := 2) rfl)) (hw _ (List.mem_of_getElem? (i := 8) rfl)) (by decide) X_t77 pd_23 [] [] rfl rfl (W := 0) rfl (by decide) (by decide) (by decide) (by decide) (rs_accepted_10 l Z a0 hw cs Sc hcs t77 d1 k_d1 d2 k_d2 Z.heap O X_t77 F_t77 A_d1 A_d2 S_d1 S_d2) rfl at_88 (pc' := 91) rfl ?_
              rintro vm78 kk78 _ h78 L78 ⟨b78, d78_, k_d78_, rfl, N78', K78, X78_b78, F78_b78_value, F78_b78_coder, A78_d78_⟩ C hS hk - hR78
              replace hA := hA.trans hR78
              have N78 := Fr.app N N78'
              have O78 := O.keep K78 all0
              show Wk p l e _ _ m _ below meth c _ _ _ _ _ _ (mkF m 91 #[.val (.int k), .val (.int i), .val (.ref t77), .val (.int 1), .unset] [(.ref b78)])
              refine astore C at_91 (pc' := 93) rfl rfl (Ls' := #[.val (.int k), .val (.int i), .val (.ref t77), .val (.int 1), .val (.ref b78)]) rfl ?_
              refine aload C at_93 (pc' := 95) rfl rfl rfl ?_
              refine ifnonnull_ref C at_95 (by decide) (pc' := 100) rfl ?_
              refine iloadN C at_100 (pc' := 101) rfl rfl ?_
              refine if_eq C 112 104 at_101 (by decide) rfl rfl (fun q101 => ?_) (fun q101 => ?_)
              · exact absurd q101 (by decide)
              refine aload C at_104 (pc' := 106) rfl rfl rfl ?_
              have lt79_b78 := X78_b78.lt
              have lt79_d78_ := A78_d78_.lt
              refine ldcH_ C hS hk hEL (List.mem_of_getElem? (i := 3) rfl) hA.1 (vs := V12) (z := 47) ⟨by decide +kernel, by decide +kernel⟩ (by decide) (by decide) (hw _ (List.mem_of_getElem? (i := 186) rfl)) (strAtoms hw) at_106 (pc' := 108) rfl (n := 188) (by decide +kernel) (by decide) (by decide) (by decide) ?_
              intro vm79 kk79 b79 d79_ k_d79_ h79 C hS hk E79 hR79 X79_b79 F79_b79_coder F79_b79_value A79_d79_ hsf79
              replace hA := hA.trans hR79
              have O79 := O78.ext E79
              have X79_b78 := X78_b78.ext E79
              have F79_b78_value := F78_b78_value.ext E79
              have F79_b78_coder := F78_b78_coder.ext E79
              have A79_d78_ := A78_d78_.ext E79
              refine callV_ C (y := (⟨"java/lang/String", "equals", "(Ljava/lang/Object;)Z"⟩ : MethodName)) (z := (⟨"java/lang/String", "equals", "(Ljava/lang/Object;)Z"⟩ : MethodName)) (hw _ (List.mem_of_getElem? (i := 20) rfl)) (hw _ (List.mem_of_getElem? (i := 21) rfl)) (nf_sel (hw _ (List.mem_of_getElem? (i := 23) rfl))) (hw _ (List.mem_of_getElem? (i := 23) rfl)) (hw _ (List.mem_of_getElem? (i := 22) rfl)) (hw _ (List.mem_of_getElem? (i := 10) rfl)) (hw _ (List.mem_of_getElem? (i := 24) rfl)) (by decide) X79_b78 pd_24 [(.ref b79)] [] rfl rfl (W := 0) rfl (by decide) (by decide) (by decide) (by decide) (rs_equals_47 l Z a0 hw cs Sc hcs b78 b79 d78_ k_d78_ d79_ k_d79_ h79 O79 X79_b78 F79_b78_value F79_b78_coder X79_b79 F79_b79_value F79_b79_coder A79_d78_ A79_d79_) rfl at_108 (pc' := 111) rfl ?_
              rintro _ _ _ ⟨rfl, rfl, rfl⟩
              show Wk p l e _ _ m _ below meth c _ _ _ _ _ _ (mkF m 111 #[.val (.int k), .val (.int i), .val (.ref t77), .val (.int 1), .val (.ref b78)] [(.int 1)])
              rw [List.append_nil]
              exact ret_Z C at_111 rfl (by decide) (by decide) (by decide) ⟨rfl, N78⟩ (gh_end (a0 := a0) C.2.2.2.2.2.1 hEL hk hA)
            · skip
              refine getS_ C (hw _ (List.mem_of_getElem? (i := 27) rfl)) ((K 5 (by decide)).1.ext O.2) at_74 (pc' := 77) rfl ?_
              generalize hq81 : ad 5 = t81
              have X_t81 : Exa Z Z.heap t81 "com/example/vestline/vestline/AllocationType" := by rw [← hq81]; exact (K 5 (by decide)).2.1.ext O.2
              have F_t81 : Fld Z Z.heap t81 "com/example/vestline/vestline/AllocationType" "decimalPlaces" "I" (.int 0) := by rw [← hq81]; exact (K 5 (by decide)).2.2.ext O.2
              refine astoreN C at_77 (pc' := 78) rfl rfl (Ls' := #[.val (.int k), .val (.int i), .val (.ref t81), .val (.int 0), .unset]) rfl ?_
              refine goto_ C at_78 (by decide) (pc' := 87) rfl ?_
              refine aloadN C at_87 (pc' := 88) rfl rfl rfl ?_
              refine callVH_ C hS hk hEL hA.1 (y := (⟨"com/example/vestline/vestline/AllocationType", "acceptedQuantity", "()Ljava/lang/String;"⟩ : MethodName)) (z := (⟨"com/example/vestline/vestline/AllocationType", "acceptedQuantity", "()Ljava/lang/String;"⟩ : MethodName)) (hw _ (List.mem_of_getElem? (i := 4) rfl)) (hw _ (List.mem_of_getElem? (i := 5) rfl)) (nf_sel (hw _ (List.mem_of_getElem? (i := 7) rfl))) (hw _ (List.mem_of_getElem? (i := 7) rfl)) (hw _ (List.mem_of_getElem? (i := 6) rfl)) (hw _ (List.mem_of_getElem? (i := 2) rfl)) (hw _ (List.mem_of_getElem? (i := 8) rfl)) (by decide) X_t81 pd_23 [] [] rfl rfl (W := 0) rfl (by decide) (by decide) (by decide) (by decide) (rs_accepted_0 l Z a0 hw cs Sc hcs t81 Z.heap O X_t81 F_t81) rfl at_88 (pc' := 91) rfl ?_
              rintro vm82 kk82 _ h82 L82 ⟨b82, d82_, k_d82_, rfl, N82', K82, X82_b82, F82_b82_value, F82_b82_coder, A82_d82_⟩ C hS hk - hR82
              replace hA := hA.trans hR82
              have N82 := Fr.app N N82'
              have O82 := O.keep K82 all0
              show Wk p l e _ _ m _ below meth c _ _ _ _ _ _ (mkF m 91 #[.val (.int k), .val (.int i), .val (.ref t81), .val (.int 0), .unset] [(.ref b82)])
              refine astore C at_91 (pc' := 93) rfl rfl (Ls' := #[.val (.int k), .val (.int i), .val (.ref t81), .val (.int 0), .val (.ref b82)]) rfl ?_
              refine aload C at_93 (pc' := 95) rfl rfl rfl ?_
              refine ifnonnull_ref C at_95 (by decide) (pc' := 100) rfl ?_
              refine iloadN C at_100 (pc' := 101) rfl rfl ?_
              refine if_eq C 112 104 at_101 (by decide) rfl rfl (fun q101 => ?_) (fun q101 => ?_)
              · skip
                refine aload C at_112 (pc' := 114) rfl rfl rfl ?_
                have lt83_b82 := X82_b82.lt
                have lt83_d82_ := A82_d82_.lt
                refine ldcH_ C hS hk hEL (List.mem_of_getElem? (i := 4) rfl) hA.1 (vs := V14) (z := 24) ⟨by decide +kernel, by decide +kernel⟩ (by decide) (by decide) (hw _ (List.mem_of_getElem? (i := 19) rfl)) (strAtoms hw) at_114 (pc' := 116) rfl (n := 96) (by decide +kernel) (by decide) (by decide) (by decide) ?_
                intro vm83 kk83 b83 d83_ k_d83_ h83 C hS hk E83 hR83 X83_b83 F83_b83_coder F83_b83_value A83_d83_ hsf83
                replace hA := hA.trans hR83
                have O83 := O82.ext E83
                have X83_b82 := X82_b82.ext E83
                have F83_b82_value := F82_b82_value.ext E83
                have F83_b82_coder := F82_b82_coder.ext E83
                have A83_d82_ := A82_d82_.ext E83
                refine callV_ C (y := (⟨"java/lang/String", "equals", "(Ljava/lang/Object;)Z"⟩ : MethodName)) (z := (⟨"java/lang/String", "equals", "(Ljava/lang/Object;)Z"⟩ : MethodName)) (hw _ (List.mem_of_getElem? (i := 20) rfl)) (hw _ (List.mem_of_getElem? (i := 21) rfl)) (nf_sel (hw _ (List.mem_of_getElem? (i := 23) rfl))) (hw _ (List.mem_of_getElem? (i := 23) rfl)) (hw _ (List.mem_of_getElem? (i := 22) rfl)) (hw _ (List.mem_of_getElem? (i := 10) rfl)) (hw _ (List.mem_of_getElem? (i := 24) rfl)) (by decide) X83_b82 pd_24 [(.ref b83)] [] rfl rfl (W := 0) rfl (by decide) (by decide) (by decide) (by decide) (rs_equals_24 l Z a0 hw cs Sc hcs b82 b83 d82_ k_d82_ d83_ k_d83_ h83 O83 X83_b82 F83_b82_value F83_b82_coder X83_b83 F83_b83_value F83_b83_coder A83_d82_ A83_d83_) rfl at_116 (pc' := 119) rfl ?_
                rintro _ _ _ ⟨rfl, rfl, rfl⟩
                show Wk p l e _ _ m _ below meth c _ _ _ _ _ _ (mkF m 119 #[.val (.int k), .val (.int i), .val (.ref t81), .val (.int 0), .val (.ref b82)] [(.int 1)])
                rw [List.append_nil]
                exact ret_Z C at_119 rfl (by decide) (by decide) (by decide) ⟨rfl, N82⟩ (gh_end (a0 := a0) C.2.2.2.2.2.1 hEL hk hA)
              · exact absurd q101 (by decide)
          · skip
            refine getS_ C (hw _ (List.mem_of_getElem? (i := 192) rfl)) ((K 4 (by decide)).1.ext O.2) at_62 (pc' := 65) rfl ?_
            generalize hq85 : ad 4 = t85
            have X_t85 : Exa Z Z.heap t85 "com/example/vestline/vestline/AllocationType" := by rw [← hq85]; exact (K 4 (by decide)).2.1.ext O.2
            have F_t85 : Fld Z Z.heap t85 "com/example/vestline/vestline/AllocationType" "decimalPlaces" "I" (.int 0) := by rw [← hq85]; exact (K 4 (by decide)).2.2.ext O.2
            refine astoreN C at_65 (pc' := 66) rfl rfl (Ls' := #[.val (.int k), .val (.int i), .val (.ref t85), .val (.int 0), .unset]) rfl ?_
            refine goto_ C at_66 (by decide) (pc' := 87) rfl ?_
            refine aloadN C at_87 (pc' := 88) rfl rfl rfl ?_
            refine callVH_ C hS hk hEL hA.1 (y := (⟨"com/example/vestline/vestline/AllocationType", "acceptedQuantity", "()Ljava/lang/String;"⟩ : MethodName)) (z := (⟨"com/example/vestline/vestline/AllocationType", "acceptedQuantity", "()Ljava/lang/String;"⟩ : MethodName)) (hw _ (List.mem_of_getElem? (i := 4) rfl)) (hw _ (List.mem_of_getElem? (i := 5) rfl)) (nf_sel (hw _ (List.mem_of_getElem? (i := 7) rfl))) (hw _ (List.mem_of_getElem? (i := 7) rfl)) (hw _ (List.mem_of_getElem? (i := 6) rfl)) (hw _ (List.mem_of_getElem? (i := 2) rfl)) (hw _ (List.mem_of_getElem? (i := 8) rfl)) (by decide) X_t85 pd_23 [] [] rfl rfl (W := 0) rfl (by decide) (by decide) (by decide) (by decide) (rs_accepted_0 l Z a0 hw cs Sc hcs t85 Z.heap O X_t85 F_t85) rfl at_88 (pc' := 91) rfl ?_
            rintro vm86 kk86 _ h86 L86 ⟨b86, d86_, k_d86_, rfl, N86', K86, X86_b86, F86_b86_value, F86_b86_coder, A86_d86_⟩ C hS hk - hR86
            replace hA := hA.trans hR86
            have N86 := Fr.app N N86'
            have O86 := O.keep K86 all0
            show Wk p l e _ _ m _ below meth c _ _ _ _ _ _ (mkF m 91 #[.val (.int k), .val (.int i), .val (.ref t85), .val (.int 0), .unset] [(.ref b86)])
            refine astore C at_91 (pc' := 93) rfl rfl (Ls' := #[.val (.int k), .val (.int i), .val (.ref t85), .val (.int 0), .val (.ref b86)]) rfl ?_
            refine aload C at_93 (pc' := 95) rfl rfl rfl ?_
            refine ifnonnull_ref C at_95 (by decide) (pc' := 100) rfl ?_
            refine iloadN C at_100 (pc' := 101) rfl rfl ?_
            refine if_eq C 112 104 at_101 (by decide) rfl rfl (fun q101 => ?_) (fun q101 => ?_)
            · skip
              refine aload C at_112 (pc' := 114) rfl rfl rfl ?_
              have lt87_b86 := X86_b86.lt
              have lt87_d86_ := A86_d86_.lt
              refine ldcH_ C hS hk hEL (List.mem_of_getElem? (i := 4) rfl) hA.1 (vs := V14) (z := 24) ⟨by decide +kernel, by decide +kernel⟩ (by decide) (by decide) (hw _ (List.mem_of_getElem? (i := 19) rfl)) (strAtoms hw) at_114 (pc' := 116) rfl (n := 96) (by decide +kernel) (by decide) (by decide) (by decide) ?_
              intro vm87 kk87 b87 d87_ k_d87_ h87 C hS hk E87 hR87 X87_b87 F87_b87_coder F87_b87_value A87_d87_ hsf87
              replace hA := hA.trans hR87
              have O87 := O86.ext E87
              have X87_b86 := X86_b86.ext E87
              have F87_b86_value := F86_b86_value.ext E87
              have F87_b86_coder := F86_b86_coder.ext E87
              have A87_d86_ := A86_d86_.ext E87
              refine callV_ C (y := (⟨"java/lang/String", "equals", "(Ljava/lang/Object;)Z"⟩ : MethodName)) (z := (⟨"java/lang/String", "equals", "(Ljava/lang/Object;)Z"⟩ : MethodName)) (hw _ (List.mem_of_getElem? (i := 20) rfl)) (hw _ (List.mem_of_getElem? (i := 21) rfl)) (nf_sel (hw _ (List.mem_of_getElem? (i := 23) rfl))) (hw _ (List.mem_of_getElem? (i := 23) rfl)) (hw _ (List.mem_of_getElem? (i := 22) rfl)) (hw _ (List.mem_of_getElem? (i := 10) rfl)) (hw _ (List.mem_of_getElem? (i := 24) rfl)) (by decide) X87_b86 pd_24 [(.ref b87)] [] rfl rfl (W := 0) rfl (by decide) (by decide) (by decide) (by decide) (rs_equals_24 l Z a0 hw cs Sc hcs b86 b87 d86_ k_d86_ d87_ k_d87_ h87 O87 X87_b86 F87_b86_value F87_b86_coder X87_b87 F87_b87_value F87_b87_coder A87_d86_ A87_d87_) rfl at_116 (pc' := 119) rfl ?_
              rintro _ _ _ ⟨rfl, rfl, rfl⟩
              show Wk p l e _ _ m _ below meth c _ _ _ _ _ _ (mkF m 119 #[.val (.int k), .val (.int i), .val (.ref t85), .val (.int 0), .val (.ref b86)] [(.int 1)])
              rw [List.append_nil]
              exact ret_Z C at_119 rfl (by decide) (by decide) (by decide) ⟨rfl, N86⟩ (gh_end (a0 := a0) C.2.2.2.2.2.1 hEL hk hA)
            · exact absurd q101 (by decide)
        · skip
          refine getS_ C (hw _ (List.mem_of_getElem? (i := 25) rfl)) ((K 3 (by decide)).1.ext O.2) at_50 (pc' := 53) rfl ?_
          generalize hq89 : ad 3 = t89
          have X_t89 : Exa Z Z.heap t89 "com/example/vestline/vestline/AllocationType" := by rw [← hq89]; exact (K 3 (by decide)).2.1.ext O.2
          have F_t89 : Fld Z Z.heap t89 "com/example/vestline/vestline/AllocationType" "decimalPlaces" "I" (.int 0) := by rw [← hq89]; exact (K 3 (by decide)).2.2.ext O.2
          refine astoreN C at_53 (pc' := 54) rfl rfl (Ls' := #[.val (.int k), .val (.int i), .val (.ref t89), .val (.int 0), .unset]) rfl ?_
          refine goto_ C at_54 (by decide) (pc' := 87) rfl ?_
          refine aloadN C at_87 (pc' := 88) rfl rfl rfl ?_
          refine callVH_ C hS hk hEL hA.1 (y := (⟨"com/example/vestline/vestline/AllocationType", "acceptedQuantity", "()Ljava/lang/String;"⟩ : MethodName)) (z := (⟨"com/example/vestline/vestline/AllocationType", "acceptedQuantity", "()Ljava/lang/String;"⟩ : MethodName)) (hw _ (List.mem_of_getElem? (i := 4) rfl)) (hw _ (List.mem_of_getElem? (i := 5) rfl)) (nf_sel (hw _ (List.mem_of_getElem? (i := 7) rfl))) (hw _ (List.mem_of_getElem? (i := 7) rfl)) (hw _ (List.mem_of_getElem? (i := 6) rfl)) (hw _ (List.mem_of_getElem? (i := 2) rfl)) (hw _ (List.mem_of_getElem? (i := 8) rfl)) (by decide) X_t89 pd_23 [] [] rfl rfl (W := 0) rfl (by decide) (by decide) (by decide) (by decide) (rs_accepted_0 l Z a0 hw cs Sc hcs t89 Z.heap O X_t89 F_t89) rfl at_88 (pc' := 91) rfl ?_
          rintro vm90 kk90 _ h90 L90 ⟨b90, d90_, k_d90_, rfl, N90', K90, X90_b90, F90_b90_value, F90_b90_coder, A90_d90_⟩ C hS hk - hR90
          replace hA := hA.trans hR90
          have N90 := Fr.app N N90'
          have O90 := O.keep K90 all0
          show Wk p l e _ _ m _ below meth c _ _ _ _ _ _ (mkF m 91 #[.val (.int k), .val (.int i), .val (.ref t89), .val (.int 0), .unset] [(.ref b90)])
          refine astore C at_91 (pc' := 93) rfl rfl (Ls' := #[.val (.int k), .val (.int i), .val (.ref t89), .val (.int 0), .val (.ref b90)]) rfl ?_
          refine aload C at_93 (pc' := 95) rfl rfl rfl ?_
          refine ifnonnull_ref C at_95 (by decide) (pc' := 100) rfl ?_
          refine iloadN C at_100 (pc' := 101) rfl rfl ?_
          refine if_eq C 112 104 at_101 (by decide) rfl rfl (fun q101 => ?_) (fun q101 => ?_)
          · skip
            refine aload C at_112 (pc' := 114) rfl rfl rfl ?_
            have lt91_b90 := X90_b90.lt
            have lt91_d90_ := A90_d90_.lt
            refine ldcH_ C hS hk hEL (List.mem_of_getElem? (i := 4) rfl) hA.1 (vs := V14) (z := 24) ⟨by decide +kernel, by decide +kernel⟩ (by decide) (by decide) (hw _ (List.mem_of_getElem? (i := 19) rfl)) (strAtoms hw) at_114 (pc' := 116) rfl (n := 96) (by decide +kernel) (by decide) (by decide) (by decide) ?_
            intro vm91 kk91 b91 d91_ k_d91_ h91 C hS hk E91 hR91 X91_b91 F91_b91_coder F91_b91_value A91_d91_ hsf91
            replace hA := hA.trans hR91
            have O91 := O90.ext E91
            have X91_b90 := X90_b90.ext E91
            have F91_b90_value := F90_b90_value.ext E91
            have F91_b90_coder := F90_b90_coder.ext E91
            have A91_d90_ := A90_d90_.ext E91
            refine callV_ C (y := (⟨"java/lang/String", "equals", "(Ljava/lang/Object;)Z"⟩ : MethodName)) (z := (⟨"java/lang/String", "equals", "(Ljava/lang/Object;)Z"⟩ : MethodName)) (hw _ (List.mem_of_getElem? (i := 20) rfl)) (hw _ (List.mem_of_getElem? (i := 21) rfl)) (nf_sel (hw _ (List.mem_of_getElem? (i := 23) rfl))) (hw _ (List.mem_of_getElem? (i := 23) rfl)) (hw _ (List.mem_of_getElem? (i := 22) rfl)) (hw _ (List.mem_of_getElem? (i := 10) rfl)) (hw _ (List.mem_of_getElem? (i := 24) rfl)) (by decide) X91_b90 pd_24 [(.ref b91)] [] rfl rfl (W := 0) rfl (by decide) (by decide) (by decide) (by decide) (rs_equals_24 l Z a0 hw cs Sc hcs b90 b91 d90_ k_d90_ d91_ k_d91_ h91 O91 X91_b90 F91_b90_value F91_b90_coder X91_b91 F91_b91_value F91_b91_coder A91_d90_ A91_d91_) rfl at_116 (pc' := 119) rfl ?_
            rintro _ _ _ ⟨rfl, rfl, rfl⟩
            show Wk p l e _ _ m _ below meth c _ _ _ _ _ _ (mkF m 119 #[.val (.int k), .val (.int i), .val (.ref t89), .val (.int 0), .val (.ref b90)] [(.int 1)])
            rw [List.append_nil]
            exact ret_Z C at_119 rfl (by decide) (by decide) (by decide) ⟨rfl, N90⟩ (gh_end (a0 := a0) C.2.2.2.2.2.1 hEL hk hA)
          · exact absurd q101 (by decide)
      · skip
        refine getS_ C (hw _ (List.mem_of_getElem? (i := 194) rfl)) ((K 2 (by decide)).1.ext O.2) at_38 (pc' := 41) rfl ?_
        generalize hq93 : ad 2 = t93
        have X_t93 : Exa Z Z.heap t93 "com/example/vestline/vestline/AllocationType" := by rw [← hq93]; exact (K 2 (by decide)).2.1.ext O.2
        have F_t93 : Fld Z Z.heap t93 "com/example/vestline/vestline/AllocationType" "decimalPlaces" "I" (.int 0) := by rw [← hq93]; exact (K 2 (by decide)).2.2.ext O.2
        refine astoreN C at_41 (pc' := 42) rfl rfl (Ls' := #[.val (.int k), .val (.int i), .val (.ref t93), .val (.int 0), .unset]) rfl ?_
        refine goto_ C at_42 (by decide) (pc' := 87) rfl ?_
        refine aloadN C at_87 (pc' := 88) rfl rfl rfl ?_
        refine callVH_ C hS hk hEL hA.1 (y := (⟨"com/example/vestline/vestline/AllocationType", "acceptedQuantity", "()Ljava/lang/String;"⟩ : MethodName)) (z := (⟨"com/example/vestline/vestline/AllocationType", "acceptedQuantity", "()Ljava/lang/String;"⟩ : MethodName)) (hw _ (List.mem_of_getElem? (i := 4) rfl)) (hw _ (List.mem_of_getElem? (i := 5) rfl)) (nf_sel (hw _ (List.mem_of_getElem? (i := 7) rfl))) (hw _ (List.mem_of_getElem? (i := 7) rfl)) (hw _ (List.mem_of_getElem? (i := 6) rfl)) (hw _ (List.mem_of_getElem? (i := 2) rfl)) (hw _ (List.mem_of_getElem? (i := 8) rfl)) (by decide) X_t93 pd_23 [] [] rfl rfl (W := 0) rfl (by decide) (by decide) (by decide) (by decide) (rs_accepted_0 l Z a0 hw cs Sc hcs t93 Z.heap O X_t93 F_t93) rfl at_88 (pc' := 91) rfl ?_
        rintro vm94 kk94 _ h94 L94 ⟨b94, d94_, k_d94_, rfl, N94', K94, X94_b94, F94_b94_value, F94_b94_coder, A94_d94_⟩ C hS hk - hR94
        replace hA := hA.trans hR94
        have N94 := Fr.app N N94'
        have O94 := O.keep K94 all0
        show Wk p l e _ _ m _ below meth c _ _ _ _ _ _ (mkF m 91 #[.val (.int k), .val (.int i), .val (.ref t93), .val (.int 0), .unset] [(.ref b94)])
        refine astore C at_91 (pc' := 93) rfl rfl (Ls' := #[.val (.int k), .val (.int i), .val (.ref t93), .val (.int 0), .val (.ref b94)]) rfl ?_
        refine aload C at_93 (pc' := 95) rfl rfl rfl ?_
        refine ifnonnull_ref C at_95 (by decide) (pc' := 100) rfl ?_
        refine iloadN C at_100 (pc' := 101) rfl rfl ?_
        refine if_eq C 112 104 at_101 (by decide) rfl rfl (fun q101 => ?_) (fun q101 => ?_)
        · skip
          refine aload C at_112 (pc' := 114) rfl rfl rfl ?_
          have lt95_b94 := X94_b94.lt
          have lt95_d94_ := A94_d94_.lt
          refine ldcH_ C hS hk hEL (List.mem_of_getElem? (i := 4) rfl) hA.1 (vs := V14) (z := 24) ⟨by decide +kernel, by decide +kernel⟩ (by decide) (by decide) (hw _ (List.mem_of_getElem? (i := 19) rfl)) (strAtoms hw) at_114 (pc' := 116) rfl (n := 96) (by decide +kernel) (by decide) (by decide) (by decide) ?_
          intro vm95 kk95 b95 d95_ k_d95_ h95 C hS hk E95 hR95 X95_b95 F95_b95_coder F95_b95_value A95_d95_ hsf95
          replace hA := hA.trans hR95
          have O95 := O94.ext E95
          have X95_b94 := X94_b94.ext E95
          have F95_b94_value := F94_b94_value.ext E95
          have F95_b94_coder := F94_b94_coder.ext E95
          have A95_d94_ := A94_d94_.ext E95
          refine callV_ C (y := (⟨"java/lang/String", "equals", "(Ljava/lang/Object;)Z"⟩ : MethodName)) (z := (⟨"java/lang/String", "equals", "(Ljava/lang/Object;)Z"⟩ : MethodName)) (hw _ (List.mem_of_getElem? (i := 20) rfl)) (hw _ (List.mem_of_getElem? (i := 21) rfl)) (nf_sel (hw _ (List.mem_of_getElem? (i := 23) rfl))) (hw _ (List.mem_of_getElem? (i := 23) rfl)) (hw _ (List.mem_of_getElem? (i := 22) rfl)) (hw _ (List.mem_of_getElem? (i := 10) rfl)) (hw _ (List.mem_of_getElem? (i := 24) rfl)) (by decide) X95_b94 pd_24 [(.ref b95)] [] rfl rfl (W := 0) rfl (by decide) (by decide) (by decide) (by decide) (rs_equals_24 l Z a0 hw cs Sc hcs b94 b95 d94_ k_d94_ d95_ k_d95_ h95 O95 X95_b94 F95_b94_value F95_b94_coder X95_b95 F95_b95_value F95_b95_coder A95_d94_ A95_d95_) rfl at_116 (pc' := 119) rfl ?_
          rintro _ _ _ ⟨rfl, rfl, rfl⟩
          show Wk p l e _ _ m _ below meth c _ _ _ _ _ _ (mkF m 119 #[.val (.int k), .val (.int i), .val (.ref t93), .val (.int 0), .val (.ref b94)] [(.int 1)])
          rw [List.append_nil]
          exact ret_Z C at_119 rfl (by decide) (by decide) (by decide) ⟨rfl, N94⟩ (gh_end (a0 := a0) C.2.2.2.2.2.1 hEL hk hA)
        · exact absurd q101 (by decide)
    · skip
      refine getS_ C (hw _ (List.mem_of_getElem? (i := 196) rfl)) ((K 1 (by decide)).1.ext O.2) at_26 (pc' := 29) rfl ?_
      generalize hq97 : ad 1 = t97
      have X_t97 : Exa Z Z.heap t97 "com/example/vestline/vestline/AllocationType" := by rw [← hq97]; exact (K 1 (by decide)).2.1.ext O.2
      have F_t97 : Fld Z Z.heap t97 "com/example/vestline/vestline/AllocationType" "decimalPlaces" "I" (.int 0) := by rw [← hq97]; exact (K 1 (by decide)).2.2.ext O.2
      refine astoreN C at_29 (pc' := 30) rfl rfl (Ls' := #[.val (.int k), .val (.int i), .val (.ref t97), .val (.int 0), .unset]) rfl ?_
      refine goto_ C at_30 (by decide) (pc' := 87) rfl ?_
      refine aloadN C at_87 (pc' := 88) rfl rfl rfl ?_
      refine callVH_ C hS hk hEL hA.1 (y := (⟨"com/example/vestline/vestline/AllocationType", "acceptedQuantity", "()Ljava/lang/String;"⟩ : MethodName)) (z := (⟨"com/example/vestline/vestline/AllocationType", "acceptedQuantity", "()Ljava/lang/String;"⟩ : MethodName)) (hw _ (List.mem_of_getElem? (i := 4) rfl)) (hw _ (List.mem_of_getElem? (i := 5) rfl)) (nf_sel (hw _ (List.mem_of_getElem? (i := 7) rfl))) (hw _ (List.mem_of_getElem? (i := 7) rfl)) (hw _ (List.mem_of_getElem? (i := 6) rfl)) (hw _ (List.mem_of_getElem? (i := 2) rfl)) (hw _ (List.mem_of_getElem? (i := 8) rfl)) (by decide) X_t97 pd_23 [] [] rfl rfl (W := 0) rfl (by decide) (by decide) (by decide) (by decide) (rs_accepted_0 l Z a0 hw cs Sc hcs t97 Z.heap O X_t97 F_t97) rfl at_88 (pc' := 91) rfl ?_
      rintro vm98 kk98 _ h98 L98 ⟨b98, d98_, k_d98_, rfl, N98', K98, X98_b98, F98_b98_value, F98_b98_coder, A98_d98_⟩ C hS hk - hR98
      replace hA := hA.trans hR98
      have N98 := Fr.app N N98'
      have O98 := O.keep K98 all0
      show Wk p l e _ _ m _ below meth c _ _ _ _ _ _ (mkF m 91 #[.val (.int k), .val (.int i), .val (.ref t97), .val (.int 0), .unset] [(.ref b98)])
      refine astore C at_91 (pc' := 93) rfl rfl (Ls' := #[.val (.int k), .val (.int i), .val (.ref t97), .val (.int 0), .val (.ref b98)]) rfl ?_
      refine aload C at_93 (pc' := 95) rfl rfl rfl ?_
      refine ifnonnull_ref C at_95 (by decide) (pc' := 100) rfl ?_
      refine iloadN C at_100 (pc' := 101) rfl rfl ?_
      refine if_eq C 112 104 at_101 (by decide) rfl rfl (fun q101 => ?_) (fun q101 => ?_)
      · skip
        refine aload C at_112 (pc' := 114) rfl rfl rfl ?_
        have lt99_b98 := X98_b98.lt
        have lt99_d98_ := A98_d98_.lt
        refine ldcH_ C hS hk hEL (List.mem_of_getElem? (i := 4) rfl) hA.1 (vs := V14) (z := 24) ⟨by decide +kernel, by decide +kernel⟩ (by decide) (by decide) (hw _ (List.mem_of_getElem? (i := 19) rfl)) (strAtoms hw) at_114 (pc' := 116) rfl (n := 96) (by decide +kernel) (by decide) (by decide) (by decide) ?_
        intro vm99 kk99 b99 d99_ k_d99_ h99 C hS hk E99 hR99 X99_b99 F99_b99_coder F99_b99_value A99_d99_ hsf99
        replace hA := hA.trans hR99
        have O99 := O98.ext E99
        have X99_b98 := X98_b98.ext E99
        have F99_b98_value := F98_b98_value.ext E99
        have F99_b98_coder := F98_b98_coder.ext E99
        have A99_d98_ := A98_d98_.ext E99
        refine callV_ C (y := (⟨"java/lang/String", "equals", "(Ljava/lang/Object;)Z"⟩ : MethodName)) (z := (⟨"java/lang/String", "equals", "(Ljava/lang/Object;)Z"⟩ : MethodName)) (hw _ (List.mem_of_getElem? (i := 20) rfl)) (hw _ (List.mem_of_getElem? (i := 21) rfl)) (nf_sel (hw _ (List.mem_of_getElem? (i := 23) rfl))) (hw _ (List.mem_of_getElem? (i := 23) rfl)) (hw _ (List.mem_of_getElem? (i := 22) rfl)) (hw _ (List.mem_of_getElem? (i := 10) rfl)) (hw _ (List.mem_of_getElem? (i := 24) rfl)) (by decide) X99_b98 pd_24 [(.ref b99)] [] rfl rfl (W := 0) rfl (by decide) (by decide) (by decide) (by decide) (rs_equals_24 l Z a0 hw cs Sc hcs b98 b99 d98_ k_d98_ d99_ k_d99_ h99 O99 X99_b98 F99_b98_value F99_b98_coder X99_b99 F99_b99_value F99_b99_coder A99_d98_ A99_d99_) rfl at_116 (pc' := 119) rfl ?_
        rintro _ _ _ ⟨rfl, rfl, rfl⟩
        show Wk p l e _ _ m _ below meth c _ _ _ _ _ _ (mkF m 119 #[.val (.int k), .val (.int i), .val (.ref t97), .val (.int 0), .val (.ref b98)] [(.int 1)])
        rw [List.append_nil]
        exact ret_Z C at_119 rfl (by decide) (by decide) (by decide) ⟨rfl, N98⟩ (gh_end (a0 := a0) C.2.2.2.2.2.1 hEL hk hA)
      · exact absurd q101 (by decide)
  · skip
    refine getS_ C (hw _ (List.mem_of_getElem? (i := 1) rfl)) ((K 0 (by decide)).1.ext O.2) at_14 (pc' := 17) rfl ?_
    generalize hq101 : ad 0 = t101
    have X_t101 : Exa Z Z.heap t101 "com/example/vestline/vestline/AllocationType" := by rw [← hq101]; exact (K 0 (by decide)).2.1.ext O.2
    have F_t101 : Fld Z Z.heap t101 "com/example/vestline/vestline/AllocationType" "decimalPlaces" "I" (.int 0) := by rw [← hq101]; exact (K 0 (by decide)).2.2.ext O.2
    refine astoreN C at_17 (pc' := 18) rfl rfl (Ls' := #[.val (.int k), .val (.int i), .val (.ref t101), .val (.int 0), .unset]) rfl ?_
    refine goto_ C at_18 (by decide) (pc' := 87) rfl ?_
    refine aloadN C at_87 (pc' := 88) rfl rfl rfl ?_
    refine callVH_ C hS hk hEL hA.1 (y := (⟨"com/example/vestline/vestline/AllocationType", "acceptedQuantity", "()Ljava/lang/String;"⟩ : MethodName)) (z := (⟨"com/example/vestline/vestline/AllocationType", "acceptedQuantity", "()Ljava/lang/String;"⟩ : MethodName)) (hw _ (List.mem_of_getElem? (i := 4) rfl)) (hw _ (List.mem_of_getElem? (i := 5) rfl)) (nf_sel (hw _ (List.mem_of_getElem? (i := 7) rfl))) (hw _ (List.mem_of_getElem? (i := 7) rfl)) (hw _ (List.mem_of_getElem? (i := 6) rfl)) (hw _ (List.mem_of_getElem? (i := 2) rfl)) (hw _ (List.mem_of_getElem? (i := 8) rfl)) (by decide) X_t101 pd_23 [] [] rfl rfl (W := 0) rfl (by decide) (by decide) (by decide) (by decide) (rs_accepted_0 l Z a0 hw cs Sc hcs t101 Z.heap O X_t101 F_t101) rfl at_88 (pc' := 91) rfl ?_
    rintro vm102 kk102 _ h102 L102 ⟨b102, d102_, k_d102_, rfl, N102', K102, X102_b102, F102_b102_value, F102_b102_coder, A102_d102_⟩ C hS hk - hR102
    replace hA := hA.trans hR102
    have N102 := Fr.app N N102'
    have O102 := O.keep K102 all0
    show Wk p l e _ _ m _ below meth c _ _ _ _ _ _ (mkF m 91 #[.val (.int k), .val (.int i), .val (.ref t101), .val (.int 0), .unset] [(.ref b102)])
    refine astore C at_91 (pc' := 93) rfl rfl (Ls' := #[.val (.int k), .val (.int i), .val (.ref t101), .val (.int 0), .val (.ref b102)]) rfl ?_
    refine aload C at_93 (pc' := 95) rfl rfl rfl ?_
    refine ifnonnull_ref C at_95 (by decide) (pc' := 100) rfl ?_
    refine iloadN C at_100 (pc' := 101) rfl rfl ?_
    refine if_eq C 112 104 at_101 (by decide) rfl rfl (fun q101 => ?_) (fun q101 => ?_)
    · skip
      refine aload C at_112 (pc' := 114) rfl rfl rfl ?_
      have lt103_b102 := X102_b102.lt
      have lt103_d102_ := A102_d102_.lt
      refine ldcH_ C hS hk hEL (List.mem_of_getElem? (i := 4) rfl) hA.1 (vs := V14) (z := 24) ⟨by decide +kernel, by decide +kernel⟩ (by decide) (by decide) (hw _ (List.mem_of_getElem? (i := 19) rfl)) (strAtoms hw) at_114 (pc' := 116) rfl (n := 96) (by decide +kernel) (by decide) (by decide) (by decide) ?_
      intro vm103 kk103 b103 d103_ k_d103_ h103 C hS hk E103 hR103 X103_b103 F103_b103_coder F103_b103_value A103_d103_ hsf103
      replace hA := hA.trans hR103
      have O103 := O102.ext E103
      have X103_b102 := X102_b102.ext E103
      have F103_b102_value := F102_b102_value.ext E103
      have F103_b102_coder := F102_b102_coder.ext E103
      have A103_d102_ := A102_d102_.ext E103
      refine callV_ C (y := (⟨"java/lang/String", "equals", "(Ljava/lang/Object;)Z"⟩ : MethodName)) (z := (⟨"java/lang/String", "equals", "(Ljava/lang/Object;)Z"⟩ : MethodName)) (hw _ (List.mem_of_getElem? (i := 20) rfl)) (hw _ (List.mem_of_getElem? (i := 21) rfl)) (nf_sel (hw _ (List.mem_of_getElem? (i := 23) rfl))) (hw _ (List.mem_of_getElem? (i := 23) rfl)) (hw _ (List.mem_of_getElem? (i := 22) rfl)) (hw _ (List.mem_of_getElem? (i := 10) rfl)) (hw _ (List.mem_of_getElem? (i := 24) rfl)) (by decide) X103_b102 pd_24 [(.ref b103)] [] rfl rfl (W := 0) rfl (by decide) (by decide) (by decide) (by decide) (rs_equals_24 l Z a0 hw cs Sc hcs b102 b103 d102_ k_d102_ d103_ k_d103_ h103 O103 X103_b102 F103_b102_value F103_b102_coder X103_b103 F103_b103_value F103_b103_coder A103_d102_ A103_d103_) rfl at_116 (pc' := 119) rfl ?_
      rintro _ _ _ ⟨rfl, rfl, rfl⟩
      show Wk p l e _ _ m _ below meth c _ _ _ _ _ _ (mkF m 119 #[.val (.int k), .val (.int i), .val (.ref t101), .val (.int 0), .val (.ref b102)] [(.int 1)])
      rw [List.append_nil]
      exact ret_Z C at_119 rfl (by decide) (by decide) (by decide) ⟨rfl, N102⟩ (gh_end (a0 := a0) C.2.2.2.2.2.1 hEL hk hA)
    · exact absurd q101 (by decide)
theorem arrB {s : State} {args : Array Value} {t : Term} {a : Addr} (ev : t.eval args s none [] s = some (.ref a)) (hx : (Jvm.Cond.exactly t "[B").value args s none s [] = some true) (harr : (Jvm.Cond.arrayClass .byte).before args s = true) (hl : (Jvm.Cond.eq (.length t) (.int (Int32.ofNat 100))).value args s none s [] = some true) : ∃ cl, Arr s s.heap a cl .byte ∧ cl.slots.size = 100 := by
  obtain ⟨sd, cB, SA, kB, e1, hfcB, hcellB, hkB, hstatB, hclsB, -⟩ := Cond.exactly_spec (Cond.before_iff.mpr hx)
  cases ev.symm.trans e1
  obtain ⟨sd', SA', hev', harrAt, -⟩ := Term.length_spec (eq_int hl)
  cases ev.symm.trans hev'
  obtain ⟨hcellB', hknA, -, -⟩ := State.arrayAt?_spec harrAt
  cases hcellB.symm.trans hcellB'
  obtain ⟨cB', kB', comp, hnameB, hkB', hkindB⟩ := Cond.arrayClass_spec harr
  have eBA : ("[" ++ FieldType.toString .byte) = "[B" := by decide
  rw [eBA] at hnameB
  cases hfcB.symm.trans hnameB
  cases hkB.symm.trans hkB'
  have A : Arr s s.heap a SA .byte := ⟨hcellB, ⟨fun k h => (by rw [h] at hstatB; cases hstatB), kB, (by rw [hclsB]; exact hkB), comp, hkindB⟩, hknA⟩
  exact ⟨SA, A, arr_len (by decide) ev A hl⟩
theorem dig_arv {s : State} {args : Array Value} {t F : Term} {a : Addr} {cl : Cell} {vs : List Value} {f : Int32 → Int32} (et : ∀ idx, t.eval args s none idx s = some (.ref a)) (A : Arr s s.heap a cl .byte) (hn : cl.slots.size = 100) (hfit : Fit s) (h : (Jvm.Cond.all t (.eq (.elem t (.index 0)) F)).value args s none s [] = some true)
    (hF : ∀ J : Int32, ¬ J < 0 → F.eval args s none [J.toNatClampNeg] s = some (.int (f J))) (hv : ∀ j : Fin 100, vs.getD j.val (.int 0) = .int (f (Int32.ofNat j.val))) : Arv s s.heap a cl.cls .byte 100 vs (.int 0) := by
  have H : Has cl vs (.int 0) := fun j hj => by
    have hj' : j < 100 := by omega
    have e1 : (Int32.ofNat j).toInt = j := len_toInt (by omega)
    have e2 : (Int32.ofNat j).toNatClampNeg = j := by simp only [Int32.toNatClampNeg, e1]; rfl
    have nn : ¬ (Int32.ofNat j) < 0 := by rw [Int32.lt_iff_toInt_lt, e1]; show ¬ (j : Int) < 0; omega
    have q := Cond.all_elim (et []) (A.fin (Vm.Alike.refl _)) h (Int32.ofNat j).toNatClampNeg (by rw [e2]; exact hj)
    have q2 := eqv_i (hF _ nn) q
    rw [elem_f (et _) (idx_at nn) (A.fin (Vm.Alike.refl _)) nn, e2] at q2
    rw [q2, hv ⟨j, hj'⟩]
  refine ⟨cl, A, rfl, by rw [hn]; rfl, by decide, H, fun i hi => ?_⟩
  have e1 : (Int32.ofNat i).toNatClampNeg = i := by simp only [Int32.toNatClampNeg, show (Int32.ofNat i).toInt = i from len_toInt (by omega)]; rfl
  exact elem_fits (j := Int32.ofNat i) hfit A (idx_in hi (by omega)) (by rw [e1]; exact H i hi)
theorem dig1 : ∀ j : Fin 100, V9.getD j.val (.int 0) = .int ((48 : Int32) + Int32.ofNat j.val % 10) := by decide +kernel
theorem dig2 : ∀ j : Fin 100, V10.getD j.val (.int 0) = .int ((48 : Int32) + Int32.ofNat j.val / 10) := by decide +kernel
set_option maxRecDepth 65536 in
set_option maxHeartbeats 40000000 in
theorem comes_1 {Post : Tables → Env → Array Value → State → Outcome → State → Prop} (hpost : ∀ tb e args s v u, (limb_1_1.after args s (.returned v) u = true ∧ limb_1_2.after args s (.returned v) u = true ∧ True) → ReturnedEndW s (.returned v) u (Jvm.fieldLocs frame_1_writes args s ++ Jvm.arrayLocs frame_1_arrays args s ++ Jvm.staticLocs frame_1_statics s) 32 5568 → Post tb e args s (.returned v) u) :
    ArmFor flags0 classFile x code maxLocals ret World_1 tables_1 room_1 Calls_1 rest_1 Pre_1 Post := by
  intro l hfl _ _ p e ha hc hk s m args below hf hA hF happ hP
  obtain ⟨hcalls, hrest, hpre⟩ := hP
  obtain ⟨-, -, -, hnamed, -, -, -, hat⟩ := (Spec.applies_iff hf).mp happ
  obtain ⟨hg, hn⟩ := and_e (Cond.before_iff.mp (show (Jvm.Cond.and given_1 narrow_1).before args s = true from hpre))
  obtain ⟨u1, w1_⟩ := and_e hg
  obtain ⟨u2, w2_⟩ := and_e hn
  obtain ⟨u3, w3_⟩ := and_e w2_
  obtain ⟨u4, w4_⟩ := and_e w3_
  obtain ⟨u5, w5_⟩ := and_e w4_
  obtain ⟨u6, w6_⟩ := and_e w5_
  obtain ⟨u7, w7_⟩ := and_e w6_
  obtain ⟨u8, w8_⟩ := and_e w7_
  obtain ⟨u9, w9_⟩ := and_e w8_
  obtain ⟨u10, w10_⟩ := and_e w9_
  obtain ⟨u11, w11_⟩ := and_e w10_
  obtain ⟨u12, w12_⟩ := and_e w11_
  obtain ⟨u13, w13_⟩ := and_e w12_
  obtain ⟨u14, w14_⟩ := and_e w13_
  obtain ⟨v0, rfl⟩ : ∃ v0 : Value, args = #[v0] := by
    have hs : args.size = 1 := by simpa [Cond.value, given_1] using u1
    obtain ⟨L⟩ := args
    match L, hs with
    | [v0], _ => exact ⟨v0, rfl⟩
  have hw := fun d (hd : d ∈ tables_1) => atoms_spec (ws := Jvm.Cond.code x code maxLocals ret :: tables_1) hat d (List.mem_cons_of_mem _ hd)
  have hfit : Fit s := fun {y c} hc i hi => by
    obtain ⟨ha, rfl⟩ := Array.getElem?_eq_some_iff.mp hc
    have q := List.all_eq_true.mp ((Array.all_eq_true_iff_forall_mem.mp hF) _ (Array.getElem_mem ha)) i (List.mem_range.mpr hi)
    simpa [Array.getElem?_eq_getElem hi] using q
  obtain ⟨hsets, hown0⟩ := atoms_of _ (rest_1_c_eq ▸ (show rest_1_c.before _ s = true from hrest))
  obtain ⟨i0, ei0⟩ := is_v w1_
  obtain rfl : v0 = (.int i0) := Option.some.inj ei0
  obtain ⟨ad_CUMULATIVE_ROUNDING, ev_CUMULATIVE_ROUNDING, S_CUMULATIVE_ROUNDING, E_CUMULATIVE_ROUNDING⟩ := sta_of u2 (hw _ (List.mem_of_getElem? (i := 2) rfl)) (hw _ (List.mem_of_getElem? (i := 3) rfl))
  obtain ⟨ad_BACK_LOADED, ev_BACK_LOADED, S_BACK_LOADED, E_BACK_LOADED⟩ := sta_of u4 (hw _ (List.mem_of_getElem? (i := 2) rfl)) (hw _ (List.mem_of_getElem? (i := 26) rfl))
  obtain ⟨ad_BACK_LOADED_TO_SINGLE_TRANCHE, ev_BACK_LOADED_TO_SINGLE_TRANCHE, S_BACK_LOADED_TO_SINGLE_TRANCHE, E_BACK_LOADED_TO_SINGLE_TRANCHE⟩ := sta_of u6 (hw _ (List.mem_of_getElem? (i := 2) rfl)) (hw _ (List.mem_of_getElem? (i := 28) rfl))
  obtain ⟨ad_FRACTIONAL, ev_FRACTIONAL, S_FRACTIONAL, E_FRACTIONAL⟩ := sta_of u8 (hw _ (List.mem_of_getElem? (i := 2) rfl)) (hw _ (List.mem_of_getElem? (i := 30) rfl))
  obtain ⟨ad_FRONT_LOADED_TO_SINGLE_TRANCHE, ev_FRONT_LOADED_TO_SINGLE_TRANCHE, S_FRONT_LOADED_TO_SINGLE_TRANCHE, E_FRONT_LOADED_TO_SINGLE_TRANCHE⟩ := sta_of u10 (hw _ (List.mem_of_getElem? (i := 2) rfl)) (hw _ (List.mem_of_getElem? (i := 193) rfl))
  obtain ⟨ad_FRONT_LOADED, ev_FRONT_LOADED, S_FRONT_LOADED, E_FRONT_LOADED⟩ := sta_of u12 (hw _ (List.mem_of_getElem? (i := 2) rfl)) (hw _ (List.mem_of_getElem? (i := 195) rfl))
  obtain ⟨ad_CUMULATIVE_ROUND_DOWN, ev_CUMULATIVE_ROUND_DOWN, S_CUMULATIVE_ROUND_DOWN, E_CUMULATIVE_ROUND_DOWN⟩ := sta_of u14 (hw _ (List.mem_of_getElem? (i := 2) rfl)) (hw _ (List.mem_of_getElem? (i := 197) rfl))
  have F_decimalPlaces_CUMULATIVE_ROUNDING := fld_of ev_CUMULATIVE_ROUNDING u3
  have F_decimalPlaces_BACK_LOADED := fld_of ev_BACK_LOADED u5
  have F_decimalPlaces_BACK_LOADED_TO_SINGLE_TRANCHE := fld_of ev_BACK_LOADED_TO_SINGLE_TRANCHE u7
  have F_decimalPlaces_FRACTIONAL := fld_of ev_FRACTIONAL u9
  have F_decimalPlaces_FRONT_LOADED_TO_SINGLE_TRANCHE := fld_of ev_FRONT_LOADED_TO_SINGLE_TRANCHE u11
  have F_decimalPlaces_FRONT_LOADED := fld_of ev_FRONT_LOADED u13
  have F_decimalPlaces_CUMULATIVE_ROUND_DOWN := fld_of ev_CUMULATIVE_ROUND_DOWN w14_
  obtain ⟨cs, evc⟩ := is_v (Cond.before_iff.mp (hsets _ (List.mem_of_getElem? (i := 1) rfl)))
  have Sc := Sta.start evc (Or.inl (hsets _ (List.mem_of_getElem? (i := 0) rfl)))
  have hcs : ¬ cs = 0 := by
    have q := not_v (Cond.before_iff.mp (hsets _ (List.mem_of_getElem? (i := 2) rfl)))
    intro h
    subst h
    simp [Cond.value, evc, Term.int_eval] at q
  obtain ⟨d1, ev_d1⟩ := exa_v (Cond.before_iff.mp (hsets _ (List.mem_of_getElem? (i := 12) rfl)))
  have S_d1 := Sta.start ev_d1 (Or.inl (hsets _ (List.mem_of_getElem? (i := 11) rfl)))
  obtain ⟨cl_d1, Ar_d1, sz_d1⟩ := arrB ev_d1 (Cond.before_iff.mp (hsets _ (List.mem_of_getElem? (i := 12) rfl))) (hw _ (List.mem_of_getElem? (i := 12) rfl)) (Cond.before_iff.mp (hsets _ (List.mem_of_getElem? (i := 13) rfl)))
  have A_d1 := dig_arv (f := fun J => 48 + J % 10) (fun idx => ev_d1) Ar_d1 sz_d1 hfit (Cond.before_iff.mp (hsets _ (List.mem_of_getElem? (i := 14) rfl))) (fun J hJ => by show some (Value.int (48 + J.toNatClampNeg.toInt32 % 10)) = _; rw [(back32 hJ).1]) dig1
  obtain ⟨d2, ev_d2⟩ := exa_v (Cond.before_iff.mp (hsets _ (List.mem_of_getElem? (i := 17) rfl)))
  have S_d2 := Sta.start ev_d2 (Or.inl (hsets _ (List.mem_of_getElem? (i := 16) rfl)))
  obtain ⟨cl_d2, Ar_d2, sz_d2⟩ := arrB ev_d2 (Cond.before_iff.mp (hsets _ (List.mem_of_getElem? (i := 17) rfl))) (hw _ (List.mem_of_getElem? (i := 12) rfl)) (Cond.before_iff.mp (hsets _ (List.mem_of_getElem? (i := 18) rfl)))
  have A_d2 := dig_arv (f := fun J => 48 + J / 10) (fun idx => ev_d2) Ar_d2 sz_d2 hfit (Cond.before_iff.mp (hsets _ (List.mem_of_getElem? (i := 19) rfl))) (fun J hJ => by show some (Value.int (48 + J.toNatClampNeg.toInt32 / 10)) = _; rw [(back32 hJ).1]) dig2
  have K : KsA s (fun k => [ad_CUMULATIVE_ROUNDING, ad_CUMULATIVE_ROUND_DOWN, ad_FRONT_LOADED, ad_BACK_LOADED, ad_FRONT_LOADED_TO_SINGLE_TRANCHE, ad_BACK_LOADED_TO_SINGLE_TRANCHE, ad_FRACTIONAL].getD k 0) := fun k hk => by
    match k, hk with
    | 0, _ => exact ⟨S_CUMULATIVE_ROUNDING, E_CUMULATIVE_ROUNDING, F_decimalPlaces_CUMULATIVE_ROUNDING⟩
    | 1, _ => exact ⟨S_CUMULATIVE_ROUND_DOWN, E_CUMULATIVE_ROUND_DOWN, F_decimalPlaces_CUMULATIVE_ROUND_DOWN⟩
    | 2, _ => exact ⟨S_FRONT_LOADED, E_FRONT_LOADED, F_decimalPlaces_FRONT_LOADED⟩
    | 3, _ => exact ⟨S_BACK_LOADED, E_BACK_LOADED, F_decimalPlaces_BACK_LOADED⟩
    | 4, _ => exact ⟨S_FRONT_LOADED_TO_SINGLE_TRANCHE, E_FRONT_LOADED_TO_SINGLE_TRANCHE, F_decimalPlaces_FRONT_LOADED_TO_SINGLE_TRANCHE⟩
    | 5, _ => exact ⟨S_BACK_LOADED_TO_SINGLE_TRANCHE, E_BACK_LOADED_TO_SINGLE_TRANCHE, F_decimalPlaces_BACK_LOADED_TO_SINGLE_TRANCHE⟩
    | 6, _ => exact ⟨S_FRACTIONAL, E_FRACTIONAL, F_decimalPlaces_FRACTIONAL⟩
    | k + 7, hk => exact absurd hk (by omega)
  have H0 : CHv s consts_1 s.vm s.heap := CHv.start (ew hw) (fun q hq => hcalls.1 q hq) (show Jvm.Lit.compactW.before _ s = true from (hsets _ (List.mem_of_getElem? (i := 2) rfl))) (hw _ (List.mem_of_getElem? (i := 12) rfl)) (hw _ (List.mem_of_getElem? (i := 11) rfl))
  obtain ⟨n, o, h1, h2, h3, _, L, rfl, ⟨rfl, N⟩, -, hq⟩ := rm0 l s _ hw cs Sc hcs _ K d1 _ d2 _ i0 _ rfl s.heap rfl A_d1 A_d2 S_d1 S_d2 p e ha hc hk s m _ below hf ((Spec.applies_iff_loose hf).mp happ).1 ⟨rfl, State.Warmed39.refl s, rfl, H0⟩ trivial
  exact ⟨n, _, h1, h2, h3, hpost _ _ _ _ _ _ ⟨Cond.after_iff.mpr rfl, Cond.after_iff.mpr (eq_i res_at (Term.int_eval (1)) rfl), trivial⟩ ⟨hq.1, hq.2.1, hq.2.2.1, (hq.2.2.2.sift fun y hy => Or.inr (N y hy)).mono (by decide) (by decide)⟩⟩
theorem main_1_1 : Claimed_1_1 := comes_1 fun _ _ _ _ _ _ h hF => ⟨h.1, hF⟩
theorem main_1_2 : Claimed_1_2 := comes_1 fun _ _ _ _ _ _ h hF => ⟨h.2.1, hF⟩
end Jvm.Pilot.@@N@@
namespace Jvm.Pilot.@@N@@
open Jvm Jvm.ClassFile Sem Op Lib Jvm.Free Jvm.Stand Jvm.Pilot.@@N@@.Jvm.D
/-! MADE BY PROGRAM (witnessworld.py) out of the Statement's table words and the real class files: 26 classes; the members and pool entries that the words name. The judged class is class 1, her method 1. -/
namespace start1
open Jvm.ClassFile
def u (s : String) : CpInfo := .utf8 (stringToUtf16 s)
/-- a pool by its gaps: so many unusable entries, then the entry; so many at the end -/
def gap : Nat → List CpInfo → List CpInfo
  | 0, r => r
  | n + 1, r => .unusable :: gap n r
def poolList (es : List (Nat × CpInfo)) (last : Nat) : List CpInfo := es.foldr (fun e r => gap e.1 (e.2 :: r)) (gap last [])
def pool (es : List (Nat × CpInfo)) (last : Nat) : Array CpInfo := ⟨poolList es last⟩
def fileOf (pool : Array CpInfo) (this : Nat) (attrs : Array Attribute := #[]) (ms : Array MethodInfo := #[]) (fl : Nat := 33) (sup : Nat := 0) (ifs : Array Nat := #[]) (fds : Array FieldInfo := #[]) : ClassFile where
  minorVersion := 0
  majorVersion := 65
  constantPool := pool
  accessFlags := fl
  thisClass := this
  superClass := sup
  interfaces := ifs
  fields := fds
  methods := ms
  attributes := attrs
def plain (name : String) (sup : Option ClassId) : Class where
  name := name
  kind := .ordinary
  loader := none
  accessFlags := 33
  super := sup
  interfaces := #[]
  cf := none
  fields := #[]
  methods := #[]
  instanceTypes := #[]
  staticTypes := #[]
  resolved := #[]
  callSites := []
  init := .initialized
  statics := none
  mirror := none

def pool0 : Array CpInfo := pool [(5, u "<init>"), (0, u "()V"), (1, .class_ 10), (1, u "java/lang/Object")] 113

def k0c0 : Code := { maxStack := 0, maxLocals := 1, code := object_method_1_code, exceptionTable := #[], attributes := #[] }
def k0m0 : Method := { name := "<init>", desc := "()V", sig := { parameters := [], returnType := none }, accessFlags := 1, code := some k0c0 }
/-- java/lang/Object -/
def k0 : Class := { plain "java/lang/Object" none with
  accessFlags := 33
  interfaces := #[]
  cf := some (fileOf pool0 8 #[] #[{ accessFlags := 1, nameIndex := 5, descriptorIndex := 6, attributes := #[] }] 33 0 #[] #[])
  fields := #[]
  methods := #[k0m0]
  instanceTypes := #[]
  staticTypes := #[]
  resolved := Array.replicate 124 none
  statics := none }

def pool1 : Array CpInfo := pool [(2, .class_ 4), (1, u "java/lang/Object"), (0, u "<init>"), (0, u "()V"), (0, .integer 2147483647), (0, .fieldref 9 10), (0, .class_ 11), (0, .nameAndType 12 13), (0, u "com/example/vestline/vestline/AllocationType"), (0, u "CUMULATIVE_ROUNDING"), (0, u "Lcom/example/vestline/vestline/AllocationType;"), (0, .fieldref 9 15), (0, .nameAndType 16 13), (0, u "CUMULATIVE_ROUND_DOWN"), (0, .fieldref 9 18), (0, .nameAndType 19 13), (0, u "FRONT_LOADED"), (0, .fieldref 9 21), (0, .nameAndType 22 13), (0, u "BACK_LOADED"), (0, .fieldref 9 24), (0, .nameAndType 25 13), (0, u "FRONT_LOADED_TO_SINGLE_TRANCHE"), (0, .fieldref 9 27), (0, .nameAndType 28 13), (0, u "BACK_LOADED_TO_SINGLE_TRANCHE"), (0, .fieldref 9 30), (0, .nameAndType 31 13), (0, u "FRACTIONAL"), (0, .methodref 9 33), (0, .nameAndType 34 35), (0, u "acceptedQuantity"), (0, u "()Ljava/lang/String;"), (0, .string 37), (0, u "a number of shares of at most 10 decimal places"), (0, .methodref 39 40), (0, .class_ 41), (0, .nameAndType 42 43), (0, u "java/lang/String"), (0, u "equals"), (0, u "(Ljava/lang/Object;)Z"), (0, .string 45), (0, u "a whole number of shares"), (0, .class_ 47), (0, u "com/example/vestline/vestline/AllocationTypeAcceptedQuantityPinLaw"), (2, u "law"), (0, u "(I)Z")] 3

def k1m0 : Method := { name := "<init>", desc := "()V", sig := { parameters := [], returnType := none }, accessFlags := 1, code := none }
def k1c1 : Code := { maxStack := 2, maxLocals := 5, code := code, exceptionTable := #[], attributes := #[] }
def k1m1 : Method := { name := "law", desc := "(I)Z", sig := { parameters := [.int], returnType := some .boolean }, accessFlags := 9, code := some k1c1 }
/-- com/example/vestline/vestline/AllocationTypeAcceptedQuantityPinLaw -/
def k1 : Class := { plain "com/example/vestline/vestline/AllocationTypeAcceptedQuantityPinLaw" (some 0) with
  accessFlags := 49
  interfaces := #[]
  cf := some (fileOf pool1 46 #[] #[{ accessFlags := 1, nameIndex := 5, descriptorIndex := 6, attributes := #[] }, { accessFlags := 9, nameIndex := 50, descriptorIndex := 51, attributes := #[] }] 49 2 #[] #[])
  fields := #[]
  methods := #[k1m0, k1m1]
  instanceTypes := #[]
  staticTypes := #[]
  resolved := Array.replicate 55 none
  statics := none }

def pool2 : Array CpInfo := pool [(1, .class_ 2), (0, u "java/lang/constant/Constable"), (0, .class_ 4), (0, u "java/lang/Object")] 6

/-- java/lang/constant/Constable -/
def k2 : Class := { plain "java/lang/constant/Constable" (some 0) with
  accessFlags := 1537
  interfaces := #[]
  cf := some (fileOf pool2 1 #[] #[] 1537 3 #[] #[])
  fields := #[]
  methods := #[]
  instanceTypes := #[]
  staticTypes := #[]
  resolved := Array.replicate 11 none
  statics := none }

def pool3 : Array CpInfo := pool [(1, .class_ 2), (0, u "java/lang/Comparable"), (0, .class_ 4), (0, u "java/lang/Object")] 7

/-- java/lang/Comparable -/
def k3 : Class := { plain "java/lang/Comparable" (some 0) with
  accessFlags := 1537
  interfaces := #[]
  cf := some (fileOf pool3 1 #[] #[] 1537 3 #[] #[])
  fields := #[]
  methods := #[]
  instanceTypes := #[]
  staticTypes := #[]
  resolved := Array.replicate 12 none
  statics := none }

def pool4 : Array CpInfo := pool [(1, .class_ 2), (0, u "java/io/Serializable"), (0, .class_ 4), (0, u "java/lang/Object")] 2

/-- java/io/Serializable -/
def k4 : Class := { plain "java/io/Serializable" (some 0) with
  accessFlags := 1537
  interfaces := #[]
  cf := some (fileOf pool4 1 #[] #[] 1537 3 #[] #[])
  fields := #[]
  methods := #[]
  instanceTypes := #[]
  staticTypes := #[]
  resolved := Array.replicate 7 none
  statics := none }

def pool5 : Array CpInfo := pool [(2, .class_ 4), (1, u "java/lang/Enum"), (0, u "name"), (0, u "Ljava/lang/String;"), (2, u "ordinal"), (0, u "I"), (1, .class_ 14), (1, u "java/lang/Object"), (4, u "hash"), (86, .class_ 108), (1, u "java/lang/Enum$EnumDesc"), (2, .class_ 112), (0, u "java/lang/constant/Constable"), (0, .class_ 114), (0, u "java/lang/Comparable"), (0, .class_ 116), (0, u "java/io/Serializable")] 87

/-- java/lang/Enum -/
def k5 : Class := { plain "java/lang/Enum" (some 0) with
  accessFlags := 1057
  interfaces := #[2, 3, 4]
  cf := some (fileOf pool5 2 #[.nestMembers #[106]] #[] 1057 12 #[111, 113, 115] #[{ accessFlags := 18, nameIndex := 5, descriptorIndex := 6, attributes := #[] }, { accessFlags := 18, nameIndex := 9, descriptorIndex := 10, attributes := #[] }, { accessFlags := 2, nameIndex := 19, descriptorIndex := 10, attributes := #[] }])
  fields := #[{ name := "name", type := (.object "java/lang/String"), accessFlags := 18, slot := 0, constantValue := 0 }, { name := "ordinal", type := .int, accessFlags := 18, slot := 1, constantValue := 0 }, { name := "hash", type := .int, accessFlags := 2, slot := 2, constantValue := 0 }]
  methods := #[]
  instanceTypes := #[(.object "java/lang/String"), .int, .int]
  staticTypes := #[]
  resolved := Array.replicate 204 none
  statics := none }

def pool6 : Array CpInfo := pool [(1, .class_ 2), (0, u "com/example/vestline/vestline/AllocationType"), (2, u "CUMULATIVE_ROUNDING"), (0, u "Lcom/example/vestline/vestline/AllocationType;"), (2, u "CUMULATIVE_ROUND_DOWN"), (2, u "FRONT_LOADED"), (2, u "BACK_LOADED"), (2, u "FRONT_LOADED_TO_SINGLE_TRANCHE"), (2, u "BACK_LOADED_TO_SINGLE_TRANCHE"), (2, u "FRACTIONAL"), (2, u "$VALUES"), (0, u "[Lcom/example/vestline/vestline/AllocationType;"), (6, .class_ 37), (1, u "java/lang/Enum"), (4, u "<init>"), (4, .fieldref 1 48), (0, .nameAndType 49 50), (0, u "decimalPlaces"), (0, u "I"), (13, .string 65), (0, u "a whole number of shares"), (0, .class_ 67), (0, u "java/lang/StringBuilder"), (0, .methodref 66 69), (0, .nameAndType 42 70), (0, u "()V"), (0, .string 72), (0, u "a number of shares of at most "), (0, .methodref 66 74), (0, .nameAndType 75 76), (0, u "append"), (0, u "(Ljava/lang/String;)Ljava/lang/StringBuilder;"), (0, .methodref 66 78), (0, .nameAndType 75 79), (0, u "(I)Ljava/lang/StringBuilder;"), (0, .string 81), (0, u " decimal places"), (0, .methodref 66 83), (0, .nameAndType 84 85), (0, u "toString"), (0, u "()Ljava/lang/String;"), (157, u "FORMAT_DECIMAL_PLACES"), (11, u "acceptedQuantity")] 13

def k6c0 : Code := { maxStack := 2, maxLocals := 2, code := prog_3_method_7_code, exceptionTable := #[], attributes := #[] }
def k6m0 : Method := { name := "acceptedQuantity", desc := "()Ljava/lang/String;", sig := { parameters := [], returnType := some (.object "java/lang/String") }, accessFlags := 1, code := some k6c0 }
/-- com/example/vestline/vestline/AllocationType -/
def k6 : Class := { plain "com/example/vestline/vestline/AllocationType" (some 5) with
  accessFlags := 16433
  interfaces := #[]
  cf := some (fileOf pool6 1 #[] #[{ accessFlags := 1, nameIndex := 255, descriptorIndex := 85, attributes := #[] }] 16433 35 #[] #[{ accessFlags := 16409, nameIndex := 5, descriptorIndex := 6, attributes := #[] }, { accessFlags := 16409, nameIndex := 9, descriptorIndex := 6, attributes := #[] }, { accessFlags := 16409, nameIndex := 12, descriptorIndex := 6, attributes := #[] }, { accessFlags := 16409, nameIndex := 15, descriptorIndex := 6, attributes := #[] }, { accessFlags := 16409, nameIndex := 18, descriptorIndex := 6, attributes := #[] }, { accessFlags := 16409, nameIndex := 21, descriptorIndex := 6, attributes := #[] }, { accessFlags := 16409, nameIndex := 24, descriptorIndex := 6, attributes := #[] }, { accessFlags := 25, nameIndex := 243, descriptorIndex := 50, attributes := #[] }, { accessFlags := 18, nameIndex := 49, descriptorIndex := 50, attributes := #[] }, { accessFlags := 4122, nameIndex := 27, descriptorIndex := 28, attributes := #[] }])
  fields := #[{ name := "CUMULATIVE_ROUNDING", type := (.object "com/example/vestline/vestline/AllocationType"), accessFlags := 16409, slot := 0, constantValue := 0 }, { name := "CUMULATIVE_ROUND_DOWN", type := (.object "com/example/vestline/vestline/AllocationType"), accessFlags := 16409, slot := 1, constantValue := 0 }, { name := "FRONT_LOADED", type := (.object "com/example/vestline/vestline/AllocationType"), accessFlags := 16409, slot := 2, constantValue := 0 }, { name := "BACK_LOADED", type := (.object "com/example/vestline/vestline/AllocationType"), accessFlags := 16409, slot := 3, constantValue := 0 }, { name := "FRONT_LOADED_TO_SINGLE_TRANCHE", type := (.object "com/example/vestline/vestline/AllocationType"), accessFlags := 16409, slot := 4, constantValue := 0 }, { name := "BACK_LOADED_TO_SINGLE_TRANCHE", type := (.object "com/example/vestline/vestline/AllocationType"), accessFlags := 16409, slot := 5, constantValue := 0 }, { name := "FRACTIONAL", type := (.object "com/example/vestline/vestline/AllocationType"), accessFlags := 16409, slot := 6, constantValue := 0 }, { name := "FORMAT_DECIMAL_PLACES", type := .int, accessFlags := 25, slot := 7, constantValue := 0 }, { name := "decimalPlaces", type := .int, accessFlags := 18, slot := 3, constantValue := 0 }, { name := "$VALUES", type := (.array (.object "com/example/vestline/vestline/AllocationType")), accessFlags := 4122, slot := 8, constantValue := 0 }]
  methods := #[k6m0]
  instanceTypes := #[(.object "java/lang/String"), .int, .int, .int]
  staticTypes := #[(.object "com/example/vestline/vestline/AllocationType"), (.object "com/example/vestline/vestline/AllocationType"), (.object "com/example/vestline/vestline/AllocationType"), (.object "com/example/vestline/vestline/AllocationType"), (.object "com/example/vestline/vestline/AllocationType"), (.object "com/example/vestline/vestline/AllocationType"), (.object "com/example/vestline/vestline/AllocationType"), .int, (.array (.object "com/example/vestline/vestline/AllocationType"))]
  resolved := Array.replicate 269 none
  statics := some 0 }

def pool7 : Array CpInfo := pool [(2, .class_ 4), (1, u "java/lang/CharSequence"), (42, .class_ 48), (0, u "java/lang/CharSequence$1CodePointIterator"), (10, .class_ 60), (0, u "java/lang/CharSequence$1CharIterator"), (5, .class_ 67), (0, u "java/lang/Object")] 63

/-- java/lang/CharSequence -/
def k7 : Class := { plain "java/lang/CharSequence" (some 0) with
  accessFlags := 1537
  interfaces := #[]
  cf := some (fileOf pool7 2 #[.nestMembers #[47, 59]] #[] 1537 66 #[] #[])
  fields := #[]
  methods := #[]
  instanceTypes := #[]
  staticTypes := #[]
  resolved := Array.replicate 131 none
  statics := none }

def pool8 : Array CpInfo := pool [(1, .class_ 2), (0, u "java/lang/constant/ConstantDesc"), (0, .class_ 4), (0, u "java/lang/Object")] 32

/-- java/lang/constant/ConstantDesc -/
def k8 : Class := { plain "java/lang/constant/ConstantDesc" (some 0) with
  accessFlags := 1537
  interfaces := #[]
  cf := some (fileOf pool8 1 #[] #[] 1537 3 #[] #[])
  fields := #[]
  methods := #[]
  instanceTypes := #[]
  staticTypes := #[]
  resolved := Array.replicate 37 none
  statics := none }

def pool9 : Array CpInfo := pool [(1, .methodref 2 3), (0, .class_ 4), (0, .nameAndType 5 6), (0, u "java/lang/Object"), (0, u "<init>"), (0, u "()V"), (2, .fieldref 10 11), (0, .class_ 12), (0, .nameAndType 13 14), (0, u "java/lang/String"), (0, u "value"), (0, u "[B"), (0, .fieldref 10 16), (0, .nameAndType 17 18), (0, u "coder"), (0, u "B"), (2, u "hash"), (0, u "I"), (2, u "hashIsZero"), (0, u "Z"), (11, .fieldref 10 39), (0, .nameAndType 40 26), (0, u "COMPACT_STRINGS"), (13, .methodref 55 56), (0, .class_ 57), (0, .nameAndType 58 59), (0, u "java/util/Arrays"), (0, u "copyOfRange"), (0, u "([BII)[B"), (47, .class_ 109), (1, u "java/lang/StringLatin1"), (32, u "()Z"), (50, .class_ 195), (1, u "java/lang/System"), (16, .methodref 193 213), (0, .nameAndType 214 215), (0, u "arraycopy"), (0, u "(Ljava/lang/Object;ILjava/lang/Object;II)V"), (118, u "()I"), (0, .methodref 10 336), (0, .nameAndType 17 337), (0, u "()B"), (2, u "()[B"), (148, .methodref 10 490), (0, .nameAndType 5 491), (0, u "(Ljava/lang/AbstractStringBuilder;Ljava/lang/Void;)V"), (1, .nameAndType 494 142), (0, u "isLatin1"), (11, .nameAndType 507 334), (0, u "length"), (24, u "getBytes"), (8, .methodref 107 542), (0, .nameAndType 543 544), (0, u "equals"), (0, u "([B[B)Z"), (4, .methodref 550 506), (0, .class_ 551), (0, u "java/lang/AbstractStringBuilder"), (0, .methodref 550 553), (0, .nameAndType 554 340), (0, u "getValue"), (18, u "(Ljava/lang/Object;)Z"), (1, .class_ 576), (0, u "java/lang/CharSequence"), (22, u "CASE_INSENSITIVE_ORDER"), (0, u "Ljava/util/Comparator;"), (220, u "([BIB)V"), (225, .methodref 550 493), (53, u "serialPersistentFields"), (0, u "[Ljava/io/ObjectStreamField;"), (0, .class_ 1104), (0, u "java/lang/String$CaseInsensitiveComparator"), (1, .class_ 1107), (0, u "java/io/Serializable"), (0, .class_ 1109), (0, u "java/lang/Comparable"), (0, .class_ 1111), (0, u "java/lang/constant/Constable"), (0, .class_ 1113), (0, u "java/lang/constant/ConstantDesc"), (2, u "serialVersionUID"), (0, u "J"), (3, u "REPL"), (0, u "C"), (2, u "LATIN1"), (1, u "UTF16"), (105, u "(Ljava/lang/StringBuilder;)V")] 217

def k9m0 : Method := { name := "<init>", desc := "()V", sig := { parameters := [], returnType := none }, accessFlags := 1, code := none }
def k9c1 : Code := { maxStack := 3, maxLocals := 2, code := jdk_42_method_53_code, exceptionTable := #[], attributes := #[] }
def k9m1 : Method := { name := "<init>", desc := "(Ljava/lang/StringBuilder;)V", sig := { parameters := [(.object "java/lang/StringBuilder")], returnType := none }, accessFlags := 1, code := some k9c1 }
def k9c2 : Code := { maxStack := 2, maxLocals := 1, code := jdk_42_method_54_code, exceptionTable := #[], attributes := #[] }
def k9m2 : Method := { name := "length", desc := "()I", sig := { parameters := [], returnType := some .int }, accessFlags := 1, code := some k9c2 }
def k9c3 : Code := { maxStack := 2, maxLocals := 3, code := jdk_42_method_66_code, exceptionTable := #[], attributes := #[] }
def k9m3 : Method := { name := "equals", desc := "(Ljava/lang/Object;)Z", sig := { parameters := [(.object "java/lang/Object")], returnType := some .boolean }, accessFlags := 1, code := some k9c3 }
def k9c4 : Code := { maxStack := 5, maxLocals := 4, code := jdk_42_method_147_code, exceptionTable := #[], attributes := #[] }
def k9m4 : Method := { name := "getBytes", desc := "([BIB)V", sig := { parameters := [(.array .byte), .int, .byte], returnType := none }, accessFlags := 0, code := some k9c4 }
def k9c5 : Code := { maxStack := 5, maxLocals := 5, code := jdk_42_method_150_code, exceptionTable := #[], attributes := #[] }
def k9m5 : Method := { name := "<init>", desc := "(Ljava/lang/AbstractStringBuilder;Ljava/lang/Void;)V", sig := { parameters := [(.object "java/lang/AbstractStringBuilder"), (.object "java/lang/Void")], returnType := none }, accessFlags := 0, code := some k9c5 }
def k9c6 : Code := { maxStack := 1, maxLocals := 1, code := jdk_42_method_152_code, exceptionTable := #[], attributes := #[] }
def k9m6 : Method := { name := "coder", desc := "()B", sig := { parameters := [], returnType := some .byte }, accessFlags := 0, code := some k9c6 }
/-- java/lang/String -/
def k9 : Class := { plain "java/lang/String" (some 0) with
  accessFlags := 49
  interfaces := #[4, 3, 7, 2, 8]
  cf := some (fileOf pool9 10 #[.nestMembers #[1103]] #[{ accessFlags := 1, nameIndex := 5, descriptorIndex := 6, attributes := #[] }, { accessFlags := 1, nameIndex := 5, descriptorIndex := 1233, attributes := #[] }, { accessFlags := 1, nameIndex := 507, descriptorIndex := 334, attributes := #[] }, { accessFlags := 1, nameIndex := 543, descriptorIndex := 573, attributes := #[] }, { accessFlags := 0, nameIndex := 532, descriptorIndex := 821, attributes := #[] }, { accessFlags := 0, nameIndex := 5, descriptorIndex := 491, attributes := #[] }, { accessFlags := 0, nameIndex := 17, descriptorIndex := 337, attributes := #[] }] 49 2 #[1106, 1108, 575, 1110, 1112] #[{ accessFlags := 18, nameIndex := 13, descriptorIndex := 14, attributes := #[] }, { accessFlags := 18, nameIndex := 17, descriptorIndex := 18, attributes := #[] }, { accessFlags := 2, nameIndex := 21, descriptorIndex := 22, attributes := #[] }, { accessFlags := 2, nameIndex := 25, descriptorIndex := 26, attributes := #[] }, { accessFlags := 26, nameIndex := 1116, descriptorIndex := 1117, attributes := #[] }, { accessFlags := 24, nameIndex := 40, descriptorIndex := 26, attributes := #[] }, { accessFlags := 26, nameIndex := 1101, descriptorIndex := 1102, attributes := #[] }, { accessFlags := 26, nameIndex := 1121, descriptorIndex := 1122, attributes := #[] }, { accessFlags := 25, nameIndex := 599, descriptorIndex := 600, attributes := #[] }, { accessFlags := 24, nameIndex := 1125, descriptorIndex := 18, attributes := #[] }, { accessFlags := 24, nameIndex := 1127, descriptorIndex := 18, attributes := #[] }])
  fields := #[{ name := "value", type := (.array .byte), accessFlags := 18, slot := 0, constantValue := 0 }, { name := "coder", type := .byte, accessFlags := 18, slot := 1, constantValue := 0 }, { name := "hash", type := .int, accessFlags := 2, slot := 2, constantValue := 0 }, { name := "hashIsZero", type := .boolean, accessFlags := 2, slot := 3, constantValue := 0 }, { name := "serialVersionUID", type := .long, accessFlags := 26, slot := 0, constantValue := 0 }, { name := "COMPACT_STRINGS", type := .boolean, accessFlags := 24, slot := 1, constantValue := 0 }, { name := "serialPersistentFields", type := (.array (.object "java/io/ObjectStreamField")), accessFlags := 26, slot := 2, constantValue := 0 }, { name := "REPL", type := .char, accessFlags := 26, slot := 3, constantValue := 0 }, { name := "CASE_INSENSITIVE_ORDER", type := (.object "java/util/Comparator"), accessFlags := 25, slot := 4, constantValue := 0 }, { name := "LATIN1", type := .byte, accessFlags := 24, slot := 5, constantValue := 0 }, { name := "UTF16", type := .byte, accessFlags := 24, slot := 6, constantValue := 0 }]
  methods := #[k9m0, k9m1, k9m2, k9m3, k9m4, k9m5, k9m6]
  instanceTypes := #[(.array .byte), .byte, .int, .boolean]
  staticTypes := #[.long, .boolean, (.array (.object "java/io/ObjectStreamField")), .char, (.object "java/util/Comparator"), .byte, .byte]
  resolved := Array.replicate 1451 none
  statics := some 1 }

def pool10 : Array CpInfo := pool [(1, .class_ 2), (0, u "java/lang/Appendable"), (0, .class_ 4), (0, u "java/lang/Object")] 9

/-- java/lang/Appendable -/
def k10 : Class := { plain "java/lang/Appendable" (some 0) with
  accessFlags := 1537
  interfaces := #[]
  cf := some (fileOf pool10 1 #[] #[] 1537 3 #[] #[])
  fields := #[]
  methods := #[]
  instanceTypes := #[]
  staticTypes := #[]
  resolved := Array.replicate 14 none
  statics := none }

def pool11 : Array CpInfo := pool [(1, .class_ 2), (0, u "java/lang/String"), (0, .methodref 4 5), (0, .class_ 6), (0, .nameAndType 7 8), (0, u "java/lang/Object"), (0, u "<init>"), (0, u "()V"), (1, .class_ 12), (1, u "java/lang/AbstractStringBuilder"), (0, u "EMPTYVALUE"), (0, u "[B"), (0, .fieldref 10 16), (0, .nameAndType 17 14), (0, u "value"), (0, .fieldref 1 19), (0, .nameAndType 20 21), (0, u "COMPACT_STRINGS"), (0, u "Z"), (0, .fieldref 10 23), (0, .nameAndType 24 25), (0, u "coder"), (0, u "B"), (6, .methodref 1 33), (0, .nameAndType 34 35), (0, u "length"), (0, u "()I"), (0, .class_ 37), (0, u "java/lang/Integer"), (1, .integer 2147483647), (0, .methodref 1 41), (0, .nameAndType 24 42), (0, u "()B"), (2, u "append"), (0, u "(Ljava/lang/String;)Ljava/lang/AbstractStringBuilder;"), (1, .class_ 49), (0, u "java/lang/CharSequence"), (19, u "(Ljava/lang/String;)V"), (5, u "maybeLatin1"), (3, .fieldref 10 80), (0, .nameAndType 81 82), (0, u "count"), (0, u "I"), (0, .methodref 10 84), (0, .nameAndType 85 86), (0, u "isLatin1"), (0, u "()Z"), (13, .methodref 10 101), (0, .nameAndType 102 103), (0, u "ensureCapacityInternal"), (0, u "(I)V"), (0, .methodref 10 105), (0, .nameAndType 106 107), (0, u "newCapacity"), (0, u "(I)I"), (0, .methodref 109 110), (0, .class_ 111), (0, .nameAndType 112 113), (0, u "java/util/Arrays"), (0, u "copyOf"), (0, u "([BI)[B"), (0, .methodref 115 116), (0, .class_ 117), (0, .nameAndType 118 119), (0, u "jdk/internal/util/ArraysSupport"), (0, u "newLength"), (0, u "(III)I"), (68, u "getChars"), (19, .methodref 10 209), (0, .nameAndType 210 211), (0, u "putStringAt"), (0, u "(ILjava/lang/String;)V"), (5, u "inflateIfNeededFor"), (2, .nameAndType 221 222), (0, u "getBytes"), (0, u "([BIB)V"), (22, .methodref 36 246), (0, .nameAndType 247 107), (0, u "stringSize"), (0, .methodref 36 249), (0, .nameAndType 188 250), (0, u "(II[B)I"), (146, .methodref 10 398), (0, .nameAndType 217 69), (0, .methodref 1 220), (3, u "()[B"), (40, .class_ 445), (0, u "java/lang/Appendable"), (65, u "(I)Ljava/lang/AbstractStringBuilder;"), (40, u "getValue")] 56

def k11m0 : Method := { name := "<init>", desc := "()V", sig := { parameters := [], returnType := none }, accessFlags := 0, code := none }
def k11c1 : Code := { maxStack := 2, maxLocals := 2, code := jdk_68_method_2_code, exceptionTable := #[], attributes := #[] }
def k11m1 : Method := { name := "<init>", desc := "(I)V", sig := { parameters := [.int], returnType := none }, accessFlags := 0, code := some k11c1 }
def k11c2 : Code := { maxStack := 1, maxLocals := 1, code := jdk_68_method_6_code, exceptionTable := #[], attributes := #[] }
def k11m2 : Method := { name := "length", desc := "()I", sig := { parameters := [], returnType := some .int }, accessFlags := 1, code := some k11c2 }
def k11c3 : Code := { maxStack := 4, maxLocals := 3, code := jdk_68_method_9_code, exceptionTable := #[], attributes := #[] }
def k11m3 : Method := { name := "ensureCapacityInternal", desc := "(I)V", sig := { parameters := [.int], returnType := none }, accessFlags := 2, code := some k11c3 }
def k11c4 : Code := { maxStack := 5, maxLocals := 6, code := jdk_68_method_10_code, exceptionTable := #[], attributes := #[] }
def k11m4 : Method := { name := "newCapacity", desc := "(I)I", sig := { parameters := [.int], returnType := some .int }, accessFlags := 2, code := some k11c4 }
def k11c5 : Code := { maxStack := 3, maxLocals := 3, code := jdk_68_method_22_code, exceptionTable := #[], attributes := #[] }
def k11m5 : Method := { name := "append", desc := "(Ljava/lang/String;)Ljava/lang/AbstractStringBuilder;", sig := { parameters := [(.object "java/lang/String")], returnType := some (.object "java/lang/AbstractStringBuilder") }, accessFlags := 1, code := some k11c5 }
def k11c6 : Code := { maxStack := 4, maxLocals := 4, code := jdk_68_method_32_code, exceptionTable := #[], attributes := #[] }
def k11m6 : Method := { name := "append", desc := "(I)Ljava/lang/AbstractStringBuilder;", sig := { parameters := [.int], returnType := some (.object "java/lang/AbstractStringBuilder") }, accessFlags := 1, code := some k11c6 }
def k11c7 : Code := { maxStack := 1, maxLocals := 1, code := jdk_68_method_64_code, exceptionTable := #[], attributes := #[] }
def k11m7 : Method := { name := "getValue", desc := "()[B", sig := { parameters := [], returnType := some (.array .byte) }, accessFlags := 16, code := some k11c7 }
def k11c8 : Code := { maxStack := 1, maxLocals := 1, code := jdk_68_method_68_code, exceptionTable := #[], attributes := #[] }
def k11m8 : Method := { name := "isLatin1", desc := "()Z", sig := { parameters := [], returnType := some .boolean }, accessFlags := 16, code := some k11c8 }
def k11c9 : Code := { maxStack := 2, maxLocals := 2, code := jdk_68_method_71_code, exceptionTable := #[], attributes := #[] }
def k11m9 : Method := { name := "inflateIfNeededFor", desc := "(Ljava/lang/String;)V", sig := { parameters := [(.object "java/lang/String")], returnType := none }, accessFlags := 2, code := some k11c9 }
def k11c10 : Code := { maxStack := 4, maxLocals := 3, code := jdk_68_method_73_code, exceptionTable := #[], attributes := #[] }
def k11m10 : Method := { name := "putStringAt", desc := "(ILjava/lang/String;)V", sig := { parameters := [.int, (.object "java/lang/String")], returnType := none }, accessFlags := 2, code := some k11c10 }
/-- java/lang/AbstractStringBuilder -/
def k11 : Class := { plain "java/lang/AbstractStringBuilder" (some 0) with
  accessFlags := 1056
  interfaces := #[10, 7]
  cf := some (fileOf pool11 10 #[] #[{ accessFlags := 0, nameIndex := 7, descriptorIndex := 8, attributes := #[] }, { accessFlags := 0, nameIndex := 7, descriptorIndex := 103, attributes := #[] }, { accessFlags := 1, nameIndex := 34, descriptorIndex := 35, attributes := #[] }, { accessFlags := 2, nameIndex := 102, descriptorIndex := 103, attributes := #[] }, { accessFlags := 2, nameIndex := 106, descriptorIndex := 107, attributes := #[] }, { accessFlags := 1, nameIndex := 45, descriptorIndex := 46, attributes := #[] }, { accessFlags := 1, nameIndex := 45, descriptorIndex := 511, attributes := #[] }, { accessFlags := 16, nameIndex := 552, descriptorIndex := 403, attributes := #[] }, { accessFlags := 16, nameIndex := 85, descriptorIndex := 86, attributes := #[] }, { accessFlags := 2, nameIndex := 217, descriptorIndex := 69, attributes := #[] }, { accessFlags := 2, nameIndex := 210, descriptorIndex := 211, attributes := #[] }] 1056 4 #[444, 48] #[{ accessFlags := 0, nameIndex := 17, descriptorIndex := 14, attributes := #[] }, { accessFlags := 0, nameIndex := 24, descriptorIndex := 25, attributes := #[] }, { accessFlags := 0, nameIndex := 75, descriptorIndex := 21, attributes := #[] }, { accessFlags := 0, nameIndex := 81, descriptorIndex := 82, attributes := #[] }, { accessFlags := 26, nameIndex := 13, descriptorIndex := 14, attributes := #[] }])
  fields := #[{ name := "value", type := (.array .byte), accessFlags := 0, slot := 0, constantValue := 0 }, { name := "coder", type := .byte, accessFlags := 0, slot := 1, constantValue := 0 }, { name := "maybeLatin1", type := .boolean, accessFlags := 0, slot := 2, constantValue := 0 }, { name := "count", type := .int, accessFlags := 0, slot := 3, constantValue := 0 }, { name := "EMPTYVALUE", type := (.array .byte), accessFlags := 26, slot := 0, constantValue := 0 }]
  methods := #[k11m0, k11m1, k11m2, k11m3, k11m4, k11m5, k11m6, k11m7, k11m8, k11m9, k11m10]
  instanceTypes := #[(.array .byte), .byte, .boolean, .int]
  staticTypes := #[(.array .byte)]
  resolved := Array.replicate 609 none
  statics := none }

def pool12 : Array CpInfo := pool [(1, .methodref 2 3), (0, .class_ 4), (0, .nameAndType 5 6), (0, u "java/lang/AbstractStringBuilder"), (0, u "<init>"), (0, u "(I)V"), (11, .class_ 20), (1, u "java/lang/String"), (3, .class_ 26), (1, u "java/lang/StringBuilder"), (0, u "append"), (0, u "(Ljava/lang/String;)Ljava/lang/StringBuilder;"), (0, .methodref 2 30), (0, .nameAndType 27 31), (0, u "(Ljava/lang/String;)Ljava/lang/AbstractStringBuilder;"), (21, .methodref 2 54), (0, .nameAndType 27 55), (0, u "(I)Ljava/lang/AbstractStringBuilder;"), (81, .methodref 18 138), (0, .nameAndType 5 139), (0, u "(Ljava/lang/StringBuilder;)V"), (5, u "()V"), (10, u "()I"), (111, u "(I)Ljava/lang/StringBuilder;"), (74, .methodref 2 344), (0, .nameAndType 345 156), (0, u "length"), (3, .class_ 350), (0, u "java/lang/Appendable"), (0, .class_ 352), (0, u "java/io/Serializable"), (0, .class_ 354), (0, u "java/lang/Comparable"), (0, .class_ 356), (0, u "java/lang/CharSequence"), (0, u "serialVersionUID"), (0, u "J"), (40, u "toString"), (0, u "()Ljava/lang/String;")] 21

def k12c0 : Code := { maxStack := 2, maxLocals := 1, code := jdk_67_method_1_code, exceptionTable := #[], attributes := #[] }
def k12m0 : Method := { name := "<init>", desc := "()V", sig := { parameters := [], returnType := none }, accessFlags := 1, code := some k12c0 }
def k12c1 : Code := { maxStack := 2, maxLocals := 2, code := jdk_67_method_7_code, exceptionTable := #[], attributes := #[] }
def k12m1 : Method := { name := "append", desc := "(Ljava/lang/String;)Ljava/lang/StringBuilder;", sig := { parameters := [(.object "java/lang/String")], returnType := some (.object "java/lang/StringBuilder") }, accessFlags := 1, code := some k12c1 }
def k12c2 : Code := { maxStack := 2, maxLocals := 2, code := jdk_67_method_15_code, exceptionTable := #[], attributes := #[] }
def k12m2 : Method := { name := "append", desc := "(I)Ljava/lang/StringBuilder;", sig := { parameters := [.int], returnType := some (.object "java/lang/StringBuilder") }, accessFlags := 1, code := some k12c2 }
def k12c3 : Code := { maxStack := 3, maxLocals := 1, code := jdk_67_method_42_code, exceptionTable := #[], attributes := #[] }
def k12m3 : Method := { name := "toString", desc := "()Ljava/lang/String;", sig := { parameters := [], returnType := some (.object "java/lang/String") }, accessFlags := 1, code := some k12c3 }
def k12c4 : Code := { maxStack := 1, maxLocals := 1, code := jdk_67_method_93_code, exceptionTable := #[], attributes := #[] }
def k12m4 : Method := { name := "length", desc := "()I", sig := { parameters := [], returnType := some .int }, accessFlags := 4161, code := some k12c4 }
/-- java/lang/StringBuilder -/
def k12 : Class := { plain "java/lang/StringBuilder" (some 11) with
  accessFlags := 49
  interfaces := #[10, 4, 3, 7]
  cf := some (fileOf pool12 24 #[] #[{ accessFlags := 1, nameIndex := 5, descriptorIndex := 145, attributes := #[] }, { accessFlags := 1, nameIndex := 27, descriptorIndex := 28, attributes := #[] }, { accessFlags := 1, nameIndex := 27, descriptorIndex := 268, attributes := #[] }, { accessFlags := 1, nameIndex := 399, descriptorIndex := 400, attributes := #[] }, { accessFlags := 4161, nameIndex := 345, descriptorIndex := 156, attributes := #[] }] 49 2 #[349, 351, 353, 355] #[{ accessFlags := 24, nameIndex := 357, descriptorIndex := 358, attributes := #[] }])
  fields := #[{ name := "serialVersionUID", type := .long, accessFlags := 24, slot := 0, constantValue := 0 }]
  methods := #[k12m0, k12m1, k12m2, k12m3, k12m4]
  instanceTypes := #[(.array .byte), .byte, .boolean, .int]
  staticTypes := #[.long]
  resolved := Array.replicate 422 none
  statics := none }

def pool13 : Array CpInfo := pool [(9, u "<init>"), (6, .class_ 18), (1, u "java/lang/Object"), (0, u "()V"), (1, .class_ 23), (1, u "jdk/internal/util/ArraysSupport"), (0, u "LOG2_ARRAY_LONG_INDEX_SCALE"), (0, u "I"), (2, u "U"), (0, u "Ljdk/internal/misc/Unsafe;"), (8, u "BIG_ENDIAN"), (0, u "Z"), (8, u "LOG2_BYTE_BIT_SIZE"), (4, u "LOG2_ARRAY_INT_INDEX_SCALE"), (54, u "JLA"), (0, u "Ljdk/internal/access/JavaLangAccess;"), (11, u "LOG2_ARRAY_BOOLEAN_INDEX_SCALE"), (9, u "LOG2_ARRAY_BYTE_INDEX_SCALE"), (5, u "LOG2_ARRAY_CHAR_INDEX_SCALE"), (5, u "LOG2_ARRAY_SHORT_INDEX_SCALE"), (18, u "LOG2_ARRAY_FLOAT_INDEX_SCALE"), (24, u "LOG2_ARRAY_DOUBLE_INDEX_SCALE"), (6, .methodref 195 196), (0, .class_ 197), (0, .nameAndType 198 199), (0, u "java/lang/Math"), (0, u "max"), (0, u "(II)I"), (0, .integer 2147483639), (76, u "T_BOOLEAN"), (2, u "T_CHAR"), (1, u "T_FLOAT"), (1, u "T_DOUBLE"), (1, u "T_BYTE"), (1, u "T_SHORT"), (1, u "T_INT"), (1, u "T_LONG"), (1, u "SOFT_MAX_ARRAY_LENGTH"), (56, u "newLength"), (0, u "(III)I")] 25

def k13m0 : Method := { name := "<init>", desc := "()V", sig := { parameters := [], returnType := none }, accessFlags := 2, code := none }
def k13c1 : Code := { maxStack := 3, maxLocals := 4, code := jdk_48_method_27_code, exceptionTable := #[], attributes := #[] }
def k13m1 : Method := { name := "newLength", desc := "(III)I", sig := { parameters := [.int, .int, .int], returnType := some .int }, accessFlags := 9, code := some k13c1 }
/-- jdk/internal/util/ArraysSupport -/
def k13 : Class := { plain "jdk/internal/util/ArraysSupport" (some 0) with
  accessFlags := 33
  interfaces := #[]
  cf := some (fileOf pool13 21 #[] #[{ accessFlags := 2, nameIndex := 9, descriptorIndex := 19, attributes := #[] }, { accessFlags := 9, nameIndex := 351, descriptorIndex := 352, attributes := #[] }] 33 16 #[] #[{ accessFlags := 24, nameIndex := 28, descriptorIndex := 29, attributes := #[] }, { accessFlags := 26, nameIndex := 38, descriptorIndex := 39, attributes := #[] }, { accessFlags := 25, nameIndex := 121, descriptorIndex := 25, attributes := #[] }, { accessFlags := 25, nameIndex := 131, descriptorIndex := 25, attributes := #[] }, { accessFlags := 25, nameIndex := 137, descriptorIndex := 25, attributes := #[] }, { accessFlags := 25, nameIndex := 143, descriptorIndex := 25, attributes := #[] }, { accessFlags := 25, nameIndex := 53, descriptorIndex := 25, attributes := #[] }, { accessFlags := 25, nameIndex := 24, descriptorIndex := 25, attributes := #[] }, { accessFlags := 25, nameIndex := 162, descriptorIndex := 25, attributes := #[] }, { accessFlags := 25, nameIndex := 187, descriptorIndex := 25, attributes := #[] }, { accessFlags := 26, nameIndex := 48, descriptorIndex := 25, attributes := #[] }, { accessFlags := 25, nameIndex := 277, descriptorIndex := 25, attributes := #[] }, { accessFlags := 25, nameIndex := 280, descriptorIndex := 25, attributes := #[] }, { accessFlags := 25, nameIndex := 282, descriptorIndex := 25, attributes := #[] }, { accessFlags := 25, nameIndex := 284, descriptorIndex := 25, attributes := #[] }, { accessFlags := 25, nameIndex := 286, descriptorIndex := 25, attributes := #[] }, { accessFlags := 25, nameIndex := 288, descriptorIndex := 25, attributes := #[] }, { accessFlags := 25, nameIndex := 290, descriptorIndex := 25, attributes := #[] }, { accessFlags := 25, nameIndex := 292, descriptorIndex := 25, attributes := #[] }, { accessFlags := 26, nameIndex := 108, descriptorIndex := 109, attributes := #[] }, { accessFlags := 25, nameIndex := 294, descriptorIndex := 25, attributes := #[] }])
  fields := #[{ name := "U", type := (.object "jdk/internal/misc/Unsafe"), accessFlags := 24, slot := 0, constantValue := 0 }, { name := "BIG_ENDIAN", type := .boolean, accessFlags := 26, slot := 1, constantValue := 0 }, { name := "LOG2_ARRAY_BOOLEAN_INDEX_SCALE", type := .int, accessFlags := 25, slot := 2, constantValue := 0 }, { name := "LOG2_ARRAY_BYTE_INDEX_SCALE", type := .int, accessFlags := 25, slot := 3, constantValue := 0 }, { name := "LOG2_ARRAY_CHAR_INDEX_SCALE", type := .int, accessFlags := 25, slot := 4, constantValue := 0 }, { name := "LOG2_ARRAY_SHORT_INDEX_SCALE", type := .int, accessFlags := 25, slot := 5, constantValue := 0 }, { name := "LOG2_ARRAY_INT_INDEX_SCALE", type := .int, accessFlags := 25, slot := 6, constantValue := 0 }, { name := "LOG2_ARRAY_LONG_INDEX_SCALE", type := .int, accessFlags := 25, slot := 7, constantValue := 0 }, { name := "LOG2_ARRAY_FLOAT_INDEX_SCALE", type := .int, accessFlags := 25, slot := 8, constantValue := 0 }, { name := "LOG2_ARRAY_DOUBLE_INDEX_SCALE", type := .int, accessFlags := 25, slot := 9, constantValue := 0 }, { name := "LOG2_BYTE_BIT_SIZE", type := .int, accessFlags := 26, slot := 10, constantValue := 0 }, { name := "T_BOOLEAN", type := .int, accessFlags := 25, slot := 11, constantValue := 0 }, { name := "T_CHAR", type := .int, accessFlags := 25, slot := 12, constantValue := 0 }, { name := "T_FLOAT", type := .int, accessFlags := 25, slot := 13, constantValue := 0 }, { name := "T_DOUBLE", type := .int, accessFlags := 25, slot := 14, constantValue := 0 }, { name := "T_BYTE", type := .int, accessFlags := 25, slot := 15, constantValue := 0 }, { name := "T_SHORT", type := .int, accessFlags := 25, slot := 16, constantValue := 0 }, { name := "T_INT", type := .int, accessFlags := 25, slot := 17, constantValue := 0 }, { name := "T_LONG", type := .int, accessFlags := 25, slot := 18, constantValue := 0 }, { name := "JLA", type := (.object "jdk/internal/access/JavaLangAccess"), accessFlags := 26, slot := 19, constantValue := 0 }, { name := "SOFT_MAX_ARRAY_LENGTH", type := .int, accessFlags := 25, slot := 20, constantValue := 0 }]
  methods := #[k13m0, k13m1]
  instanceTypes := #[]
  staticTypes := #[(.object "jdk/internal/misc/Unsafe"), .boolean, .int, .int, .int, .int, .int, .int, .int, .int, .int, .int, .int, .int, .int, .int, .int, .int, .int, (.object "jdk/internal/access/JavaLangAccess"), .int]
  resolved := Array.replicate 378 none
  statics := none }

def pool14 : Array CpInfo := pool [(1, .class_ 2), (0, u "java/lang/Math"), (1, .class_ 6), (1, u "java/lang/Object"), (0, u "<init>"), (0, u "()V"), (89, .class_ 100), (1, u "java/lang/Math$RandomNumberGeneratorHolder"), (71, u "negativeZeroFloatBits"), (0, u "J"), (2, u "negativeZeroDoubleBits"), (21, u "max"), (2, u "min"), (43, u "$assertionsDisabled"), (0, u "Z"), (88, u "(II)I"), (2, u "twoToTheDoubleScaleDown"), (0, u "D"), (4, u "twoToTheDoubleScaleUp"), (9, u "E"), (3, u "PI"), (2, u "TAU"), (2, u "DEGREES_TO_RADIANS"), (0, u "RADIANS_TO_DEGREES")] 94

def k14m0 : Method := { name := "<init>", desc := "()V", sig := { parameters := [], returnType := none }, accessFlags := 2, code := none }
def k14c1 : Code := { maxStack := 2, maxLocals := 2, code := jdk_29_method_65_code, exceptionTable := #[], attributes := #[] }
def k14m1 : Method := { name := "max", desc := "(II)I", sig := { parameters := [.int, .int], returnType := some .int }, accessFlags := 9, code := some k14c1 }
def k14c2 : Code := { maxStack := 2, maxLocals := 2, code := jdk_29_method_69_code, exceptionTable := #[], attributes := #[] }
def k14m2 : Method := { name := "min", desc := "(II)I", sig := { parameters := [.int, .int], returnType := some .int }, accessFlags := 9, code := some k14c2 }
/-- java/lang/Math -/
def k14 : Class := { plain "java/lang/Math" (some 0) with
  accessFlags := 49
  interfaces := #[]
  cf := some (fileOf pool14 1 #[.nestMembers #[98]] #[{ accessFlags := 2, nameIndex := 7, descriptorIndex := 8, attributes := #[] }, { accessFlags := 9, nameIndex := 198, descriptorIndex := 335, attributes := #[] }, { accessFlags := 9, nameIndex := 201, descriptorIndex := 335, attributes := #[] }] 49 4 #[] #[{ accessFlags := 25, nameIndex := 354, descriptorIndex := 339, attributes := #[] }, { accessFlags := 25, nameIndex := 358, descriptorIndex := 339, attributes := #[] }, { accessFlags := 25, nameIndex := 361, descriptorIndex := 339, attributes := #[] }, { accessFlags := 26, nameIndex := 364, descriptorIndex := 339, attributes := #[] }, { accessFlags := 26, nameIndex := 365, descriptorIndex := 339, attributes := #[] }, { accessFlags := 26, nameIndex := 172, descriptorIndex := 173, attributes := #[] }, { accessFlags := 26, nameIndex := 176, descriptorIndex := 173, attributes := #[] }, { accessFlags := 8, nameIndex := 344, descriptorIndex := 339, attributes := #[] }, { accessFlags := 8, nameIndex := 338, descriptorIndex := 339, attributes := #[] }, { accessFlags := 4120, nameIndex := 245, descriptorIndex := 246, attributes := #[] }])
  fields := #[{ name := "E", type := .double, accessFlags := 25, slot := 0, constantValue := 0 }, { name := "PI", type := .double, accessFlags := 25, slot := 1, constantValue := 0 }, { name := "TAU", type := .double, accessFlags := 25, slot := 2, constantValue := 0 }, { name := "DEGREES_TO_RADIANS", type := .double, accessFlags := 26, slot := 3, constantValue := 0 }, { name := "RADIANS_TO_DEGREES", type := .double, accessFlags := 26, slot := 4, constantValue := 0 }, { name := "negativeZeroFloatBits", type := .long, accessFlags := 26, slot := 5, constantValue := 0 }, { name := "negativeZeroDoubleBits", type := .long, accessFlags := 26, slot := 6, constantValue := 0 }, { name := "twoToTheDoubleScaleUp", type := .double, accessFlags := 8, slot := 7, constantValue := 0 }, { name := "twoToTheDoubleScaleDown", type := .double, accessFlags := 8, slot := 8, constantValue := 0 }, { name := "$assertionsDisabled", type := .boolean, accessFlags := 4120, slot := 9, constantValue := 0 }]
  methods := #[k14m0, k14m1, k14m2]
  instanceTypes := #[]
  staticTypes := #[.double, .double, .double, .double, .double, .long, .long, .double, .double, .boolean]
  resolved := Array.replicate 460 none
  statics := none }

def pool15 : Array CpInfo := pool [(2, .class_ 4), (1, u "java/lang/Object"), (0, u "<init>"), (0, u "()V"), (7, .class_ 16), (1, u "java/util/Arrays"), (57, .class_ 76), (1, u "java/util/Arrays$NaturalOrder"), (36, .class_ 115), (1, u "java/util/Arrays$LegacyMergeSort"), (1, u "Z"), (21, u "copyOfRange"), (10, .methodref 151 152), (0, .class_ 153), (0, .nameAndType 154 155), (0, u "java/lang/System"), (0, u "arraycopy"), (0, u "(Ljava/lang/Object;ILjava/lang/Object;II)V"), (146, u "copyOf"), (1, .methodref 305 306), (0, .class_ 307), (0, .nameAndType 308 309), (0, u "java/lang/Math"), (0, u "min"), (0, u "(II)I"), (29, .methodref 14 340), (0, .nameAndType 341 342), (0, u "copyOfRangeByte"), (0, u "([BII)[B"), (0, .methodref 14 344), (0, .nameAndType 345 346), (0, u "checkLength"), (0, u "(II)V"), (28, .class_ 376), (0, u "java/util/Arrays$ArrayList"), (68, u "$assertionsDisabled"), (269, u "MIN_ARRAY_SORT_GRAN"), (0, u "I"), (2, u "INSERTIONSORT_THRESHOLD"), (149, u "([BI)[B"), (105, .class_ 976), (0, u "java/util/Arrays$ArrayItr")] 52

def k15m0 : Method := { name := "<init>", desc := "()V", sig := { parameters := [], returnType := none }, accessFlags := 2, code := none }
def k15c1 : Code := { maxStack := 6, maxLocals := 3, code := jdk_65_method_121_code, exceptionTable := #[], attributes := #[] }
def k15m1 : Method := { name := "copyOf", desc := "([BI)[B", sig := { parameters := [(.array .byte), .int], returnType := some (.array .byte) }, accessFlags := 9, code := some k15c1 }
def k15c2 : Code := { maxStack := 4, maxLocals := 2, code := jdk_65_method_131_code, exceptionTable := #[], attributes := #[] }
def k15m2 : Method := { name := "checkLength", desc := "(II)V", sig := { parameters := [.int, .int], returnType := none }, accessFlags := 10, code := some k15c2 }
def k15c3 : Code := { maxStack := 3, maxLocals := 3, code := jdk_65_method_132_code, exceptionTable := #[], attributes := #[] }
def k15m3 : Method := { name := "copyOfRange", desc := "([BII)[B", sig := { parameters := [(.array .byte), .int, .int], returnType := some (.array .byte) }, accessFlags := 9, code := some k15c3 }
def k15c4 : Code := { maxStack := 6, maxLocals := 5, code := jdk_65_method_133_code, exceptionTable := #[], attributes := #[] }
def k15m4 : Method := { name := "copyOfRangeByte", desc := "([BII)[B", sig := { parameters := [(.array .byte), .int, .int], returnType := some (.array .byte) }, accessFlags := 10, code := some k15c4 }
/-- java/util/Arrays -/
def k15 : Class := { plain "java/util/Arrays" (some 0) with
  accessFlags := 49
  interfaces := #[]
  cf := some (fileOf pool15 14 #[.nestMembers #[975, 375, 113, 74]] #[{ accessFlags := 2, nameIndex := 5, descriptorIndex := 6, attributes := #[] }, { accessFlags := 9, nameIndex := 302, descriptorIndex := 869, attributes := #[] }, { accessFlags := 10, nameIndex := 345, descriptorIndex := 346, attributes := #[] }, { accessFlags := 9, nameIndex := 139, descriptorIndex := 342, attributes := #[] }, { accessFlags := 10, nameIndex := 341, descriptorIndex := 342, attributes := #[] }] 49 2 #[] #[{ accessFlags := 26, nameIndex := 715, descriptorIndex := 716, attributes := #[] }, { accessFlags := 26, nameIndex := 719, descriptorIndex := 716, attributes := #[] }, { accessFlags := 4120, nameIndex := 445, descriptorIndex := 117, attributes := #[] }])
  fields := #[{ name := "MIN_ARRAY_SORT_GRAN", type := .int, accessFlags := 26, slot := 0, constantValue := 0 }, { name := "INSERTIONSORT_THRESHOLD", type := .int, accessFlags := 26, slot := 1, constantValue := 0 }, { name := "$assertionsDisabled", type := .boolean, accessFlags := 4120, slot := 2, constantValue := 0 }]
  methods := #[k15m0, k15m1, k15m2, k15m3, k15m4]
  instanceTypes := #[]
  staticTypes := #[.int, .int, .boolean]
  resolved := Array.replicate 1029 none
  statics := none }

def pool16 : Array CpInfo := pool [(2, .class_ 4), (1, u "java/lang/Object"), (0, u "<init>"), (0, u "()V"), (1, .class_ 10), (1, u "java/lang/System"), (0, u "allowSecurityManager"), (0, u "I"), (16, u "cons"), (0, u "Ljava/io/Console;"), (77, .class_ 110), (1, u "java/lang/System$CallersHolder"), (43, u "initialErrStream"), (0, u "Ljava/io/PrintStream;"), (19, u "security"), (0, u "Ljava/lang/SecurityManager;"), (31, .class_ 209), (0, u "java/lang/System$1"), (7, u "props"), (0, u "Ljava/util/Properties;"), (2, u "lineSeparator"), (0, u "Ljava/lang/String;"), (96, .class_ 321), (1, u "java/lang/System$LoggerFinder"), (5, .class_ 328), (0, u "java/lang/System$Logger"), (67, u "err"), (2, u "out"), (91, u "notSupportedJnuEncoding"), (15, u "in"), (17, u "initialIn"), (0, u "Ljava/io/InputStream;"), (35, u "bootLayer"), (0, u "Ljava/lang/ModuleLayer;"), (99, .class_ 664), (0, u "java/lang/System$2"), (9, u "NEVER"), (2, u "MAYBE"), (49, u "arraycopy"), (0, u "(Ljava/lang/Object;ILjava/lang/Object;II)V"), (72, .class_ 802), (0, u "java/lang/System$Logger$Level")] 31

def k16m0 : Method := { name := "<init>", desc := "()V", sig := { parameters := [], returnType := none }, accessFlags := 2, code := none }
def k16m1 : Method := { name := "arraycopy", desc := "(Ljava/lang/Object;ILjava/lang/Object;II)V", sig := { parameters := [(.object "java/lang/Object"), .int, (.object "java/lang/Object"), .int, .int], returnType := none }, accessFlags := 265, code := none }
/-- java/lang/System -/
def k16 : Class := { plain "java/lang/System" (some 0) with
  accessFlags := 49
  interfaces := #[]
  cf := some (fileOf pool16 8 #[.nestMembers #[319, 327, 801, 108, 663, 208]] #[{ accessFlags := 2, nameIndex := 5, descriptorIndex := 6, attributes := #[] }, { accessFlags := 265, nameIndex := 727, descriptorIndex := 728, attributes := #[] }] 49 2 #[] #[{ accessFlags := 25, nameIndex := 507, descriptorIndex := 526, attributes := #[] }, { accessFlags := 25, nameIndex := 399, descriptorIndex := 155, attributes := #[] }, { accessFlags := 25, nameIndex := 396, descriptorIndex := 155, attributes := #[] }, { accessFlags := 10, nameIndex := 525, descriptorIndex := 526, attributes := #[] }, { accessFlags := 26, nameIndex := 674, descriptorIndex := 12, attributes := #[] }, { accessFlags := 26, nameIndex := 677, descriptorIndex := 12, attributes := #[] }, { accessFlags := 10, nameIndex := 11, descriptorIndex := 12, attributes := #[] }, { accessFlags := 74, nameIndex := 175, descriptorIndex := 176, attributes := #[] }, { accessFlags := 10, nameIndex := 491, descriptorIndex := 222, attributes := #[] }, { accessFlags := 74, nameIndex := 29, descriptorIndex := 30, attributes := #[] }, { accessFlags := 74, nameIndex := 154, descriptorIndex := 155, attributes := #[] }, { accessFlags := 10, nameIndex := 217, descriptorIndex := 218, attributes := #[] }, { accessFlags := 10, nameIndex := 221, descriptorIndex := 222, attributes := #[] }, { accessFlags := 8, nameIndex := 562, descriptorIndex := 563, attributes := #[] }])
  fields := #[{ name := "in", type := (.object "java/io/InputStream"), accessFlags := 25, slot := 0, constantValue := 0 }, { name := "out", type := (.object "java/io/PrintStream"), accessFlags := 25, slot := 1, constantValue := 0 }, { name := "err", type := (.object "java/io/PrintStream"), accessFlags := 25, slot := 2, constantValue := 0 }, { name := "initialIn", type := (.object "java/io/InputStream"), accessFlags := 10, slot := 3, constantValue := 0 }, { name := "NEVER", type := .int, accessFlags := 26, slot := 4, constantValue := 0 }, { name := "MAYBE", type := .int, accessFlags := 26, slot := 5, constantValue := 0 }, { name := "allowSecurityManager", type := .int, accessFlags := 10, slot := 6, constantValue := 0 }, { name := "security", type := (.object "java/lang/SecurityManager"), accessFlags := 74, slot := 7, constantValue := 0 }, { name := "notSupportedJnuEncoding", type := (.object "java/lang/String"), accessFlags := 10, slot := 8, constantValue := 0 }, { name := "cons", type := (.object "java/io/Console"), accessFlags := 74, slot := 9, constantValue := 0 }, { name := "initialErrStream", type := (.object "java/io/PrintStream"), accessFlags := 74, slot := 10, constantValue := 0 }, { name := "props", type := (.object "java/util/Properties"), accessFlags := 10, slot := 11, constantValue := 0 }, { name := "lineSeparator", type := (.object "java/lang/String"), accessFlags := 10, slot := 12, constantValue := 0 }, { name := "bootLayer", type := (.object "java/lang/ModuleLayer"), accessFlags := 8, slot := 13, constantValue := 0 }]
  methods := #[k16m0, k16m1]
  instanceTypes := #[]
  staticTypes := #[(.object "java/io/InputStream"), (.object "java/io/PrintStream"), (.object "java/io/PrintStream"), (.object "java/io/InputStream"), .int, .int, .int, (.object "java/lang/SecurityManager"), (.object "java/lang/String"), (.object "java/io/Console"), (.object "java/io/PrintStream"), (.object "java/util/Properties"), (.object "java/lang/String"), (.object "java/lang/ModuleLayer")]
  resolved := Array.replicate 834 none
  statics := none }

def pool17 : Array CpInfo := pool [(2, .class_ 4), (1, u "java/lang/Object"), (0, u "<init>"), (0, u "()V"), (1, .class_ 10), (1, u "java/lang/Number"), (2, .class_ 14), (0, u "java/io/Serializable"), (0, u "serialVersionUID"), (0, u "J")] 20

def k17m0 : Method := { name := "<init>", desc := "()V", sig := { parameters := [], returnType := none }, accessFlags := 1, code := none }
/-- java/lang/Number -/
def k17 : Class := { plain "java/lang/Number" (some 0) with
  accessFlags := 1057
  interfaces := #[4]
  cf := some (fileOf pool17 8 #[] #[{ accessFlags := 1, nameIndex := 5, descriptorIndex := 6, attributes := #[] }] 1057 2 #[13] #[{ accessFlags := 26, nameIndex := 15, descriptorIndex := 16, attributes := #[] }])
  fields := #[{ name := "serialVersionUID", type := .long, accessFlags := 26, slot := 0, constantValue := 0 }]
  methods := #[k17m0]
  instanceTypes := #[]
  staticTypes := #[.long]
  resolved := Array.replicate 37 none
  statics := none }

def pool18 : Array CpInfo := pool [(1, .class_ 2), (0, u "java/lang/Integer"), (16, u "digits"), (0, u "[C"), (33, u "(I)I"), (19, u "stringSize"), (2, u "getChars"), (0, u "(II[B)I"), (4, .fieldref 1 84), (0, .nameAndType 85 86), (0, u "DigitOnes"), (0, u "[B"), (0, .fieldref 1 88), (0, .nameAndType 89 86), (0, u "DigitTens"), (99, .class_ 190), (0, u "java/lang/Integer$IntegerCache"), (3, u "I"), (8, .class_ 204), (0, u "java/lang/Number"), (2, u "value"), (94, u "TYPE"), (0, u "Ljava/lang/Class;"), (0, .class_ 305), (0, u "java/lang/Comparable"), (0, .class_ 307), (0, u "java/lang/constant/Constable"), (0, .class_ 309), (0, u "java/lang/constant/ConstantDesc"), (0, u "MIN_VALUE"), (1, u "MAX_VALUE"), (3, u "SIZE"), (1, u "BYTES"), (1, u "serialVersionUID"), (0, u "J")] 131

def k18c0 : Code := { maxStack := 4, maxLocals := 7, code := jdk_33_method_12_code, exceptionTable := #[], attributes := #[] }
def k18m0 : Method := { name := "getChars", desc := "(II[B)I", sig := { parameters := [.int, .int, (.array .byte)], returnType := some .int }, accessFlags := 8, code := some k18c0 }
def k18c1 : Code := { maxStack := 2, maxLocals := 4, code := jdk_33_method_13_code, exceptionTable := #[], attributes := #[] }
def k18m1 : Method := { name := "stringSize", desc := "(I)I", sig := { parameters := [.int], returnType := some .int }, accessFlags := 8, code := some k18c1 }
/-- java/lang/Integer -/
def k18 : Class := { plain "java/lang/Integer" (some 17) with
  accessFlags := 49
  interfaces := #[3, 2, 8]
  cf := some (fileOf pool18 1 #[.nestMembers #[189]] #[{ accessFlags := 8, nameIndex := 77, descriptorIndex := 78, attributes := #[] }, { accessFlags := 8, nameIndex := 74, descriptorIndex := 54, attributes := #[] }] 49 203 #[304, 306, 308] #[{ accessFlags := 25, nameIndex := 310, descriptorIndex := 194, attributes := #[] }, { accessFlags := 25, nameIndex := 312, descriptorIndex := 194, attributes := #[] }, { accessFlags := 25, nameIndex := 302, descriptorIndex := 303, attributes := #[] }, { accessFlags := 24, nameIndex := 19, descriptorIndex := 20, attributes := #[] }, { accessFlags := 24, nameIndex := 89, descriptorIndex := 86, attributes := #[] }, { accessFlags := 24, nameIndex := 85, descriptorIndex := 86, attributes := #[] }, { accessFlags := 18, nameIndex := 207, descriptorIndex := 194, attributes := #[] }, { accessFlags := 25, nameIndex := 316, descriptorIndex := 194, attributes := #[] }, { accessFlags := 25, nameIndex := 318, descriptorIndex := 194, attributes := #[] }, { accessFlags := 26, nameIndex := 320, descriptorIndex := 321, attributes := #[] }])
  fields := #[{ name := "MIN_VALUE", type := .int, accessFlags := 25, slot := 0, constantValue := 0 }, { name := "MAX_VALUE", type := .int, accessFlags := 25, slot := 1, constantValue := 0 }, { name := "TYPE", type := (.object "java/lang/Class"), accessFlags := 25, slot := 2, constantValue := 0 }, { name := "digits", type := (.array .char), accessFlags := 24, slot := 3, constantValue := 0 }, { name := "DigitTens", type := (.array .byte), accessFlags := 24, slot := 4, constantValue := 0 }, { name := "DigitOnes", type := (.array .byte), accessFlags := 24, slot := 5, constantValue := 0 }, { name := "value", type := .int, accessFlags := 18, slot := 0, constantValue := 0 }, { name := "SIZE", type := .int, accessFlags := 25, slot := 6, constantValue := 0 }, { name := "BYTES", type := .int, accessFlags := 25, slot := 7, constantValue := 0 }, { name := "serialVersionUID", type := .long, accessFlags := 26, slot := 8, constantValue := 0 }]
  methods := #[k18m0, k18m1]
  instanceTypes := #[.int]
  staticTypes := #[.int, .int, (.object "java/lang/Class"), (.array .char), (.array .byte), (.array .byte), .int, .int, .long]
  resolved := Array.replicate 453 none
  statics := some 2 }

def pool19 : Array CpInfo := pool [(4, .class_ 6), (1, u "java/lang/Object"), (0, u "<init>"), (0, u "()V"), (5, .class_ 16), (1, u "java/lang/StringLatin1"), (104, u "$assertionsDisabled"), (0, u "Z"), (98, .class_ 223), (1, u "java/lang/StringLatin1$LinesSpliterator"), (57, u "equals"), (0, u "([B[B)Z"), (107, .class_ 391), (0, u "java/lang/StringLatin1$CharsSpliterator")] 3

def k19m0 : Method := { name := "<init>", desc := "()V", sig := { parameters := [], returnType := none }, accessFlags := 0, code := none }
def k19c1 : Code := { maxStack := 3, maxLocals := 3, code := jdk_43_method_13_code, exceptionTable := #[], attributes := #[] }
def k19m1 : Method := { name := "equals", desc := "([B[B)Z", sig := { parameters := [(.array .byte), (.array .byte)], returnType := some .boolean }, accessFlags := 9, code := some k19c1 }
/-- java/lang/StringLatin1 -/
def k19 : Class := { plain "java/lang/StringLatin1" (some 0) with
  accessFlags := 48
  interfaces := #[]
  cf := some (fileOf pool19 14 #[.nestMembers #[390, 221]] #[{ accessFlags := 0, nameIndex := 7, descriptorIndex := 8, attributes := #[] }, { accessFlags := 9, nameIndex := 281, descriptorIndex := 282, attributes := #[] }] 48 4 #[] #[{ accessFlags := 4120, nameIndex := 121, descriptorIndex := 122, attributes := #[] }])
  fields := #[{ name := "$assertionsDisabled", type := .boolean, accessFlags := 4120, slot := 0, constantValue := 0 }]
  methods := #[k19m0, k19m1]
  instanceTypes := #[]
  staticTypes := #[.boolean]
  resolved := Array.replicate 395 none
  statics := none }

def pool20 : Array CpInfo := pool [(2, .class_ 4), (1, u "java/lang/Object"), (0, u "<init>"), (0, u "()V"), (17, .class_ 26), (1, u "jdk/internal/util/Preconditions"), (28, .class_ 56), (0, u "jdk/internal/util/Preconditions$4"), (57, .class_ 115), (0, u "jdk/internal/util/Preconditions$1"), (7, u "SIOOBE_FORMATTER"), (0, u "Ljava/util/function/BiFunction;"), (0, .class_ 126), (0, u "jdk/internal/util/Preconditions$2"), (3, u "AIOOBE_FORMATTER"), (0, .class_ 132), (0, u "jdk/internal/util/Preconditions$3"), (3, u "IOOBE_FORMATTER")] 57

def k20m0 : Method := { name := "<init>", desc := "()V", sig := { parameters := [], returnType := none }, accessFlags := 1, code := none }
/-- jdk/internal/util/Preconditions -/
def k20 : Class := { plain "jdk/internal/util/Preconditions" (some 0) with
  accessFlags := 33
  interfaces := #[]
  cf := some (fileOf pool20 24 #[.nestMembers #[55, 131, 125, 114]] #[{ accessFlags := 1, nameIndex := 5, descriptorIndex := 6, attributes := #[] }] 33 2 #[] #[{ accessFlags := 25, nameIndex := 123, descriptorIndex := 124, attributes := #[] }, { accessFlags := 25, nameIndex := 130, descriptorIndex := 124, attributes := #[] }, { accessFlags := 25, nameIndex := 136, descriptorIndex := 124, attributes := #[] }])
  fields := #[{ name := "SIOOBE_FORMATTER", type := (.object "java/util/function/BiFunction"), accessFlags := 25, slot := 0, constantValue := 0 }, { name := "AIOOBE_FORMATTER", type := (.object "java/util/function/BiFunction"), accessFlags := 25, slot := 1, constantValue := 0 }, { name := "IOOBE_FORMATTER", type := (.object "java/util/function/BiFunction"), accessFlags := 25, slot := 2, constantValue := 0 }]
  methods := #[k20m0]
  instanceTypes := #[]
  staticTypes := #[(.object "java/util/function/BiFunction"), (.object "java/util/function/BiFunction"), (.object "java/util/function/BiFunction")]
  resolved := Array.replicate 194 none
  statics := some 3 }

def pool21 : Array CpInfo := pool [(1, u "java/lang/Cloneable"), (0, .class_ 1), (0, u "java/lang/Object"), (0, .class_ 3)] 3

/-- java/lang/Cloneable -/
def k21 : Class := { plain "java/lang/Cloneable" (some 0) with
  accessFlags := 1537
  interfaces := #[]
  cf := some (fileOf pool21 2 #[] #[] 1537 4 #[] #[])
  fields := #[]
  methods := #[]
  instanceTypes := #[]
  staticTypes := #[]
  resolved := Array.replicate 8 none
  statics := none }

/-- the primitive byte -/
def k22 : Class := { plain "byte" none with kind := .primitive 'B', accessFlags := 0x411 }
/-- [B -/
def k23 : Class := { plain "[B" (some 0) with kind := .array 22 .byte, interfaces := #[21, 4], accessFlags := 1041 }

/-- the primitive int -/
def k24 : Class := { plain "int" none with kind := .primitive 'I', accessFlags := 0x411 }
/-- [I -/
def k25 : Class := { plain "[I" (some 0) with kind := .array 24 .int, interfaces := #[21, 4], accessFlags := 1041 }

def heap : Heap := #[{ cls := 6, slots := #[.ref 4, .ref 5, .ref 6, .ref 7, .ref 8, .ref 9, .ref 10, .int 0, .null], vm := .statics 6 },
  { cls := 9, slots := #[.long 0, .int 1, .null, .int 0, .null, .int 0, .int 0], vm := .statics 9 },
  { cls := 18, slots := #[.int 0, .int 0, .null, .null, .ref 12, .ref 11, .int 0, .int 0, .long 0], vm := .statics 18 },
  { cls := 20, slots := #[.null, .null, .null], vm := .statics 20 },
  { cls := 6, slots := #[.null, .int 0, .int 0, .int 0], vm := .none },
  { cls := 6, slots := #[.null, .int 1, .int 0, .int 0], vm := .none },
  { cls := 6, slots := #[.null, .int 2, .int 0, .int 0], vm := .none },
  { cls := 6, slots := #[.null, .int 3, .int 0, .int 0], vm := .none },
  { cls := 6, slots := #[.null, .int 4, .int 0, .int 0], vm := .none },
  { cls := 6, slots := #[.null, .int 5, .int 0, .int 0], vm := .none },
  { cls := 6, slots := #[.null, .int 6, .int 0, .int 10], vm := .none },
  { cls := 23, slots := #[.int 48, .int 49, .int 50, .int 51, .int 52, .int 53, .int 54, .int 55, .int 56, .int 57, .int 48, .int 49, .int 50, .int 51, .int 52, .int 53, .int 54, .int 55, .int 56, .int 57, .int 48, .int 49, .int 50, .int 51, .int 52, .int 53, .int 54, .int 55, .int 56, .int 57, .int 48, .int 49, .int 50, .int 51, .int 52, .int 53, .int 54, .int 55, .int 56, .int 57, .int 48, .int 49, .int 50, .int 51, .int 52, .int 53, .int 54, .int 55, .int 56, .int 57, .int 48, .int 49, .int 50, .int 51, .int 52, .int 53, .int 54, .int 55, .int 56, .int 57, .int 48, .int 49, .int 50, .int 51, .int 52, .int 53, .int 54, .int 55, .int 56, .int 57, .int 48, .int 49, .int 50, .int 51, .int 52, .int 53, .int 54, .int 55, .int 56, .int 57, .int 48, .int 49, .int 50, .int 51, .int 52, .int 53, .int 54, .int 55, .int 56, .int 57, .int 48, .int 49, .int 50, .int 51, .int 52, .int 53, .int 54, .int 55, .int 56, .int 57], vm := .none },
  { cls := 23, slots := #[.int 48, .int 48, .int 48, .int 48, .int 48, .int 48, .int 48, .int 48, .int 48, .int 48, .int 49, .int 49, .int 49, .int 49, .int 49, .int 49, .int 49, .int 49, .int 49, .int 49, .int 50, .int 50, .int 50, .int 50, .int 50, .int 50, .int 50, .int 50, .int 50, .int 50, .int 51, .int 51, .int 51, .int 51, .int 51, .int 51, .int 51, .int 51, .int 51, .int 51, .int 52, .int 52, .int 52, .int 52, .int 52, .int 52, .int 52, .int 52, .int 52, .int 52, .int 53, .int 53, .int 53, .int 53, .int 53, .int 53, .int 53, .int 53, .int 53, .int 53, .int 54, .int 54, .int 54, .int 54, .int 54, .int 54, .int 54, .int 54, .int 54, .int 54, .int 55, .int 55, .int 55, .int 55, .int 55, .int 55, .int 55, .int 55, .int 55, .int 55, .int 56, .int 56, .int 56, .int 56, .int 56, .int 56, .int 56, .int 56, .int 56, .int 56, .int 57, .int 57, .int 57, .int 57, .int 57, .int 57, .int 57, .int 57, .int 57, .int 57], vm := .none }]
def classes : Array Class := #[k0, k1, k2, k3, k4, k5, k6, k7, k8, k9, k10, k11, k12, k13, k14, k15, k16, k17, k18, k19, k20, k21, k22, k23, k24, k25]
def interned : List (Array UInt16 × Addr) := []
def slotsUsed : Nat := 256
def theMethod : MethodId := ⟨1, 1⟩
def args0 : Array Value := #[.int 5]
def aboutOver (below : List Frame) : State where
  vm := { classes := classes, interned := interned.toArray }
  heap := heap
  slotsUsed := slotsUsed
  threads := #[{ frames := .invoking theMethod args0 :: below }]
def below0 : List Frame := [.native { method := ⟨0, 0⟩, args := #[] }]
def about1 : State := aboutOver below0
def p0 : Program := .bare "" "" ""
def e0 : Env := launch0.env 0 0 0
theorem w_frames : about1.frames = Frame.invoking theMethod args0 :: below0 := rfl
set_option maxRecDepth 65536 in
theorem w_args : argsFit about1.vm theMethod args0 = true := by decide +kernel
set_option maxRecDepth 65536 in
theorem w_heap : heapFits about1 = true := by decide +kernel
set_option maxRecDepth 65536 in
theorem w_runnable : about1.curStatus? = some .runnable := by decide +kernel
set_option maxRecDepth 65536 in
theorem w_alone : about1.alone = true := by decide +kernel
set_option maxRecDepth 65536 in
theorem w_named : about1.methodNamed? x = some theMethod := by decide +kernel
set_option maxRecDepth 65536 in
theorem w_hears : about1.hears theMethod below0 = true := by decide +kernel
set_option maxRecDepth 65536 in
theorem w_ripe : about1.ripe theMethod args0 below0 = true := by decide +kernel
theorem w_running : about1.status = .running := rfl
set_option maxRecDepth 65536 in
theorem w_room : about1.hasRoom e0.platform room_1 = true :=
  launch0.hasRoom_least _ room_1 (by decide +kernel) (by decide +kernel) (by decide +kernel) (by decide +kernel) (by decide +kernel) (by decide +kernel)
theorem allAtoms_all (ts : List Jvm.Cond) (a : Array Jvm.Value) (st : Jvm.State) : (allAtoms ts).before a st = ts.all (fun c => c.before a st) := by
  induction ts with
  | nil => rfl
  | cons c t ih =>
    show (Jvm.Cond.and c (allAtoms t)).before a st = _
    rw [Jvm.Cond.before_and, ih, List.all_cons]
def words1 : List Jvm.Cond := Jvm.Cond.code x code maxLocals ret :: tables_1
/-- a 'code' word, met by the world's own term for the bytes: nothing is compared byte by byte -/
theorem code_word {y : MethodName} {bytes : ByteArray} {mx : Nat} {rt : Option FieldType} {a : Array Value} {s : State} {m : MethodId} {meth : Method} {c : Code} (h1 : s.methodNamed? y = some m) (h2 : s.vm.method? m = some meth) (h3 : meth.code = some c) (h4 : c.code = bytes)
    (h5 : (c.maxLocals == mx && c.exceptionTable.isEmpty && decide (c.maxStack ≤ mostOperands) && decide (meth.sig.returnType = rt) && !meth.locks && decide (parseMethodDescriptor y.desc = some meth.sig)) = true) : (Jvm.Cond.code y bytes mx rt).before a s = true := by
  simp only [Bool.and_eq_true, beq_iff_eq, Bool.not_eq_true', decide_eq_true_eq] at h5
  obtain ⟨⟨⟨⟨⟨g1, g2⟩, g3⟩, g4⟩, g5⟩, g6⟩ := h5
  simp [Cond.before, Cond.holds, Cond.value, h1, h2, h3, h4, g1, g2, g3, g4, g5, g6]
def isCode : Jvm.Cond → Bool
  | .code _ _ _ _ => true
  | _ => false
theorem all_split {L : List Jvm.Cond} {P : Jvm.Cond → Bool} (h1 : L.all (fun c => isCode c || P c) = true) (h2 : ∀ c ∈ L.filter isCode, P c = true) : L.all P = true := by
  refine List.all_eq_true.mpr fun c hc => ?_
  have h := List.all_eq_true.mp h1 c hc
  rcases Bool.eq_false_or_eq_true (isCode c) with hi | hi
  · exact h2 c (List.mem_filter.mpr ⟨hc, hi⟩)
  · simpa [hi] using h
set_option maxRecDepth 65536 in
theorem w_c0 : (Jvm.Cond.code x code maxLocals ret).before args0 about1 = true := code_word (m := ⟨1, 1⟩) (meth := k1m1) (c := k1c1) (by decide +kernel) rfl rfl rfl (by decide +kernel)
set_option maxRecDepth 65536 in
theorem w_c1 : (Jvm.Cond.code ({ cls := "com/example/vestline/vestline/AllocationType", name := "acceptedQuantity", desc := "()Ljava/lang/String;" } : Jvm.MethodName) prog_3_method_7_code (2 : Nat) (Option.some (Jvm.ClassFile.FieldType.object "java/lang/String"))).before args0 about1 = true := code_word (m := ⟨6, 0⟩) (meth := k6m0) (c := k6c0) (by decide +kernel) rfl rfl rfl (by decide +kernel)
set_option maxRecDepth 65536 in
theorem w_c2 : (Jvm.Cond.code ({ cls := "java/lang/String", name := "equals", desc := "(Ljava/lang/Object;)Z" } : Jvm.MethodName) jdk_42_method_66_code (3 : Nat) (Option.some Jvm.ClassFile.FieldType.boolean)).before args0 about1 = true := code_word (m := ⟨9, 3⟩) (meth := k9m3) (c := k9c3) (by decide +kernel) rfl rfl rfl (by decide +kernel)
set_option maxRecDepth 65536 in
theorem w_c3 : (Jvm.Cond.code ({ cls := "java/lang/StringBuilder", name := "<init>", desc := "()V" } : Jvm.MethodName) jdk_67_method_1_code (1 : Nat) (Option.none : Option Jvm.ClassFile.FieldType)).before args0 about1 = true := code_word (m := ⟨12, 0⟩) (meth := k12m0) (c := k12c0) (by decide +kernel) rfl rfl rfl (by decide +kernel)
set_option maxRecDepth 65536 in
theorem w_c4 : (Jvm.Cond.code ({ cls := "java/lang/AbstractStringBuilder", name := "<init>", desc := "(I)V" } : Jvm.MethodName) jdk_68_method_2_code (2 : Nat) (Option.none : Option Jvm.ClassFile.FieldType)).before args0 about1 = true := code_word (m := ⟨11, 1⟩) (meth := k11m1) (c := k11c1) (by decide +kernel) rfl rfl rfl (by decide +kernel)
set_option maxRecDepth 65536 in
theorem w_c5 : (Jvm.Cond.code ({ cls := "java/lang/Object", name := "<init>", desc := "()V" } : Jvm.MethodName) object_method_1_code (1 : Nat) (Option.none : Option Jvm.ClassFile.FieldType)).before args0 about1 = true := code_word (m := ⟨0, 0⟩) (meth := k0m0) (c := k0c0) (by decide +kernel) rfl rfl rfl (by decide +kernel)
set_option maxRecDepth 65536 in
theorem w_c6 : (Jvm.Cond.code ({ cls := "java/lang/StringBuilder", name := "append", desc := "(Ljava/lang/String;)Ljava/lang/StringBuilder;" } : Jvm.MethodName) jdk_67_method_7_code (2 : Nat) (Option.some (Jvm.ClassFile.FieldType.object "java/lang/StringBuilder"))).before args0 about1 = true := code_word (m := ⟨12, 1⟩) (meth := k12m1) (c := k12c1) (by decide +kernel) rfl rfl rfl (by decide +kernel)
set_option maxRecDepth 65536 in
theorem w_c7 : (Jvm.Cond.code ({ cls := "java/lang/AbstractStringBuilder", name := "append", desc := "(Ljava/lang/String;)Ljava/lang/AbstractStringBuilder;" } : Jvm.MethodName) jdk_68_method_22_code (3 : Nat) (Option.some (Jvm.ClassFile.FieldType.object "java/lang/AbstractStringBuilder"))).before args0 about1 = true := code_word (m := ⟨11, 5⟩) (meth := k11m5) (c := k11c5) (by decide +kernel) rfl rfl rfl (by decide +kernel)
set_option maxRecDepth 65536 in
theorem w_c8 : (Jvm.Cond.code ({ cls := "java/lang/String", name := "length", desc := "()I" } : Jvm.MethodName) jdk_42_method_54_code (1 : Nat) (Option.some Jvm.ClassFile.FieldType.int)).before args0 about1 = true := code_word (m := ⟨9, 2⟩) (meth := k9m2) (c := k9c2) (by decide +kernel) rfl rfl rfl (by decide +kernel)
set_option maxRecDepth 65536 in
theorem w_c9 : (Jvm.Cond.code ({ cls := "java/lang/String", name := "coder", desc := "()B" } : Jvm.MethodName) jdk_42_method_152_code (1 : Nat) (Option.some Jvm.ClassFile.FieldType.byte)).before args0 about1 = true := code_word (m := ⟨9, 6⟩) (meth := k9m6) (c := k9c6) (by decide +kernel) rfl rfl rfl (by decide +kernel)
set_option maxRecDepth 65536 in
theorem w_c10 : (Jvm.Cond.code ({ cls := "java/lang/AbstractStringBuilder", name := "ensureCapacityInternal", desc := "(I)V" } : Jvm.MethodName) jdk_68_method_9_code (3 : Nat) (Option.none : Option Jvm.ClassFile.FieldType)).before args0 about1 = true := code_word (m := ⟨11, 3⟩) (meth := k11m3) (c := k11c3) (by decide +kernel) rfl rfl rfl (by decide +kernel)
set_option maxRecDepth 65536 in
theorem w_c11 : (Jvm.Cond.code ({ cls := "java/lang/AbstractStringBuilder", name := "newCapacity", desc := "(I)I" } : Jvm.MethodName) jdk_68_method_10_code (6 : Nat) (Option.some Jvm.ClassFile.FieldType.int)).before args0 about1 = true := code_word (m := ⟨11, 4⟩) (meth := k11m4) (c := k11c4) (by decide +kernel) rfl rfl rfl (by decide +kernel)
set_option maxRecDepth 65536 in
theorem w_c12 : (Jvm.Cond.code ({ cls := "jdk/internal/util/ArraysSupport", name := "newLength", desc := "(III)I" } : Jvm.MethodName) jdk_48_method_27_code (4 : Nat) (Option.some Jvm.ClassFile.FieldType.int)).before args0 about1 = true := code_word (m := ⟨13, 1⟩) (meth := k13m1) (c := k13c1) (by decide +kernel) rfl rfl rfl (by decide +kernel)
set_option maxRecDepth 65536 in
theorem w_c13 : (Jvm.Cond.code ({ cls := "java/lang/Math", name := "max", desc := "(II)I" } : Jvm.MethodName) jdk_29_method_65_code (2 : Nat) (Option.some Jvm.ClassFile.FieldType.int)).before args0 about1 = true := code_word (m := ⟨14, 1⟩) (meth := k14m1) (c := k14c1) (by decide +kernel) rfl rfl rfl (by decide +kernel)
set_option maxRecDepth 65536 in
theorem w_c14 : (Jvm.Cond.code ({ cls := "java/util/Arrays", name := "copyOf", desc := "([BI)[B" } : Jvm.MethodName) jdk_65_method_121_code (3 : Nat) (Option.some (Jvm.ClassFile.FieldType.array Jvm.ClassFile.FieldType.byte))).before args0 about1 = true := code_word (m := ⟨15, 1⟩) (meth := k15m1) (c := k15c1) (by decide +kernel) rfl rfl rfl (by decide +kernel)
set_option maxRecDepth 65536 in
theorem w_c15 : (Jvm.Cond.code ({ cls := "java/lang/Math", name := "min", desc := "(II)I" } : Jvm.MethodName) jdk_29_method_69_code (2 : Nat) (Option.some Jvm.ClassFile.FieldType.int)).before args0 about1 = true := code_word (m := ⟨14, 2⟩) (meth := k14m2) (c := k14c2) (by decide +kernel) rfl rfl rfl (by decide +kernel)
set_option maxRecDepth 65536 in
theorem w_c16 : (Jvm.Cond.code ({ cls := "java/lang/AbstractStringBuilder", name := "putStringAt", desc := "(ILjava/lang/String;)V" } : Jvm.MethodName) jdk_68_method_73_code (3 : Nat) (Option.none : Option Jvm.ClassFile.FieldType)).before args0 about1 = true := code_word (m := ⟨11, 10⟩) (meth := k11m10) (c := k11c10) (by decide +kernel) rfl rfl rfl (by decide +kernel)
set_option maxRecDepth 65536 in
theorem w_c17 : (Jvm.Cond.code ({ cls := "java/lang/AbstractStringBuilder", name := "inflateIfNeededFor", desc := "(Ljava/lang/String;)V" } : Jvm.MethodName) jdk_68_method_71_code (2 : Nat) (Option.none : Option Jvm.ClassFile.FieldType)).before args0 about1 = true := code_word (m := ⟨11, 9⟩) (meth := k11m9) (c := k11c9) (by decide +kernel) rfl rfl rfl (by decide +kernel)
set_option maxRecDepth 65536 in
theorem w_c18 : (Jvm.Cond.code ({ cls := "java/lang/String", name := "getBytes", desc := "([BIB)V" } : Jvm.MethodName) jdk_42_method_147_code (4 : Nat) (Option.none : Option Jvm.ClassFile.FieldType)).before args0 about1 = true := code_word (m := ⟨9, 4⟩) (meth := k9m4) (c := k9c4) (by decide +kernel) rfl rfl rfl (by decide +kernel)
set_option maxRecDepth 65536 in
theorem w_c19 : (Jvm.Cond.code ({ cls := "java/lang/StringBuilder", name := "append", desc := "(I)Ljava/lang/StringBuilder;" } : Jvm.MethodName) jdk_67_method_15_code (2 : Nat) (Option.some (Jvm.ClassFile.FieldType.object "java/lang/StringBuilder"))).before args0 about1 = true := code_word (m := ⟨12, 2⟩) (meth := k12m2) (c := k12c2) (by decide +kernel) rfl rfl rfl (by decide +kernel)
set_option maxRecDepth 65536 in
theorem w_c20 : (Jvm.Cond.code ({ cls := "java/lang/AbstractStringBuilder", name := "append", desc := "(I)Ljava/lang/AbstractStringBuilder;" } : Jvm.MethodName) jdk_68_method_32_code (4 : Nat) (Option.some (Jvm.ClassFile.FieldType.object "java/lang/AbstractStringBuilder"))).before args0 about1 = true := code_word (m := ⟨11, 6⟩) (meth := k11m6) (c := k11c6) (by decide +kernel) rfl rfl rfl (by decide +kernel)
set_option maxRecDepth 65536 in
theorem w_c21 : (Jvm.Cond.code ({ cls := "java/lang/Integer", name := "stringSize", desc := "(I)I" } : Jvm.MethodName) jdk_33_method_13_code (4 : Nat) (Option.some Jvm.ClassFile.FieldType.int)).before args0 about1 = true := code_word (m := ⟨18, 1⟩) (meth := k18m1) (c := k18c1) (by decide +kernel) rfl rfl rfl (by decide +kernel)
set_option maxRecDepth 65536 in
theorem w_c22 : (Jvm.Cond.code ({ cls := "java/lang/AbstractStringBuilder", name := "isLatin1", desc := "()Z" } : Jvm.MethodName) jdk_68_method_68_code (1 : Nat) (Option.some Jvm.ClassFile.FieldType.boolean)).before args0 about1 = true := code_word (m := ⟨11, 8⟩) (meth := k11m8) (c := k11c8) (by decide +kernel) rfl rfl rfl (by decide +kernel)
set_option maxRecDepth 65536 in
theorem w_c23 : (Jvm.Cond.code ({ cls := "java/lang/Integer", name := "getChars", desc := "(II[B)I" } : Jvm.MethodName) jdk_33_method_12_code (7 : Nat) (Option.some Jvm.ClassFile.FieldType.int)).before args0 about1 = true := code_word (m := ⟨18, 0⟩) (meth := k18m0) (c := k18c0) (by decide +kernel) rfl rfl rfl (by decide +kernel)
set_option maxRecDepth 65536 in
theorem w_c24 : (Jvm.Cond.code ({ cls := "java/lang/StringBuilder", name := "toString", desc := "()Ljava/lang/String;" } : Jvm.MethodName) jdk_67_method_42_code (1 : Nat) (Option.some (Jvm.ClassFile.FieldType.object "java/lang/String"))).before args0 about1 = true := code_word (m := ⟨12, 3⟩) (meth := k12m3) (c := k12c3) (by decide +kernel) rfl rfl rfl (by decide +kernel)
set_option maxRecDepth 65536 in
theorem w_c25 : (Jvm.Cond.code ({ cls := "java/lang/String", name := "<init>", desc := "(Ljava/lang/StringBuilder;)V" } : Jvm.MethodName) jdk_42_method_53_code (2 : Nat) (Option.none : Option Jvm.ClassFile.FieldType)).before args0 about1 = true := code_word (m := ⟨9, 1⟩) (meth := k9m1) (c := k9c1) (by decide +kernel) rfl rfl rfl (by decide +kernel)
set_option maxRecDepth 65536 in
theorem w_c26 : (Jvm.Cond.code ({ cls := "java/lang/String", name := "<init>", desc := "(Ljava/lang/AbstractStringBuilder;Ljava/lang/Void;)V" } : Jvm.MethodName) jdk_42_method_150_code (5 : Nat) (Option.none : Option Jvm.ClassFile.FieldType)).before args0 about1 = true := code_word (m := ⟨9, 5⟩) (meth := k9m5) (c := k9c5) (by decide +kernel) rfl rfl rfl (by decide +kernel)
set_option maxRecDepth 65536 in
theorem w_c27 : (Jvm.Cond.code ({ cls := "java/lang/AbstractStringBuilder", name := "getValue", desc := "()[B" } : Jvm.MethodName) jdk_68_method_64_code (1 : Nat) (Option.some (Jvm.ClassFile.FieldType.array Jvm.ClassFile.FieldType.byte))).before args0 about1 = true := code_word (m := ⟨11, 7⟩) (meth := k11m7) (c := k11c7) (by decide +kernel) rfl rfl rfl (by decide +kernel)
set_option maxRecDepth 65536 in
theorem w_c28 : (Jvm.Cond.code ({ cls := "java/lang/StringBuilder", name := "length", desc := "()I" } : Jvm.MethodName) jdk_67_method_93_code (1 : Nat) (Option.some Jvm.ClassFile.FieldType.int)).before args0 about1 = true := code_word (m := ⟨12, 4⟩) (meth := k12m4) (c := k12c4) (by decide +kernel) rfl rfl rfl (by decide +kernel)
set_option maxRecDepth 65536 in
theorem w_c29 : (Jvm.Cond.code ({ cls := "java/lang/AbstractStringBuilder", name := "length", desc := "()I" } : Jvm.MethodName) jdk_68_method_6_code (1 : Nat) (Option.some Jvm.ClassFile.FieldType.int)).before args0 about1 = true := code_word (m := ⟨11, 2⟩) (meth := k11m2) (c := k11c2) (by decide +kernel) rfl rfl rfl (by decide +kernel)
set_option maxRecDepth 65536 in
theorem w_c30 : (Jvm.Cond.code ({ cls := "java/util/Arrays", name := "copyOfRange", desc := "([BII)[B" } : Jvm.MethodName) jdk_65_method_132_code (3 : Nat) (Option.some (Jvm.ClassFile.FieldType.array Jvm.ClassFile.FieldType.byte))).before args0 about1 = true := code_word (m := ⟨15, 3⟩) (meth := k15m3) (c := k15c3) (by decide +kernel) rfl rfl rfl (by decide +kernel)
set_option maxRecDepth 65536 in
theorem w_c31 : (Jvm.Cond.code ({ cls := "java/util/Arrays", name := "copyOfRangeByte", desc := "([BII)[B" } : Jvm.MethodName) jdk_65_method_133_code (5 : Nat) (Option.some (Jvm.ClassFile.FieldType.array Jvm.ClassFile.FieldType.byte))).before args0 about1 = true := code_word (m := ⟨15, 4⟩) (meth := k15m4) (c := k15c4) (by decide +kernel) rfl rfl rfl (by decide +kernel)
set_option maxRecDepth 65536 in
theorem w_c32 : (Jvm.Cond.code ({ cls := "java/util/Arrays", name := "checkLength", desc := "(II)V" } : Jvm.MethodName) jdk_65_method_131_code (2 : Nat) (Option.none : Option Jvm.ClassFile.FieldType)).before args0 about1 = true := code_word (m := ⟨15, 2⟩) (meth := k15m2) (c := k15c2) (by decide +kernel) rfl rfl rfl (by decide +kernel)
set_option maxRecDepth 65536 in
theorem w_c33 : (Jvm.Cond.code ({ cls := "java/lang/StringLatin1", name := "equals", desc := "([B[B)Z" } : Jvm.MethodName) jdk_43_method_13_code (3 : Nat) (Option.some Jvm.ClassFile.FieldType.boolean)).before args0 about1 = true := code_word (m := ⟨19, 1⟩) (meth := k19m1) (c := k19c1) (by decide +kernel) rfl rfl rfl (by decide +kernel)
def codes1 : List Jvm.Cond := [Jvm.Cond.code x code maxLocals ret, Jvm.Cond.code ({ cls := "com/example/vestline/vestline/AllocationType", name := "acceptedQuantity", desc := "()Ljava/lang/String;" } : Jvm.MethodName) prog_3_method_7_code (2 : Nat) (Option.some (Jvm.ClassFile.FieldType.object "java/lang/String")), Jvm.Cond.code ({ cls := "java/lang/String", name := "equals", desc := "(Ljava/lang/Object;)Z" } : Jvm.MethodName) jdk_42_method_66_code (3 : Nat) (Option.some Jvm.ClassFile.FieldType.boolean), Jvm.Cond.code ({ cls := "java/lang/StringBuilder", name := "<init>", desc := "()V" } : Jvm.MethodName) jdk_67_method_1_code (1 : Nat) (Option.none : Option Jvm.ClassFile.FieldType), Jvm.Cond.code ({ cls := "java/lang/AbstractStringBuilder", name := "<init>", desc := "(I)V" } : Jvm.MethodName) jdk_68_method_2_code (2 : Nat) (Option.none : Option Jvm.ClassFile.FieldType), Jvm.Cond.code ({ cls := "java/lang/Object", name := "<init>", desc := "()V" } : Jvm.MethodName) object_method_1_code (1 : Nat) (Option.none : Option Jvm.ClassFile.FieldType), Jvm.Cond.code ({ cls := "java/lang/StringBuilder", name := "append", desc := "(Ljava/lang/String;)Ljava/lang/StringBuilder;" } : Jvm.MethodName) jdk_67_method_7_code (2 : Nat) (Option.some (Jvm.ClassFile.FieldType.object "java/lang/StringBuilder")), Jvm.Cond.code ({ cls := "java/lang/AbstractStringBuilder", name := "append", desc := "(Ljava/lang/String;)Ljava/lang/AbstractStringBuilder;" } : Jvm.MethodName) jdk_68_method_22_code (3 : Nat) (Option.some (Jvm.ClassFile.FieldType.object "java/lang/AbstractStringBuilder")), Jvm.Cond.code ({ cls := "java/lang/String", name := "length", desc := "()I" } : Jvm.MethodName) jdk_42_method_54_code (1 : Nat) (Option.some Jvm.ClassFile.FieldType.int), Jvm.Cond.code ({ cls := "java/lang/String", name := "coder", desc := "()B" } : Jvm.MethodName) jdk_42_method_152_code (1 : Nat) (Option.some Jvm.ClassFile.FieldType.byte), Jvm.Cond.code ({ cls := "java/lang/AbstractStringBuilder", name := "ensureCapacityInternal", desc := "(I)V" } : Jvm.MethodName) jdk_68_method_9_code (3 : Nat) (Option.none : Option Jvm.ClassFile.FieldType), Jvm.Cond.code ({ cls := "java/lang/AbstractStringBuilder", name := "newCapacity", desc := "(I)I" } : Jvm.MethodName) jdk_68_method_10_code (6 : Nat) (Option.some Jvm.ClassFile.FieldType.int), Jvm.Cond.code ({ cls := "jdk/internal/util/ArraysSupport", name := "newLength", desc := "(III)I" } : Jvm.MethodName) jdk_48_method_27_code (4 : Nat) (Option.some Jvm.ClassFile.FieldType.int), Jvm.Cond.code ({ cls := "java/lang/Math", name := "max", desc := "(II)I" } : Jvm.MethodName) jdk_29_method_65_code (2 : Nat) (Option.some Jvm.ClassFile.FieldType.int), Jvm.Cond.code ({ cls := "java/util/Arrays", name := "copyOf", desc := "([BI)[B" } : Jvm.MethodName) jdk_65_method_121_code (3 : Nat) (Option.some (Jvm.ClassFile.FieldType.array Jvm.ClassFile.FieldType.byte)), Jvm.Cond.code ({ cls := "java/lang/Math", name := "min", desc := "(II)I" } : Jvm.MethodName) jdk_29_method_69_code (2 : Nat) (Option.some Jvm.ClassFile.FieldType.int), Jvm.Cond.code ({ cls := "java/lang/AbstractStringBuilder", name := "putStringAt", desc := "(ILjava/lang/String;)V" } : Jvm.MethodName) jdk_68_method_73_code (3 : Nat) (Option.none : Option Jvm.ClassFile.FieldType), Jvm.Cond.code ({ cls := "java/lang/AbstractStringBuilder", name := "inflateIfNeededFor", desc := "(Ljava/lang/String;)V" } : Jvm.MethodName) jdk_68_method_71_code (2 : Nat) (Option.none : Option Jvm.ClassFile.FieldType), Jvm.Cond.code ({ cls := "java/lang/String", name := "getBytes", desc := "([BIB)V" } : Jvm.MethodName) jdk_42_method_147_code (4 : Nat) (Option.none : Option Jvm.ClassFile.FieldType), Jvm.Cond.code ({ cls := "java/lang/StringBuilder", name := "append", desc := "(I)Ljava/lang/StringBuilder;" } : Jvm.MethodName) jdk_67_method_15_code (2 : Nat) (Option.some (Jvm.ClassFile.FieldType.object "java/lang/StringBuilder")), Jvm.Cond.code ({ cls := "java/lang/AbstractStringBuilder", name := "append", desc := "(I)Ljava/lang/AbstractStringBuilder;" } : Jvm.MethodName) jdk_68_method_32_code (4 : Nat) (Option.some (Jvm.ClassFile.FieldType.object "java/lang/AbstractStringBuilder")), Jvm.Cond.code ({ cls := "java/lang/Integer", name := "stringSize", desc := "(I)I" } : Jvm.MethodName) jdk_33_method_13_code (4 : Nat) (Option.some Jvm.ClassFile.FieldType.int), Jvm.Cond.code ({ cls := "java/lang/AbstractStringBuilder", name := "isLatin1", desc := "()Z" } : Jvm.MethodName) jdk_68_method_68_code (1 : Nat) (Option.some Jvm.ClassFile.FieldType.boolean), Jvm.Cond.code ({ cls := "java/lang/Integer", name := "getChars", desc := "(II[B)I" } : Jvm.MethodName) jdk_33_method_12_code (7 : Nat) (Option.some Jvm.ClassFile.FieldType.int), Jvm.Cond.code ({ cls := "java/lang/StringBuilder", name := "toString", desc := "()Ljava/lang/String;" } : Jvm.MethodName) jdk_67_method_42_code (1 : Nat) (Option.some (Jvm.ClassFile.FieldType.object "java/lang/String")), Jvm.Cond.code ({ cls := "java/lang/String", name := "<init>", desc := "(Ljava/lang/StringBuilder;)V" } : Jvm.MethodName) jdk_42_method_53_code (2 : Nat) (Option.none : Option Jvm.ClassFile.FieldType), Jvm.Cond.code ({ cls := "java/lang/String", name := "<init>", desc := "(Ljava/lang/AbstractStringBuilder;Ljava/lang/Void;)V" } : Jvm.MethodName) jdk_42_method_150_code (5 : Nat) (Option.none : Option Jvm.ClassFile.FieldType), Jvm.Cond.code ({ cls := "java/lang/AbstractStringBuilder", name := "getValue", desc := "()[B" } : Jvm.MethodName) jdk_68_method_64_code (1 : Nat) (Option.some (Jvm.ClassFile.FieldType.array Jvm.ClassFile.FieldType.byte)), Jvm.Cond.code ({ cls := "java/lang/StringBuilder", name := "length", desc := "()I" } : Jvm.MethodName) jdk_67_method_93_code (1 : Nat) (Option.some Jvm.ClassFile.FieldType.int), Jvm.Cond.code ({ cls := "java/lang/AbstractStringBuilder", name := "length", desc := "()I" } : Jvm.MethodName) jdk_68_method_6_code (1 : Nat) (Option.some Jvm.ClassFile.FieldType.int), Jvm.Cond.code ({ cls := "java/util/Arrays", name := "copyOfRange", desc := "([BII)[B" } : Jvm.MethodName) jdk_65_method_132_code (3 : Nat) (Option.some (Jvm.ClassFile.FieldType.array Jvm.ClassFile.FieldType.byte)), Jvm.Cond.code ({ cls := "java/util/Arrays", name := "copyOfRangeByte", desc := "([BII)[B" } : Jvm.MethodName) jdk_65_method_133_code (5 : Nat) (Option.some (Jvm.ClassFile.FieldType.array Jvm.ClassFile.FieldType.byte)), Jvm.Cond.code ({ cls := "java/util/Arrays", name := "checkLength", desc := "(II)V" } : Jvm.MethodName) jdk_65_method_131_code (2 : Nat) (Option.none : Option Jvm.ClassFile.FieldType), Jvm.Cond.code ({ cls := "java/lang/StringLatin1", name := "equals", desc := "([B[B)Z" } : Jvm.MethodName) jdk_43_method_13_code (3 : Nat) (Option.some Jvm.ClassFile.FieldType.boolean)]
set_option maxRecDepth 65536 in
theorem codes_eq : words1.filter isCode = codes1 := rfl
theorem w_codes : ∀ c ∈ words1.filter isCode, c.before args0 about1 = true := by
  rw [codes_eq]
  intro c hc
  simp only [codes1, List.mem_cons, List.not_mem_nil, or_false] at hc
  rcases hc with rfl | rfl | rfl | rfl | rfl | rfl | rfl | rfl | rfl | rfl | rfl | rfl | rfl | rfl | rfl | rfl | rfl | rfl | rfl | rfl | rfl | rfl | rfl | rfl | rfl | rfl | rfl | rfl | rfl | rfl | rfl | rfl | rfl | rfl
  · exact w_c0
  · exact w_c1
  · exact w_c2
  · exact w_c3
  · exact w_c4
  · exact w_c5
  · exact w_c6
  · exact w_c7
  · exact w_c8
  · exact w_c9
  · exact w_c10
  · exact w_c11
  · exact w_c12
  · exact w_c13
  · exact w_c14
  · exact w_c15
  · exact w_c16
  · exact w_c17
  · exact w_c18
  · exact w_c19
  · exact w_c20
  · exact w_c21
  · exact w_c22
  · exact w_c23
  · exact w_c24
  · exact w_c25
  · exact w_c26
  · exact w_c27
  · exact w_c28
  · exact w_c29
  · exact w_c30
  · exact w_c31
  · exact w_c32
  · exact w_c33
set_option maxRecDepth 65536 in
theorem w_t1 : (words1.take 24).all (fun c => isCode c || c.before args0 about1) = true := by decide +kernel
set_option maxRecDepth 65536 in
theorem w_t2 : ((words1.drop 24).take 24).all (fun c => isCode c || c.before args0 about1) = true := by decide +kernel
set_option maxRecDepth 65536 in
theorem w_t3 : (((words1.drop 24).drop 24).take 24).all (fun c => isCode c || c.before args0 about1) = true := by decide +kernel
set_option maxRecDepth 65536 in
theorem w_t4 : ((((words1.drop 24).drop 24).drop 24).take 24).all (fun c => isCode c || c.before args0 about1) = true := by decide +kernel
set_option maxRecDepth 65536 in
theorem w_t5 : (((((words1.drop 24).drop 24).drop 24).drop 24).take 24).all (fun c => isCode c || c.before args0 about1) = true := by decide +kernel
set_option maxRecDepth 65536 in
theorem w_t6 : ((((((words1.drop 24).drop 24).drop 24).drop 24).drop 24).take 24).all (fun c => isCode c || c.before args0 about1) = true := by decide +kernel
set_option maxRecDepth 65536 in
theorem w_t7 : (((((((words1.drop 24).drop 24).drop 24).drop 24).drop 24).drop 24).take 24).all (fun c => isCode c || c.before args0 about1) = true := by decide +kernel
set_option maxRecDepth 65536 in
theorem w_t8 : ((((((((words1.drop 24).drop 24).drop 24).drop 24).drop 24).drop 24).drop 24).take 24).all (fun c => isCode c || c.before args0 about1) = true := by decide +kernel
set_option maxRecDepth 65536 in
theorem w_t9 : ((((((((words1.drop 24).drop 24).drop 24).drop 24).drop 24).drop 24).drop 24).drop 24).all (fun c => isCode c || c.before args0 about1) = true := by decide +kernel
theorem w_tables : (allAtoms (Jvm.Cond.code x code maxLocals ret :: tables_1)).before args0 about1 = true := by
  rw [allAtoms_all]
  show words1.all (fun c => c.before args0 about1) = true
  refine all_split ?_ w_codes
  rw [← List.take_append_drop 24 words1, List.all_append, w_t1, ← List.take_append_drop 24 (words1.drop 24), List.all_append, w_t2, ← List.take_append_drop 24 ((words1.drop 24).drop 24), List.all_append, w_t3, ← List.take_append_drop 24 (((words1.drop 24).drop 24).drop 24), List.all_append, w_t4, ← List.take_append_drop 24 ((((words1.drop 24).drop 24).drop 24).drop 24), List.all_append, w_t5, ← List.take_append_drop 24 (((((words1.drop 24).drop 24).drop 24).drop 24).drop 24), List.all_append, w_t6, ← List.take_append_drop 24 ((((((words1.drop 24).drop 24).drop 24).drop 24).drop 24).drop 24), List.all_append, w_t7, ← List.take_append_drop 24 (((((((words1.drop 24).drop 24).drop 24).drop 24).drop 24).drop 24).drop 24), List.all_append, w_t8, w_t9]
  rfl
set_option maxRecDepth 65536 in
theorem w_rest : rest_1_c.before args0 about1 = true := by decide +kernel
set_option maxRecDepth 65536 in
theorem w_case : (Jvm.Cond.and given_1 narrow_1).before args0 about1 = true := by decide +kernel
set_option maxRecDepth 65536 in
theorem w_consts : constsHeld consts_1 about1 := Jvm.Lit.constsHeldB_iff.mp (by decide +kernel)
theorem w_applies : (headSpec (Jvm.Cond.code x code maxLocals ret :: tables_1) room_1).applies x e0.platform about1 = true :=
  (Spec.applies_iff w_frames).mpr ⟨w_running, w_runnable, w_alone, w_named, w_hears, w_ripe, w_room, w_tables⟩
theorem atStart : AtStart classFile x code maxLocals ret World_1 tables_1 room_1 Calls_1 rest_1 Pre_1 launch0 p0 e0 about1 theMethod args0 below0 :=
  ⟨lists_1, trivial, launch0.admits_env _ _ _, launch0.least_env, fairChoices_fair.cas, fairChoices_fair.clock, w_frames, w_args, w_heap, w_applies, ⟨w_consts, trivial⟩, w_rest, w_case⟩
end start1
theorem witness_1 : WitnessClaimed_1 := ⟨start1.p0, start1.e0, start1.about1, start1.theMethod, start1.args0, start1.below0, start1.atStart⟩
end Jvm.Pilot.@@N@@
