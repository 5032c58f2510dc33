import JvmDerived
import JvmDerived.Pilot.@@N@@Statement
import JvmDerived.Pilot.@@N@@Code
set_option linter.unusedVariables false
set_option linter.unusedSimpArgs false
namespace Jvm.OwnK
open Jvm Sem ClassFile Op Lib Jvm.Stand Jvm.Free Jvm.LawKit Jvm.RoadKit Bundle
section Base
variable {p : Program} {l : Launch} {e : Env} {R : Room} {s : State} {m : MethodId} {args : Array Value} {below : List Frame} {meth : Method} {c : Code} {Z : State} {a0 : Array Value} {EL : List (String × Nat)} {nb : Bool} {own : String} {code : ByteArray} {ml : Nat} {ret : Option FieldType} {nm : String} {vm : Vm} {T : State} {locs : List Loc} {ce sl : Nat} {h : Heap} {Q : Option Value → Vm → Heap → Prop} {ck sk : Nat}
theorem lb {n m : Nat} (h : Nat.ble n m = true) : n ≤ m := Nat.le_of_ble_eq_true h
/-- where a walk stands: the method's own facts; the Stand over the start with the tables at hand; what the heap is; what is booked -/
def OW (p : Program) (l : Launch) (e : Env) (R : Room) (s : State) (m : MethodId) (args : Array Value) (below : List Frame) (meth : Method) (c : Code) (Z : State) (a0 : Array Value) (EL : List (String × Nat)) (nb : Bool) (own : String) (code : ByteArray) (ml : Nat) (ret : Option FieldType) (nm : String)
    (vm : Vm) (T : State) (locs : List Loc) (ce sl : Nat) (h : Heap) : Prop :=
  (p.tables.exec = Jvm.exec ∧ c.code = code ∧ c.maxLocals = ml ∧ meth.sig.returnType = ret ∧ meth.locks = false ∧ meth.name = nm) ∧
  Stand p l e R (s.setVm vm) m args below meth c T locs ce sl ∧ T.heap = h ∧ (∃ k0, s.Since vm k0 ∧ k0 ≤ h.size) ∧ Z.Warmed39 vm ∧ vm.findClass own = some m.cls ∧
  CHr Z EL s.vm s.heap vm h ∧ Fr Z.heap.size locs ∧ Ext Z.heap h ∧ (nb = true → s.WarmedH vm) ∧ EW Z a0 EL
/-- the body comes to its end from here -/
def OG (p : Program) (e : Env) (below : List Frame) (s : State) (Z : State) (EL : List (String × Nat)) (nb : Bool) (Q : Option Value → Vm → Heap → Prop) (ck sk : Nat) (T : State) (g : JFrame) : Prop :=
  ∃ s₂ o, Steps p.tables e below (T.setTop g) s₂ ∧ s₂.status = .running ∧ Ended s₂ below o ∧ ∃ v L, o = .returned v ∧ (Q v s₂.vm s₂.heap ∧ Fr Z.heap.size L ∧ Ext Z.heap s₂.heap) ∧ (nb = true → s.WarmedH s₂.vm) ∧ CHr Z EL s.vm s.heap s₂.vm s₂.heap ∧ ReturnedEndW s o s₂ L ck sk
/-- a method's contract -/
def OC (l : Launch) (Z : State) (EL : List (String × Nat)) (nb : Bool) (ws : List Jvm.Cond) (y : MethodName) (bytes : ByteArray) (ml : Nat) (ret : Option FieldType) (rm : Room) (as' : Array Value) (h : Heap) (sf : List Addr) (Q : Option Value → Vm → Heap → Prop) : Prop :=
  MetFree l y (head1 (Jvm.Cond.code y bytes ml ret :: ws) rm) (fun a U => a = as' ∧ Z.Warmed39 U.vm ∧ U.heap = h ∧ CHv Z EL U.vm h ∧ Ext Z.heap h ∧ ∀ x ∈ sf, Safe Z EL U.vm h x) (fun _ _ _ _ _ => True)
    (fun _ U o U' => ∃ v L, o = .returned v ∧ (Q v U'.vm U'.heap ∧ Fr Z.heap.size L ∧ Ext Z.heap U'.heap) ∧ (nb = true → U.WarmedH U'.vm) ∧ CHr Z EL U.vm U.heap U'.vm U'.heap ∧ ReturnedEndW U o U' L rm.cells rm.slots)
/-- one step of the walk -/
abbrev Lt (p : Program) (e : Env) (below : List Frame) (T : State) (g : JFrame) (T' : State) (g' : JFrame) : Prop := ∀ t, Steps p.tables e below (T'.setTop g') t → Steps p.tables e below (T.setTop g) t
theorem oLift {g g' : JFrame} {T' : State} (st : Lt p e below T g T' g') (k : OG p e below s Z EL nb Q ck sk T' g') : OG p e below s Z EL nb Q ck sk T g := by
  obtain ⟨s₂, o, h1, r⟩ := k
  exact ⟨s₂, o, st _ h1, r⟩
theorem oEq {g g' : JFrame} (q : g = g') (k : OG p e below s Z EL nb Q ck sk T g') : OG p e below s Z EL nb Q ck sk T g := q ▸ k
theorem oEnter {ws : List Jvm.Cond} {y : MethodName} {bytes : ByteArray} {rm : Room} {as' : Array Value} {sf : List Addr} (hp : plainFor y = true) (hEW : EW Z a0 EL)
    (body : ∀ (p : Program) (e : Env) (s : State) (m : MethodId) (below : List Frame) (meth : Method) (c : Code) (T : State), OW p l e rm s m as' below meth c Z a0 EL nb y.cls bytes ml ret y.name s.vm T [] 0 0 h → (∀ x ∈ sf, Safe Z EL s.vm h x) → OG p e below s Z EL nb Q rm.cells rm.slots T (entryFrame m as' ml)) :
    OC l Z EL nb ws y bytes ml ret rm as' h sf Q := by
  refine MetFree.of_bodySF hp hisR ?_
  intro p e s m args below meth c s₁ Bd hml hP hK
  obtain ⟨rfl, hZ, hh, hC, hE, hSf⟩ := hP
  have X0 : Stand p l e rm s m _ below meth c s₁ [] 0 0 := Stand.of_body Bd
  have e0 : s₁.heap = h := by rw [← hh, Bd.state]; rfl
  obtain ⟨s₂, o, h1, h2, h3, v, L, h4, h5, h6, h7, h8⟩ := body p e s m below meth c s₁
    ⟨⟨Bd.exec, Bd.bytes, hml, Bd.returns, BodyLoose.notSynchronized Bd, (name_of_methodNamed Bd.named Bd.method).1⟩, X0, e0, ⟨0, (State.WarmedH.refl s).since _, Nat.zero_le _⟩, hZ, findClass_of_methodNamed Bd.named, by subst hh; exact CHr.refl hC, Fr.nil _, hE, fun _ => State.WarmedH.refl s, hEW⟩ hSf
  exact ⟨s₂, o, h1, h2, h3, v, L, h4, h5, h6, h7, h8⟩
/-! ### the plain steps, by evaluation -/
def oIl : Instr → Nat
  | .bipush _ => 2 | .sipush _ => 3 | .aload _ => 2 | .iload _ => 2 | .istore _ => 2 | .astore _ => 2 | .iinc _ _ => 3 | .goto _ => 3 | _ => 1
def oNx (pc : Nat) : Instr → Nat
  | .goto o => ((pc : Int) + o).toNat
  | i => pc + oIl i
def oOkG (pc : Nat) : Instr → Bool
  | .goto o => decide (0 ≤ (pc : Int) + o)
  | _ => true
def oSeg (code : ByteArray) : Nat → List Instr → Bool
  | _, [] => true
  | pc, i :: is => decide (decode code pc = .ok (i, oIl i)) && (oOkG pc i && oSeg code (oNx pc i) is)
def oOne : Slot → Bool
  | .unset => true
  | .val w => decide (w.category = 1)
  | .second => false
theorem oOne_ok {o : Slot} (h : oOne o = true) : o = .unset ∨ ∃ w, o = .val w ∧ w.category = 1 := by
  cases o with
  | unset => exact Or.inl rfl
  | second => cases h
  | val w => exact Or.inr ⟨w, rfl, of_decide_eq_true h⟩
theorem oCat {v : Value} (h : v.isRef = true) : v.category = 1 := by cases v <;> simp_all [Value.isRef, Value.category]
def oS1 (i : Instr) (ls : Array Slot) (st : List Value) : Option (Array Slot × List Value × Bool) :=
  match i with
  | .aload_n k => match ls[k.val]? with | some (.val v) => some (ls, v :: st, v.isRef) | _ => none
  | .aload k => match ls[k]? with | some (.val v) => some (ls, v :: st, v.isRef) | _ => none
  | .iload_n k => match ls[k.val]? with | some (.val (.int x)) => some (ls, .int x :: st, true) | _ => none
  | .iload k => match ls[k]? with | some (.val (.int x)) => some (ls, .int x :: st, true) | _ => none
  | .iconst i => some (ls, .int (Int32.ofInt i) :: st, true)
  | .bipush i => some (ls, .int (Int8.ofInt i).toInt32 :: st, true)
  | .sipush i => some (ls, .int (Int16.ofInt i).toInt32 :: st, true)
  | .aconst_null => some (ls, .null :: st, true)
  | .goto _ => some (ls, st, true)
  | .istore_n k => match st with | .int x :: rest => (match storeLocals ls k.val (.int x) with | some l' => some (l', rest, true) | none => none) | _ => none
  | .istore k => match st with | .int x :: rest => (match storeLocals ls k (.int x) with | some l' => some (l', rest, true) | none => none) | _ => none
  | .astore_n k => match st with | x :: rest => (match ls[k.val]? with | some o => some (ls.setIfInBounds k.val (.val x), rest, x.isRef && oOne o) | none => none) | _ => none
  | .astore k => match st with | x :: rest => (match ls[k]? with | some o => some (ls.setIfInBounds k (.val x), rest, x.isRef && oOne o) | none => none) | _ => none
  | .iinc k cst => match ls[k]? with | some (.val (.int x)) => (match storeLocals ls k (.int (x + Int32.ofInt cst)) with | some l' => some (l', st, true) | none => none) | _ => none
  | .dup => match st with | x :: rest => some (ls, x :: x :: rest, decide (x.category = 1)) | _ => none
  | .pop => match st with | x :: rest => some (ls, rest, decide (x.category = 1)) | _ => none
  | .dup_x1 => match st with | x :: y :: rest => some (ls, x :: y :: x :: rest, decide (x.category = 1) && decide (y.category = 1)) | _ => none
  | .dup2 => match st with | x :: y :: rest => some (ls, x :: y :: x :: y :: rest, decide (x.category = 1) && decide (y.category = 1)) | _ => none
  | .iadd => match st with | .int y :: .int x :: rest => some (ls, .int (x + y) :: rest, true) | _ => none
  | .isub => match st with | .int y :: .int x :: rest => some (ls, .int (x - y) :: rest, true) | _ => none
  | .imul => match st with | .int y :: .int x :: rest => some (ls, .int (x * y) :: rest, true) | _ => none
  | .idiv => match st with | .int y :: .int x :: rest => some (ls, .int (x / y) :: rest, decide (y ≠ 0)) | _ => none
  | .irem => match st with | .int y :: .int x :: rest => some (ls, .int (x % y) :: rest, decide (y ≠ 0)) | _ => none
  | .iand => match st with | .int y :: .int x :: rest => some (ls, .int (x &&& y) :: rest, true) | _ => none
  | .ior => match st with | .int y :: .int x :: rest => some (ls, .int (x ||| y) :: rest, true) | _ => none
  | .ixor => match st with | .int y :: .int x :: rest => some (ls, .int (x ^^^ y) :: rest, true) | _ => none
  | .ishl => match st with | .int y :: .int x :: rest => some (ls, .int (x <<< (y &&& 31)) :: rest, true) | _ => none
  | .ishr => match st with | .int y :: .int x :: rest => some (ls, .int (x >>> (y &&& 31)) :: rest, true) | _ => none
  | .iushr => match st with | .int y :: .int x :: rest => some (ls, .int (XT.ushr x y) :: rest, true) | _ => none
  | .ineg => match st with | .int x :: rest => some (ls, .int (-x) :: rest, true) | _ => none
  | .i2b => match st with | .int x :: rest => some (ls, .int (x.toInt8.toInt32) :: rest, true) | _ => none
  | .i2c => match st with | .int x :: rest => some (ls, .int (x.toUInt32.toUInt16.toUInt32.toInt32) :: rest, true) | _ => none
  | .i2s => match st with | .int x :: rest => some (ls, .int (x.toInt16.toInt32) :: rest, true) | _ => none
  | _ => none
def oRun : List Instr → Array Slot → List Value → Option (Array Slot × List Value × Bool)
  | [], ls, st => some (ls, st, true)
  | i :: is, ls, st => match oS1 i ls st with
    | some (ls1, st1, b1) => (match oRun is ls1 st1 with | some (ls2, st2, b2) => some (ls2, st2, b1 && b2) | none => none)
    | none => none
def oNxs : Nat → List Instr → Nat
  | pc, [] => pc
  | pc, i :: is => oNxs (oNx pc i) is
theorem oS1_ok (H : At T m c below) (hx : p.tables.exec = Jvm.exec) {i : Instr} {pc : Nat} {ls ls' : Array Slot} {st st' : List Value} {b : Bool} {t : State} (hd : decode c.code pc = .ok (i, oIl i)) (hg : oOkG pc i = true) (hs : oS1 i ls st = some (ls', st', b)) (hb : b = true)
    (hr : Steps p.tables e below (T.setTop (mkF m (oNx pc i) ls' st')) t) : Steps p.tables e below (T.setTop (mkF m pc ls st)) t := by
  subst hb
  cases i
  case aload_n k =>
    simp only [oS1] at hs
    split at hs
    · rename_i v hv
      simp only [Option.some.injEq, Prod.mk.injEq] at hs
      obtain ⟨rfl, rfl, h3⟩ := hs
      exact XS.aloadN (g := mkF m pc ls _) H hx rfl hd hv h3 hr
    · cases hs
  case aload k =>
    simp only [oS1] at hs
    split at hs
    · rename_i v hv
      simp only [Option.some.injEq, Prod.mk.injEq] at hs
      obtain ⟨rfl, rfl, h3⟩ := hs
      exact XS.aload (g := mkF m pc ls _) H hx rfl hd hv h3 hr
    · cases hs
  case iload_n k =>
    simp only [oS1] at hs
    split at hs
    · rename_i x hv
      simp only [Option.some.injEq, Prod.mk.injEq] at hs
      obtain ⟨rfl, rfl, -⟩ := hs
      exact XS.iloadN (g := mkF m pc ls _) H hx rfl hd hv hr
    · cases hs
  case iload k =>
    simp only [oS1] at hs
    split at hs
    · rename_i x hv
      simp only [Option.some.injEq, Prod.mk.injEq] at hs
      obtain ⟨rfl, rfl, -⟩ := hs
      exact XS.iload (g := mkF m pc ls _) H hx rfl hd hv hr
    · cases hs
  case iconst z =>
    simp only [oS1, Option.some.injEq, Prod.mk.injEq] at hs
    obtain ⟨rfl, rfl, -⟩ := hs
    exact XS.iconst (g := mkF m pc ls _) H hx rfl hd hr
  case bipush z =>
    simp only [oS1, Option.some.injEq, Prod.mk.injEq] at hs
    obtain ⟨rfl, rfl, -⟩ := hs
    exact XS.bipush (g := mkF m pc ls _) H hx rfl hd hr
  case sipush z =>
    simp only [oS1, Option.some.injEq, Prod.mk.injEq] at hs
    obtain ⟨rfl, rfl, -⟩ := hs
    exact XS.sipush (g := mkF m pc ls _) H hx rfl hd hr
  case aconst_null =>
    simp only [oS1, Option.some.injEq, Prod.mk.injEq] at hs
    obtain ⟨rfl, rfl, -⟩ := hs
    exact XS.aconstNull (g := mkF m pc ls _) H hx rfl hd hr
  case goto o =>
    simp only [oS1, Option.some.injEq, Prod.mk.injEq] at hs
    obtain ⟨rfl, rfl, -⟩ := hs
    exact XS.goto (g := mkF m pc ls _) H hx rfl (pc0 := pc) rfl hd (of_decide_eq_true hg) rfl hr
  case astore_n k =>
    simp only [oS1] at hs
    split at hs
    · split at hs
      · rename_i o ho
        simp only [Option.some.injEq, Prod.mk.injEq] at hs
        obtain ⟨rfl, rfl, h3⟩ := hs
        rw [Bool.and_eq_true] at h3
        exact XS.astoreN (g := mkF m pc ls _) H hx rfl hd rfl h3.1 (XS.store1 ho (oOne_ok h3.2) (oCat h3.1)) hr
      · cases hs
    · cases hs
  case astore k =>
    simp only [oS1] at hs
    split at hs
    · split at hs
      · rename_i o ho
        simp only [Option.some.injEq, Prod.mk.injEq] at hs
        obtain ⟨rfl, rfl, h3⟩ := hs
        rw [Bool.and_eq_true] at h3
        exact XS.astore (g := mkF m pc ls _) H hx rfl hd rfl h3.1 (XS.store1 ho (oOne_ok h3.2) (oCat h3.1)) hr
      · cases hs
    · cases hs
  case istore_n k =>
    simp only [oS1] at hs
    split at hs
    · split at hs
      · rename_i l2 hl
        simp only [Option.some.injEq, Prod.mk.injEq] at hs
        obtain ⟨rfl, rfl, h3⟩ := hs
        exact XS.istoreN (g := mkF m pc ls _) H hx rfl hd rfl hl hr
      · cases hs
    · cases hs
  case istore k =>
    simp only [oS1] at hs
    split at hs
    · split at hs
      · rename_i l2 hl
        simp only [Option.some.injEq, Prod.mk.injEq] at hs
        obtain ⟨rfl, rfl, h3⟩ := hs
        exact XS.istore (g := mkF m pc ls _) H hx rfl hd rfl hl hr
      · cases hs
    · cases hs
  case iinc k z =>
    simp only [oS1] at hs
    split at hs
    · rename_i x hv
      split at hs
      · rename_i l2 hl
        simp only [Option.some.injEq, Prod.mk.injEq] at hs
        obtain ⟨rfl, rfl, -⟩ := hs
        exact XS.iinc (g := mkF m pc ls _) H hx rfl hd hv hl hr
      · cases hs
    · cases hs
  case dup =>
    simp only [oS1] at hs
    split at hs
    · simp only [Option.some.injEq, Prod.mk.injEq] at hs
      obtain ⟨rfl, rfl, h3⟩ := hs
      exact XS.dup (g := mkF m pc ls _) H hx rfl hd rfl (of_decide_eq_true h3) hr
    · cases hs
  case pop =>
    simp only [oS1] at hs
    split at hs
    · simp only [Option.some.injEq, Prod.mk.injEq] at hs
      obtain ⟨rfl, rfl, h3⟩ := hs
      exact XT.pop (g := mkF m pc ls _) H hx rfl hd rfl (of_decide_eq_true h3) hr
    · cases hs
  case dup_x1 =>
    simp only [oS1] at hs
    split at hs
    · simp only [Option.some.injEq, Prod.mk.injEq] at hs
      obtain ⟨rfl, rfl, h3⟩ := hs
      rw [Bool.and_eq_true] at h3
      exact XT.dupX1 (g := mkF m pc ls _) H hx rfl hd rfl (of_decide_eq_true h3.1) (of_decide_eq_true h3.2) hr
    · cases hs
  case dup2 =>
    simp only [oS1] at hs
    split at hs
    · simp only [Option.some.injEq, Prod.mk.injEq] at hs
      obtain ⟨rfl, rfl, h3⟩ := hs
      rw [Bool.and_eq_true] at h3
      exact XT.dup2 (g := mkF m pc ls _) H hx rfl hd rfl (of_decide_eq_true h3.1) (of_decide_eq_true h3.2) hr
    · cases hs
  case iadd =>
    simp only [oS1] at hs
    split at hs
    · simp only [Option.some.injEq, Prod.mk.injEq] at hs
      obtain ⟨rfl, rfl, -⟩ := hs
      exact XS.iadd (g := mkF m pc ls _) H hx rfl hd rfl hr
    · cases hs
  case isub =>
    simp only [oS1] at hs
    split at hs
    · simp only [Option.some.injEq, Prod.mk.injEq] at hs
      obtain ⟨rfl, rfl, -⟩ := hs
      exact XS.isub (g := mkF m pc ls _) H hx rfl hd rfl hr
    · cases hs
  case imul =>
    simp only [oS1] at hs
    split at hs
    · simp only [Option.some.injEq, Prod.mk.injEq] at hs
      obtain ⟨rfl, rfl, -⟩ := hs
      exact XS.imul (g := mkF m pc ls _) H hx rfl hd rfl hr
    · cases hs
  case iand =>
    simp only [oS1] at hs
    split at hs
    · simp only [Option.some.injEq, Prod.mk.injEq] at hs
      obtain ⟨rfl, rfl, -⟩ := hs
      exact XS.iand (g := mkF m pc ls _) H hx rfl hd rfl hr
    · cases hs
  case ior =>
    simp only [oS1] at hs
    split at hs
    · simp only [Option.some.injEq, Prod.mk.injEq] at hs
      obtain ⟨rfl, rfl, -⟩ := hs
      exact XT.ior (g := mkF m pc ls _) H hx rfl hd rfl hr
    · cases hs
  case ixor =>
    simp only [oS1] at hs
    split at hs
    · simp only [Option.some.injEq, Prod.mk.injEq] at hs
      obtain ⟨rfl, rfl, -⟩ := hs
      exact XT.ixor (g := mkF m pc ls _) H hx rfl hd rfl hr
    · cases hs
  case ishl =>
    simp only [oS1] at hs
    split at hs
    · simp only [Option.some.injEq, Prod.mk.injEq] at hs
      obtain ⟨rfl, rfl, -⟩ := hs
      exact XT.ishl (g := mkF m pc ls _) H hx rfl hd rfl hr
    · cases hs
  case ishr =>
    simp only [oS1] at hs
    split at hs
    · simp only [Option.some.injEq, Prod.mk.injEq] at hs
      obtain ⟨rfl, rfl, -⟩ := hs
      exact XT.ishr (g := mkF m pc ls _) H hx rfl hd rfl hr
    · cases hs
  case iushr =>
    simp only [oS1] at hs
    split at hs
    · simp only [Option.some.injEq, Prod.mk.injEq] at hs
      obtain ⟨rfl, rfl, -⟩ := hs
      exact XT.iushr (g := mkF m pc ls _) H hx rfl hd rfl hr
    · cases hs
  case ineg =>
    simp only [oS1] at hs
    split at hs
    · simp only [Option.some.injEq, Prod.mk.injEq] at hs
      obtain ⟨rfl, rfl, -⟩ := hs
      exact XS.ineg (g := mkF m pc ls _) H hx rfl hd rfl hr
    · cases hs
  case i2b =>
    simp only [oS1] at hs
    split at hs
    · simp only [Option.some.injEq, Prod.mk.injEq] at hs
      obtain ⟨rfl, rfl, -⟩ := hs
      exact XT.i2b (g := mkF m pc ls _) H hx rfl hd rfl hr
    · cases hs
  case i2c =>
    simp only [oS1] at hs
    split at hs
    · simp only [Option.some.injEq, Prod.mk.injEq] at hs
      obtain ⟨rfl, rfl, -⟩ := hs
      exact XT.i2c (g := mkF m pc ls _) H hx rfl hd rfl hr
    · cases hs
  case i2s =>
    simp only [oS1] at hs
    split at hs
    · simp only [Option.some.injEq, Prod.mk.injEq] at hs
      obtain ⟨rfl, rfl, -⟩ := hs
      exact XT.i2s (g := mkF m pc ls _) H hx rfl hd rfl hr
    · cases hs
  case idiv =>
    simp only [oS1] at hs
    split at hs
    · simp only [Option.some.injEq, Prod.mk.injEq] at hs
      obtain ⟨rfl, rfl, h3⟩ := hs
      exact XS.idiv (g := mkF m pc ls _) H hx rfl hd rfl (of_decide_eq_true h3) hr
    · cases hs
  case irem =>
    simp only [oS1] at hs
    split at hs
    · rename_i y x rest
      simp only [Option.some.injEq, Prod.mk.injEq] at hs
      obtain ⟨rfl, rfl, h3⟩ := hs
      refine XS.irem (g := mkF m pc ls _) H hx rfl hd rfl (of_decide_eq_true h3) ?_
      rw [irem_eq_mod x y]
      exact hr
    · cases hs
  all_goals (simp [oS1] at hs)
theorem oGo (W : OW p l e R s m args below meth c Z a0 EL nb own code ml ret nm vm T locs ce sl h) : ∀ (is : List Instr) {pc : Nat} {ls ls' : Array Slot} {st st' : List Value} {b : Bool}, oSeg code pc is = true → oRun is ls st = some (ls', st', b) → b = true → ∀ {pc' : Nat}, oNxs pc is = pc' → OG p e below s Z EL nb Q ck sk T (mkF m pc' ls' st') → OG p e below s Z EL nb Q ck sk T (mkF m pc ls st)
  | [], pc, ls, ls', st, st', b, _, hr, _, pc', hp, k => by
    simp only [oRun, Option.some.injEq, Prod.mk.injEq] at hr
    obtain ⟨rfl, rfl, -⟩ := hr
    subst hp
    exact k
  | i :: is, pc, ls, ls', st, st', b, hg, hr, hb, pc', hp, k => by
    simp only [oRun] at hr
    split at hr
    · rename_i ls1 st1 b1 h1
      split at hr
      · rename_i ls2 st2 b2 h2
        simp only [Option.some.injEq, Prod.mk.injEq] at hr
        obtain ⟨rfl, rfl, rfl⟩ := hr
        rw [Bool.and_eq_true] at hb
        simp only [oSeg, Bool.and_eq_true] at hg
        have hd : decode c.code pc = .ok (i, oIl i) := by rw [W.1.2.1]; exact of_decide_eq_true hg.1
        exact oLift (fun t q => oS1_ok W.2.1.here W.1.1 hd hg.2.1 h1 hb.1 q) (oGo W is hg.2.2 h2 hb.2 hp k)
      · cases hr
    · cases hr
theorem oDec (W : OW p l e R s m args below meth c Z a0 EL nb own code ml ret nm vm T locs ce sl h) {pc : Nat} {r : Except DecodeError (Instr × Nat)} (hd : decode code pc = r) : decode c.code pc = r := by rw [W.1.2.1]; exact hd
/-! ### branches -/
theorem oIfT (W : OW p l e R s m args below meth c Z a0 EL nb own code ml ret nm vm T locs ce sl h) {cd : ClassFile.Cond} {o : Int} {x : Int32} {pc : Nat} {ls : Array Slot} {st : List Value} (hd : decode code pc = .ok (.ifCond cd o, 3)) (hc : ifCond.holds cd x = true) {pc' : Nat} (ho : 0 ≤ (pc : Int) + o) (hp : ((pc : Int) + o).toNat = pc') (k : OG p e below s Z EL nb Q ck sk T (mkF m pc' ls st)) : OG p e below s Z EL nb Q ck sk T (mkF m pc ls (.int x :: st)) :=
  oLift (fun t q => XS.ifYes (g := mkF m pc ls (.int x :: st)) W.2.1.here W.1.1 rfl (pc0 := pc) rfl (oDec W hd) rfl hc ho hp q) k
theorem oIfF (W : OW p l e R s m args below meth c Z a0 EL nb own code ml ret nm vm T locs ce sl h) {cd : ClassFile.Cond} {o : Int} {x : Int32} {pc : Nat} {ls : Array Slot} {st : List Value} (hd : decode code pc = .ok (.ifCond cd o, 3)) (hc : ifCond.holds cd x = false) {pc' : Nat} (hp : pc + 3 = pc') (k : OG p e below s Z EL nb Q ck sk T (mkF m pc' ls st)) : OG p e below s Z EL nb Q ck sk T (mkF m pc ls (.int x :: st)) := by
  subst hp
  exact oLift (fun t q => XS.ifNo (g := mkF m pc ls (.int x :: st)) W.2.1.here W.1.1 rfl (oDec W hd) rfl hc q) k
theorem oIcT (W : OW p l e R s m args below meth c Z a0 EL nb own code ml ret nm vm T locs ce sl h) {cd : ClassFile.Cond} {o : Int} {x y : Int32} {pc : Nat} {ls : Array Slot} {st : List Value} (hd : decode code pc = .ok (.if_icmp cd o, 3)) (hc : if_icmp.holds cd x y = true) {pc' : Nat} (ho : 0 ≤ (pc : Int) + o) (hp : ((pc : Int) + o).toNat = pc') (k : OG p e below s Z EL nb Q ck sk T (mkF m pc' ls st)) : OG p e below s Z EL nb Q ck sk T (mkF m pc ls (.int y :: .int x :: st)) :=
  oLift (fun t q => XS.icmpYes (g := mkF m pc ls (.int y :: .int x :: st)) W.2.1.here W.1.1 rfl (pc0 := pc) rfl (oDec W hd) rfl hc ho hp q) k
theorem oIcF (W : OW p l e R s m args below meth c Z a0 EL nb own code ml ret nm vm T locs ce sl h) {cd : ClassFile.Cond} {o : Int} {x y : Int32} {pc : Nat} {ls : Array Slot} {st : List Value} (hd : decode code pc = .ok (.if_icmp cd o, 3)) (hc : if_icmp.holds cd x y = false) {pc' : Nat} (hp : pc + 3 = pc') (k : OG p e below s Z EL nb Q ck sk T (mkF m pc' ls st)) : OG p e below s Z EL nb Q ck sk T (mkF m pc ls (.int y :: .int x :: st)) := by
  subst hp
  exact oLift (fun t q => XS.icmpNo (g := mkF m pc ls (.int y :: .int x :: st)) W.2.1.here W.1.1 rfl (oDec W hd) rfl hc q) k
theorem oNuT (W : OW p l e R s m args below meth c Z a0 EL nb own code ml ret nm vm T locs ce sl h) {o : Int} {pc : Nat} {ls : Array Slot} {st : List Value} (hd : decode code pc = .ok (.ifnull o, 3)) {pc' : Nat} (ho : 0 ≤ (pc : Int) + o) (hp : ((pc : Int) + o).toNat = pc') (k : OG p e below s Z EL nb Q ck sk T (mkF m pc' ls st)) : OG p e below s Z EL nb Q ck sk T (mkF m pc ls (.null :: st)) :=
  oLift (fun t q => XS.ifnullYes (g := mkF m pc ls (.null :: st)) W.2.1.here W.1.1 rfl (pc0 := pc) rfl (oDec W hd) rfl ho hp q) k
theorem oNuF (W : OW p l e R s m args below meth c Z a0 EL nb own code ml ret nm vm T locs ce sl h) {o : Int} {a : Addr} {pc : Nat} {ls : Array Slot} {st : List Value} (hd : decode code pc = .ok (.ifnull o, 3)) {pc' : Nat} (hp : pc + 3 = pc') (k : OG p e below s Z EL nb Q ck sk T (mkF m pc' ls st)) : OG p e below s Z EL nb Q ck sk T (mkF m pc ls (.ref a :: st)) := by
  subst hp
  exact oLift (fun t q => XS.ifnullNo (g := mkF m pc ls (.ref a :: st)) W.2.1.here W.1.1 rfl (oDec W hd) rfl q) k
theorem oNnT (W : OW p l e R s m args below meth c Z a0 EL nb own code ml ret nm vm T locs ce sl h) {o : Int} {a : Addr} {pc : Nat} {ls : Array Slot} {st : List Value} (hd : decode code pc = .ok (.ifnonnull o, 3)) {pc' : Nat} (ho : 0 ≤ (pc : Int) + o) (hp : ((pc : Int) + o).toNat = pc') (k : OG p e below s Z EL nb Q ck sk T (mkF m pc' ls st)) : OG p e below s Z EL nb Q ck sk T (mkF m pc ls (.ref a :: st)) :=
  oLift (fun t q => XT.ifnonnullYes (g := mkF m pc ls (.ref a :: st)) W.2.1.here W.1.1 rfl (pc0 := pc) rfl (oDec W hd) rfl ho hp q) k
theorem oNnF (W : OW p l e R s m args below meth c Z a0 EL nb own code ml ret nm vm T locs ce sl h) {o : Int} {pc : Nat} {ls : Array Slot} {st : List Value} (hd : decode code pc = .ok (.ifnonnull o, 3)) {pc' : Nat} (hp : pc + 3 = pc') (k : OG p e below s Z EL nb Q ck sk T (mkF m pc' ls st)) : OG p e below s Z EL nb Q ck sk T (mkF m pc ls (.null :: st)) := by
  subst hp
  exact oLift (fun t q => XT.ifnonnullNo (g := mkF m pc ls (.null :: st)) W.2.1.here W.1.1 rfl (oDec W hd) rfl q) k
theorem oAcT (W : OW p l e R s m args below meth c Z a0 EL nb own code ml ret nm vm T locs ce sl h) {cd : ACond} {o : Int} {x y : Value} {pc : Nat} {ls : Array Slot} {st : List Value} (hd : decode code pc = .ok (.if_acmp cd o, 3)) (h1 : x.isRef = true) (h2 : y.isRef = true) (hc : XT.acmp cd x y = true) {pc' : Nat} (ho : 0 ≤ (pc : Int) + o) (hp : ((pc : Int) + o).toNat = pc') (k : OG p e below s Z EL nb Q ck sk T (mkF m pc' ls st)) : OG p e below s Z EL nb Q ck sk T (mkF m pc ls (y :: x :: st)) :=
  oLift (fun t q => XT.acmpYes (g := mkF m pc ls (y :: x :: st)) W.2.1.here W.1.1 rfl (pc0 := pc) rfl (oDec W hd) rfl h1 h2 hc ho hp q) k
theorem oAcF (W : OW p l e R s m args below meth c Z a0 EL nb own code ml ret nm vm T locs ce sl h) {cd : ACond} {o : Int} {x y : Value} {pc : Nat} {ls : Array Slot} {st : List Value} (hd : decode code pc = .ok (.if_acmp cd o, 3)) (h1 : x.isRef = true) (h2 : y.isRef = true) (hc : XT.acmp cd x y = false) {pc' : Nat} (hp : pc + 3 = pc') (k : OG p e below s Z EL nb Q ck sk T (mkF m pc' ls st)) : OG p e below s Z EL nb Q ck sk T (mkF m pc ls (y :: x :: st)) := by
  subst hp
  exact oLift (fun t q => XT.acmpNo (g := mkF m pc ls (y :: x :: st)) W.2.1.here W.1.1 rfl (oDec W hd) rfl h1 h2 hc q) k
/-! ### the end -/
theorem oFin (W : OW p l e R s m args below meth c Z a0 EL nb own code ml ret nm vm T locs ce sl h) {v : Option Value} {g : JFrame} (hv : ret = none → v = none)
    (hstep : ∀ fs, (∀ (f : JFrame) (acts : List Action), f.method = m → f.locked = none → f.entered = [] → (doReturn e (T.setTop f) acts v).1 = T.setFrames fs) → Steps p.tables e below (T.setTop g) (T.setFrames fs)) (hc : ce ≤ ck) (hs : sl ≤ sk) (hq : ∀ vm', CHr Z EL vm h vm' h → Q v vm' h) : OG p e below s Z EL nb Q ck sk T g := by
  obtain ⟨⟨h1, h2, h3, h4, h5, h6⟩, X, eT, ⟨k0, hS, hk⟩, hZ, ho, hC, hF, hE, hn, hEW⟩ := W
  obtain ⟨fs, hr, hrun, hended, r1, r2, r3, r4⟩ := X.leaveW hS (by rw [eT]; exact hk) (v := v) (fun q => hv (by rw [← h4]; exact q)) h5
  refine ⟨T.setFrames fs, _, hstep fs hr, hrun, hended, v, locs, rfl, ⟨?_, hF, ?_⟩, fun q => ?_, ?_, r1, r2, r3, r4.mono hc hs⟩
  · show Q v T.vm T.heap
    rw [eT]; exact hq _ (CHv.at X hZ hEW hC.1)
  · show Ext Z.heap T.heap
    rw [eT]; exact hE
  · exact State.WarmedH.trans (t := s.setVm vm) (hn q) X.warmed
  · show CHr Z EL s.vm s.heap T.vm T.heap
    rw [eT]
    exact hC.trans (CHv.at X hZ hEW hC.1)
theorem oRet0 (W : OW p l e R s m args below meth c Z a0 EL nb own code ml none nm vm T locs ce sl h) {pc : Nat} {ls : Array Slot} (hd : decode code pc = .ok (.return_, 1)) (hc : ce ≤ ck) (hs : sl ≤ sk) (hq : ∀ vm', CHr Z EL vm h vm' h → Q none vm' h) : OG p e below s Z EL nb Q ck sk T (mkF m pc ls []) :=
  oFin W (fun _ => rfl) (fun fs hr => W.2.1.returnOut W.1.1 W.1.2.2.2.1 (oDec W hd) hr) hc hs hq
theorem oRetI (W : OW p l e R s m args below meth c Z a0 EL nb own code ml (some .int) nm vm T locs ce sl h) {pc : Nat} {ls : Array Slot} {z : Int32} {rest : List Value} (hd : decode code pc = .ok (.ireturn, 1)) (hc : ce ≤ ck) (hs : sl ≤ sk) (hq : ∀ vm', CHr Z EL vm h vm' h → Q (some (.int z)) vm' h) : OG p e below s Z EL nb Q ck sk T (mkF m pc ls (.int z :: rest)) :=
  oFin W (fun q => by cases q) (fun fs hr => RoadKit.retOut W.2.1 W.1.1 W.1.2.2.2.1 rfl (Or.inl ⟨rfl, Or.inl rfl, _, rfl⟩) (oDec W hd) hr) hc hs hq
theorem oRetN {t : FieldType} (ht : t = .boolean ∨ t = .byte ∨ t = .char ∨ t = .short) (W : OW p l e R s m args below meth c Z a0 EL nb own code ml (some t) nm vm T locs ce sl h) {pc : Nat} {ls : Array Slot} {z : Int32} {rest : List Value} (hn : nar t z = z) (hd : decode code pc = .ok (.ireturn, 1)) (hc : ce ≤ ck) (hs : sl ≤ sk) (hq : ∀ vm', CHr Z EL vm h vm' h → Q (some (.int z)) vm' h) : OG p e below s Z EL nb Q ck sk T (mkF m pc ls (.int z :: rest)) :=
  oFin W (fun q => by cases q) (fun fs hr => RoadKit.retN W.2.1 W.1.1 W.1.2.2.2.1 ht (oDec W hd) (by rw [hn]; exact hr)) hc hs hq
theorem oRetA {t : FieldType} (ht : t.isReference = true) (W : OW p l e R s m args below meth c Z a0 EL nb own code ml (some t) nm vm T locs ce sl h) {pc : Nat} {ls : Array Slot} {w : Value} {rest : List Value} (hw : w.isRef = true) (hn : narrow t w = w) (hd : decode code pc = .ok (.areturn, 1)) (hc : ce ≤ ck) (hs : sl ≤ sk) (hq : ∀ vm', CHr Z EL vm h vm' h → Q (some w) vm' h) : OG p e below s Z EL nb Q ck sk T (mkF m pc ls (w :: rest)) :=
  oFin W (fun q => by cases q) (fun fs hr => RoadKit.retOut W.2.1 W.1.1 W.1.2.2.2.1 hn (Or.inr (Or.inr (Or.inr (Or.inr ⟨rfl, ht, hw⟩)))) (oDec W hd) hr) hc hs hq
end Base
end Jvm.OwnK
namespace Jvm.OwnK
open Jvm Sem ClassFile Op Lib Jvm.Stand Jvm.Free Jvm.LawKit Jvm.RoadKit Bundle
section Heaps
variable {p : Program} {l : Launch} {e : Env} {R : Room} {s : State} {m : MethodId} {args : Array Value} {below : List Frame} {meth : Method} {c : Code} {Z : State} {a0 : Array Value} {EL : List (String × Nat)} {nb : Bool} {own : String} {code : ByteArray} {ml : Nat} {ret : Option FieldType} {nm : String} {vm : Vm} {T : State} {locs : List Loc} {ce sl : Nat} {h h1 h2 : Heap} {Q : Option Value → Vm → Heap → Prop} {ck sk : Nat} {pc : Nat} {ls : Array Slot} {st : List Value}
theorem exR (h : Heap) : Ext h h := ⟨Nat.le_refl _, fun _ _ q => q⟩
theorem exT (A : Ext h h1) (B : Ext h1 h2) : Ext h h2 := ⟨Nat.le_trans A.1 B.1, fun a c q => B.2 a c (A.2 a c q)⟩
theorem exW {a : Addr} {i : Nat} {v : Value} (A : Ext h h1) (B : Wr h1 h2 a i v) (q : h.size ≤ a) : Ext h h2 := by
  have K := (Keep.refl h ([] : List Addr)).ext A |>.wr B (Or.inr q)
  exact ⟨K.1, fun x c hx => K.2.1 x c hx nin0⟩
theorem exK {ws : List Addr} (A : Ext h h1) (K : Keep h1 h2 ws) (q : ∀ x ∈ ws, h.size ≤ x) : Ext h h2 := by
  have K' := ((Keep.refl h ([] : List Addr)).ext A).trans K (fun x hx => Or.inr (q x hx))
  exact ⟨K'.1, fun x c hx => K'.2.1 x c hx nin0⟩
theorem OW.step (W : OW p l e R s m args below meth c Z a0 EL nb own code ml ret nm vm T locs ce sl h) {T' : State} {locs' : List Loc} {ce' sl' : Nat} {h' : Heap} (X' : Stand p l e R (s.setVm vm) m args below meth c T' locs' ce' sl') (eT : T'.heap = h') (hC : CHr Z EL vm h vm h') (hF : Fr Z.heap.size locs') (hE : Ext Z.heap h') :
    OW p l e R s m args below meth c Z a0 EL nb own code ml ret nm vm T' locs' ce' sl' h' := by
  obtain ⟨g1, X, e0, ⟨k0, hS, hk⟩, hZ, ho, hC0, hF0, hE0, hn, hEW⟩ := W
  exact ⟨g1, X', eT, ⟨k0, hS, Nat.le_trans hk hC.2.1⟩, hZ, ho, hC0.trans hC, hF, hE, hn, hEW⟩
theorem OW.chv (W : OW p l e R s m args below meth c Z a0 EL nb own code ml ret nm vm T locs ce sl h) : CHv Z EL vm h := W.2.2.2.2.2.2.1.1
theorem OW.ext (W : OW p l e R s m args below meth c Z a0 EL nb own code ml ret nm vm T locs ce sl h) : Ext Z.heap h := W.2.2.2.2.2.2.2.2.1
theorem OW.fr (W : OW p l e R s m args below meth c Z a0 EL nb own code ml ret nm vm T locs ce sl h) : Fr Z.heap.size locs := W.2.2.2.2.2.2.2.1
theorem OW.warm (W : OW p l e R s m args below meth c Z a0 EL nb own code ml ret nm vm T locs ce sl h) : Z.Warmed39 vm := W.2.2.2.2.1
theorem OW.owns (W : OW p l e R s m args below meth c Z a0 EL nb own code ml ret nm vm T locs ce sl h) : vm.findClass own = some m.cls := W.2.2.2.2.2.1
theorem OW.heap (W : OW p l e R s m args below meth c Z a0 EL nb own code ml ret nm vm T locs ce sl h) : T.heap = h := W.2.2.1
theorem frS {k : Nat} {L : List Loc} {a : Addr} {i : Nat} (N : Fr k L) (q : k ≤ a) : Fr k (L ++ [⟨a, i⟩]) := N.app fun y hy => by cases List.mem_singleton.mp hy; exact q
/-- new -/
theorem oNew (W : OW p l e R s m args below meth c Z a0 EL nb own code ml ret nm vm T locs ce sl h) {idx n : Nat} {C : String} (w : (Jvm.Cond.classLink own idx C).before a0 Z = true) (wi : (Jvm.Cond.instantiable C n).before a0 Z = true) (wz : (Jvm.Cond.initialized C).before a0 Z = true) (hd : decode code pc = .ok (.new idx, 3)) (hc : ce + 1 ≤ R.cells) (hl : sl + n ≤ R.slots) :
    ∃ T' h' a, OW p l e R s m args below meth c Z a0 EL nb own code ml ret nm vm T' locs (ce + 1) (sl + n) h' ∧ h.size ≤ a ∧ Ext h h' ∧ Exa Z h' a C ∧ (∀ {O nm d : String} {ty : FieldType}, Laid Z a0 C O nm d → parseFieldDescriptor d = some ty → Fld Z h' a O nm d (defaultValue ty)) ∧ Safe Z EL vm h' a ∧ CHr Z EL vm h vm h' ∧
      Lt p e below T (mkF m pc ls st) T' (mkF m (pc + 3) ls (.ref a :: st)) := by
  obtain ⟨T', h', X', eT, E, A, D, -, st'⟩ := RoadKit.newO W.2.1 W.1.1 W.warm W.owns w wi wz W.heap (g := mkF m pc ls st) rfl (oDec W hd) hc hl
  have hC : CHr Z EL vm h vm h' := CHr.ext E W.chv
  exact ⟨T', h', h.size, W.step X' eT hC W.fr (exT W.ext E), Nat.le_refl _, E, A, fun L q => D L q, (Safe.new (Nat.le_refl _)).ext E W.chv, hC, st'⟩
/-- an array with known contents -/
def OA (Z : State) (h : Heap) (a : Addr) (k : ClassId) (ty : FieldType) (vs : List Value) : Prop := ∃ n d, Arv Z h a k ty n vs d ∧ n.toNatClampNeg = vs.length
theorem OA.ext {a : Addr} {k : ClassId} {ty : FieldType} {vs : List Value} (A : OA Z h a k ty vs) (E : Ext h h1) : OA Z h1 a k ty vs := by obtain ⟨n, d, F, q⟩ := A; exact ⟨n, d, F.ext E, q⟩
theorem OA.other {a b : Addr} {k : ClassId} {ty : FieldType} {vs : List Value} {i : Nat} {v : Value} (A : OA Z h b k ty vs) (W : Wr h h1 a i v) (q : b ≠ a) : OA Z h1 b k ty vs := by obtain ⟨n, d, F, r⟩ := A; exact ⟨n, d, F.other W q, r⟩
theorem OA.keep {a : Addr} {k : ClassId} {ty : FieldType} {vs : List Value} {ws : List Addr} (A : OA Z h a k ty vs) (K : Keep h h1 ws) (q : a ∉ ws) : OA Z h1 a k ty vs := by obtain ⟨n, d, F, r⟩ := A; exact ⟨n, d, F.keep K q, r⟩
theorem OA.lt {a : Addr} {k : ClassId} {ty : FieldType} {vs : List Value} (A : OA Z h a k ty vs) : a < h.size := by obtain ⟨n, d, F, -⟩ := A; exact F.lt
theorem OA.get {a : Addr} {k : ClassId} {ty : FieldType} {vs : List Value} (A : OA Z h a k ty vs) {i : Nat} {v : Value} (hv : vs[i]? = some v) : fits ty v = true := by
  obtain ⟨n, d, ⟨cl, -, -, hs, -, -, G⟩, r⟩ := A
  have hi : i < vs.length := (List.getElem?_eq_some_iff.mp hv).1
  have := G i (by rw [hs, r]; exact hi)
  rwa [List.getD_eq_getElem?_getD, hv] at this
theorem OA.ne {a b : Addr} {k : ClassId} {ty : FieldType} {vs : List Value} {C : String} {n : Nat} (A : OA Z h b k ty vs) (E : Exa Z h a C) (w : (Jvm.Cond.instantiable C n).before a0 Z = true) : b ≠ a := by
  obtain ⟨q, d, F, -⟩ := A
  exact Ne.symm (E.neArv F w)
theorem OA.safe {vm : Vm} {a : Addr} {k : ClassId} {ty : FieldType} {vs : List Value} (A : OA Z h a k ty vs) (hal : Z.vm.Alike vm) (ht : ty ≠ .byte) : Safe Z EL vm h a := by
  obtain ⟨n, d, ⟨cl, A1, -⟩, -⟩ := A
  exact Safe.arr hal A1 ht
theorem oJn {g : JFrame} {α : Type} (P : α → Prop) (F : α → JFrame) (k : ∀ r, P r → OG p e below s Z EL nb Q ck sk T (F r)) (u : (∀ r, P r → OG p e below s Z EL nb Q ck sk T (F r)) → OG p e below s Z EL nb Q ck sk T g) : OG p e below s Z EL nb Q ck sk T g := u k
theorem oNewA (W : OW p l e R s m args below meth c Z a0 EL nb own code ml ret nm vm T locs ce sl h) {aty : ArrayType} (w : (Jvm.Cond.arrayClass (newarray.typeOf aty)).before a0 Z = true) (hd : decode code pc = .ok (.newarray aty, 2)) {n : Int32} (hn : ¬ n < 0) {cap : Nat} (hcap : n.toNatClampNeg ≤ cap) (hb : cap * 8 ≤ 536870912) (hc : ce + 1 ≤ R.cells) (hl : sl + cap ≤ R.slots) :
    ∃ T' h' a k, OW p l e R s m args below meth c Z a0 EL nb own code ml ret nm vm T' locs (ce + 1) (sl + cap) h' ∧ h.size ≤ a ∧ Ext h h' ∧ OA Z h' a k (newarray.typeOf aty) (List.replicate n.toNatClampNeg (defaultValue (newarray.typeOf aty))) ∧ Safe Z EL vm h' a ∧ CHr Z EL vm h vm h' ∧
      Lt p e below T (mkF m pc ls (.int n :: st)) T' (mkF m (pc + 2) ls (.ref a :: st)) := by
  obtain ⟨T', h', cA, X', eT, E, A, st'⟩ := RoadKit.newP W.2.1 W.1.1 W.warm w W.heap (g := mkF m pc ls (.int n :: st)) rfl (oDec W hd) rfl hn hcap hb hc hl
  have hC : CHr Z EL vm h vm h' := CHr.ext E W.chv
  have F := (Arv.new A hn).pad (vs' := [] ++ List.replicate n.toNatClampNeg (defaultValue (newarray.typeOf aty))) (pad_rep [] _ _)
  exact ⟨T', h', h.size, cA, W.step X' eT hC W.fr (exT W.ext E), Nat.le_refl _, E, ⟨n, _, F, by simp⟩, (Safe.new (Nat.le_refl _)).ext E W.chv, hC, st'⟩
/-- the array's length and its components -/
theorem oLen (W : OW p l e R s m args below meth c Z a0 EL nb own code ml ret nm vm T locs ce sl h) {a : Addr} {k : ClassId} {ty : FieldType} {vs : List Value} (A : OA Z h a k ty vs) (hd : decode code pc = .ok (.arraylength, 1)) (K : OG p e below s Z EL nb Q ck sk T (mkF m (pc + 1) ls (.int vs.length.toInt32 :: st))) : OG p e below s Z EL nb Q ck sk T (mkF m pc ls (.ref a :: st)) := by
  obtain ⟨n, d, ⟨cl, A1, -, hs, -, -, -⟩, r⟩ := A
  refine oLift (fun t q => W.2.1.arraylength W.1.1 (cell := cl) (by rw [W.heap]; exact A1.1) (State.isArrayOf_alike W.warm.alike A1.2.1) (g := mkF m pc ls (.ref a :: st)) rfl rfl (oDec W hd) t ?_) K
  rw [hs, r]; exact q
theorem oGet (W : OW p l e R s m args below meth c Z a0 EL nb own code ml ret nm vm T locs ce sl h) {a : Addr} {k : ClassId} {ty : FieldType} {vs : List Value} (A : OA Z h a k ty vs) {j : Int32} {v : Value} (hj : ¬ j < 0) (hv : vs[j.toNatClampNeg]? = some v) {i : Instr}
    (hi : (i = .caload ∧ ty = .char) ∨ (i = .baload ∧ ty = .byte) ∨ (i = .iaload ∧ ty = .int) ∨ (i = .aaload ∧ ty.isReference = true)) (hd : decode code pc = .ok (i, 1)) (K : OG p e below s Z EL nb Q ck sk T (mkF m (pc + 1) ls (v :: st))) : OG p e below s Z EL nb Q ck sk T (mkF m pc ls (.int j :: .ref a :: st)) := by
  obtain ⟨n, d, ⟨cl, A1, -, hs, -, H, -⟩, r⟩ := A
  have hlt : j.toNatClampNeg < vs.length := (List.getElem?_eq_some_iff.mp hv).1
  have hin : ¬ (j < 0 ∨ cl.slots.size ≤ j.toNatClampNeg) := fun q => q.elim hj (fun q => by rw [hs, r] at q; omega)
  have hcv : cl.slots[j.toNatClampNeg]? = some v := Has.at H hin (by rw [List.getD_eq_getElem?_getD, hv]; rfl)
  have hA : (s.setVm vm).isArrayOf cl ty := State.isArrayOf_alike W.warm.alike A1.2.1
  have hce : T.heap[a]? = some cl := by rw [W.heap]; exact A1.1
  rcases hi with ⟨rfl, rfl⟩ | ⟨rfl, rfl⟩ | ⟨rfl, rfl⟩ | ⟨rfl, ht⟩
  · exact oLift (fun t q => W.2.1.caload W.1.1 hce hA A1.2.2 hin hcv (g := mkF m pc ls (.int j :: .ref a :: st)) rfl rfl (oDec W hd) t q) K
  · exact oLift (fun t q => W.2.1.baloadBytes W.1.1 hce hA A1.2.2 hin hcv (g := mkF m pc ls (.int j :: .ref a :: st)) rfl rfl (oDec W hd) t q) K
  · exact oLift (fun t q => W.2.1.iaload W.1.1 hce hA A1.2.2 hin hcv (g := mkF m pc ls (.int j :: .ref a :: st)) rfl rfl (oDec W hd) t q) K
  · exact oLift (fun t q => W.2.1.aaload W.1.1 hce hA ht A1.2.2 hin hcv (g := mkF m pc ls (.int j :: .ref a :: st)) rfl rfl (oDec W hd) t q) K
/-- a store into a char[], a byte[], an int[] made since the law began -/
theorem oPut (W : OW p l e R s m args below meth c Z a0 EL nb own code ml ret nm vm T locs ce sl h) {a : Addr} {k : ClassId} {ty : FieldType} {vs : List Value} (A : OA Z h a k ty vs) {j x x' : Int32} (hj : ¬ j < 0) {i : Nat} (hji : j.toNatClampNeg = i) (hlt : i < vs.length) (hfr : Z.heap.size ≤ a) (hS : Safe Z EL vm h a) {ins : Instr}
    (hi : (ins = .castore ∧ ty = .char ∧ nar .char x = x') ∨ (ins = .bastore ∧ ty = .byte ∧ nar .byte x = x') ∨ (ins = .iastore ∧ ty = .int ∧ x = x')) (hd : decode code pc = .ok (ins, 1)) :
    ∃ T' h', OW p l e R s m args below meth c Z a0 EL nb own code ml ret nm vm T' (locs ++ [⟨a, i⟩]) ce sl h' ∧ Wr h h' a i (.int x') ∧ OA Z h' a k ty (vs.set i (.int x')) ∧ CHr Z EL vm h vm h' ∧ Lt p e below T (mkF m pc ls (.int x :: .int j :: .ref a :: st)) T' (mkF m (pc + 1) ls st) := by
  obtain ⟨n, d, ⟨cl, A1, hk, hs, hn, H, G⟩, r⟩ := A
  subst hji
  have hin : ¬ (j < 0 ∨ cl.slots.size ≤ j.toNatClampNeg) := fun q => q.elim hj (fun q => by rw [hs, r] at q; omega)
  have key : ∀ {T' h'}, Stand p l e R (s.setVm vm) m args below meth c T' (locs ++ [⟨a, j.toNatClampNeg⟩]) ce sl → T'.heap = h' → Wr h h' a j.toNatClampNeg (.int x') → fits ty (.int x') = true → Lt p e below T (mkF m pc ls (.int x :: .int j :: .ref a :: st)) T' (mkF m (pc + 1) ls st) →
      ∃ T' h', OW p l e R s m args below meth c Z a0 EL nb own code ml ret nm vm T' (locs ++ [⟨a, j.toNatClampNeg⟩]) ce sl h' ∧ Wr h h' a j.toNatClampNeg (.int x') ∧ OA Z h' a k ty (vs.set j.toNatClampNeg (.int x')) ∧ CHr Z EL vm h vm h' ∧ Lt p e below T (mkF m pc ls (.int x :: .int j :: .ref a :: st)) T' (mkF m (pc + 1) ls st) := by
    intro T' h' X' eT Wr' hf st'
    have hC : CHr Z EL vm h vm h' := CHr.wr Wr' hS W.chv
    exact ⟨T', h', W.step X' eT hC (frS W.fr hfr) (exW W.ext Wr' hfr), Wr', ⟨n, d, Arv.set A1 hk hs hn H G hf Wr' _ rfl hlt, by simpa using r⟩, hC, st'⟩
  rcases hi with ⟨rfl, rfl, rfl⟩ | ⟨rfl, rfl, rfl⟩ | ⟨rfl, rfl, rfl⟩
  · obtain ⟨T', h', X', eT, Wr', st'⟩ := RoadKit.stC W.2.1 W.1.1 W.warm W.heap A1 hin (g := mkF m pc ls (.int x :: .int j :: .ref a :: st)) rfl rfl (oDec W hd)
    exact key X' eT Wr' (fits_nar_char _) st'
  · obtain ⟨T', h', X', eT, Wr', st'⟩ := RoadKit.stB W.2.1 W.1.1 W.warm W.heap A1 hin (g := mkF m pc ls (.int x :: .int j :: .ref a :: st)) rfl rfl (oDec W hd)
    exact key X' eT Wr' (fits_nar_byte _) st'
  · obtain ⟨T', h', X', eT, Wr', st'⟩ := RoadKit.stI W.2.1 W.1.1 W.warm W.heap A1 hin (g := mkF m pc ls (.int x :: .int j :: .ref a :: st)) rfl rfl (oDec W hd)
    exact key X' eT Wr' rfl st'
/-- fields -/
theorem oGetF (W : OW p l e R s m args below meth c Z a0 EL nb own code ml ret nm vm T locs ce sl h) {idx : Nat} {R0 O n d : String} (w : (Jvm.Cond.fieldLink own idx R0 n d).before a0 Z = true) (via : Via Z R0 O n d) {a : Addr} {v : Value} (F : Fld Z h a O n d v) (hd : decode code pc = .ok (.getfield idx, 3)) :
    ∃ T', OW p l e R s m args below meth c Z a0 EL nb own code ml ret nm vm T' locs ce sl h ∧ Lt p e below T (mkF m pc ls (.ref a :: st)) T' (mkF m (pc + 3) ls (v :: st)) := by
  obtain ⟨T', X', eT, st'⟩ := RoadKit.getF W.2.1 W.1.1 W.warm W.owns (host := "") (Or.inl w) via W.heap F (g := mkF m pc ls (.ref a :: st)) rfl rfl (oDec W hd)
  exact ⟨T', W.step X' eT (CHr.refl W.chv) W.fr W.ext, st'⟩
theorem oGetS (W : OW p l e R s m args below meth c Z a0 EL nb own code ml ret nm vm T locs ce sl h) {idx : Nat} {R0 O n d : String} (w : (Jvm.Cond.fieldLink own idx R0 n d).before a0 Z = true) (via : Via Z R0 O n d) {v : Value} (F : Sta Z h O n d v) (hd : decode code pc = .ok (.getstatic idx, 3)) :
    ∃ T', OW p l e R s m args below meth c Z a0 EL nb own code ml ret nm vm T' locs ce sl h ∧ Lt p e below T (mkF m pc ls st) T' (mkF m (pc + 3) ls (v :: st)) := by
  obtain ⟨T', X', eT, st'⟩ := RoadKit.getS (host := "") W.2.1 W.1.1 W.warm W.owns w via W.heap F (g := mkF m pc ls st) rfl (oDec W hd)
  exact ⟨T', W.step X' eT (CHr.refl W.chv) W.fr W.ext, st'⟩
theorem oPutF (W : OW p l e R s m args below meth c Z a0 EL nb own code ml ret nm vm T locs ce sl h) {idx kk : Nat} {R0 O n d C : String} {ty : FieldType} (w : (Jvm.Cond.fieldLink own idx R0 n d).before a0 Z = true) (via : Via Z R0 O n d) {a : Addr} {v old : Value} (F : Fld Z h a O n d old) (E : Exa Z h a C)
    (L : (Jvm.Cond.lays C O n d).before a0 Z = true ∨ ((Jvm.Cond.laysFinal C O n d).before a0 Z = true ∧ own = O ∧ nm = "<init>")) (wi : (Jvm.Cond.instantiable C kk).before a0 Z = true) (hty : parseFieldDescriptor d = some ty) (hn : narrow ty v = v) (hf : fits ty v = true) (hfr : Z.heap.size ≤ a) (hS : Safe Z EL vm h a) (hd : decode code pc = .ok (.putfield idx, 3)) :
    ∃ T' h', OW p l e R s m args below meth c Z a0 EL nb own code ml ret nm vm T' (locs ++ [⟨a, RoadKit.slotOf Z O n d⟩]) ce sl h' ∧ Wr h h' a (RoadKit.slotOf Z O n d) v ∧ Fld Z h' a O n d v ∧ Exa Z h' a C ∧ CHr Z EL vm h vm h' ∧ Lt p e below T (mkF m pc ls (v :: .ref a :: st)) T' (mkF m (pc + 3) ls st) := by
  obtain ⟨T', h', X', eT, Wr', st'⟩ := RoadKit.putF W.2.1 W.1.1 W.warm W.owns (host := "") (Or.inl w) via W.heap F E (L.imp id fun q => ⟨q.1, q.2.1, W.1.2.2.2.2.2.trans q.2.2⟩) wi hty hn hf (g := mkF m pc ls (v :: .ref a :: st)) rfl rfl (oDec W hd)
  have hC : CHr Z EL vm h vm h' := CHr.wr Wr' hS W.chv
  exact ⟨T', h', W.step X' eT hC (frS W.fr hfr) (exW W.ext Wr' hfr), Wr', F.same Wr', E.wr Wr', hC, st'⟩
theorem oCast (W : OW p l e R s m args below meth c Z a0 EL nb own code ml ret nm vm T locs ce sl h) {idx : Nat} {K : String} (w : (Jvm.Cond.classLink own idx K).before a0 Z = true) {a : Addr} (F : Ins Z h a K true) (hd : decode code pc = .ok (.checkcast idx, 3)) :
    ∃ T', OW p l e R s m args below meth c Z a0 EL nb own code ml ret nm vm T' locs ce sl h ∧ Lt p e below T (mkF m pc ls (.ref a :: st)) T' (mkF m (pc + 3) ls (.ref a :: st)) := by
  obtain ⟨T', X', eT, st'⟩ := RoadKit.castY W.2.1 W.1.1 W.warm W.owns w W.heap F (g := mkF m pc ls (.ref a :: st)) rfl rfl (oDec W hd)
  exact ⟨T', W.step X' eT (CHr.refl W.chv) W.fr W.ext, st'⟩
theorem oInst (W : OW p l e R s m args below meth c Z a0 EL nb own code ml ret nm vm T locs ce sl h) {idx : Nat} {K : String} (w : (Jvm.Cond.classLink own idx K).before a0 Z = true) {a : Addr} (F : Ins Z h a K true) (hd : decode code pc = .ok (.instanceof idx, 3)) :
    ∃ T', OW p l e R s m args below meth c Z a0 EL nb own code ml ret nm vm T' locs ce sl h ∧ Lt p e below T (mkF m pc ls (.ref a :: st)) T' (mkF m (pc + 3) ls (.int 1 :: st)) := by
  obtain ⟨T', X', eT, st'⟩ := RoadKit.instY W.2.1 W.1.1 W.warm W.owns w W.heap F (g := mkF m pc ls (.ref a :: st)) rfl rfl (oDec W hd)
  exact ⟨T', W.step X' eT (CHr.refl W.chv) W.fr W.ext, st'⟩
/-- Object.<init> -/
theorem oInit (W : OW p l e R s m args below meth c Z a0 EL nb own code ml ret nm vm T locs ce sl h) {idx : Nat} (w1 : (Jvm.Cond.methodLink own idx Lib.objectInit).before a0 Z = true) (w2 : (Jvm.Cond.instanceMethod Lib.objectInit).before a0 Z = true) (w3 : (Jvm.Cond.code Lib.objectInit ⟨#[0xb1]⟩ 1 none).before a0 Z = true) {a : Addr} (hsz : ls.size = ml) (hd : decode code pc = .ok (.invokespecial idx, 3))
    (hf : 1 ≤ R.frames) {V : Nat} (hW : (st.map fun v => v.category).sum ≤ V) (hl : V + 12 ≤ R.locals) :
    ∃ T', OW p l e R s m args below meth c Z a0 EL nb own code ml ret nm vm T' locs ce sl h ∧ Lt p e below T (mkF m pc ls (.ref a :: st)) T' (mkF m (pc + 3) ls st) := by
  obtain ⟨T', X', eT, st'⟩ := RoadKit.initO W.2.1 W.1.1 W.warm W.owns w1 w2 w3 W.heap (g := mkF m pc ls (.ref a :: st)) rfl (hsz.trans W.1.2.2.1.symm) rfl (oDec W hd) hf (W := V) (by show 2 * 0 + _ ≤ _; omega) hl
  exact ⟨T', W.step X' eT (CHr.refl W.chv) W.fr W.ext, st'⟩
/-- clone() of an array -/
theorem oClone (W : OW p l e R s m args below meth c Z a0 EL nb own code ml ret nm vm T locs ce sl h) {idx : Nat} {ad : String} (w1 : (Jvm.Cond.methodLink own idx ⟨ad, "clone", "()Ljava/lang/Object;"⟩).before a0 Z = true) (w2 : (Jvm.Cond.sameMethod ad "java/lang/Object" "clone" "()Ljava/lang/Object;").before a0 Z = true) (w3 : (Jvm.Cond.native ⟨"java/lang/Object", "clone", "()Ljava/lang/Object;"⟩).before a0 Z = true)
    (w4 : (Jvm.Cond.instanceMethod ⟨"java/lang/Object", "clone", "()Ljava/lang/Object;"⟩).before a0 Z = true) (w5 : (Jvm.Cond.selects ad ⟨ad, "clone", "()Ljava/lang/Object;"⟩ ⟨"java/lang/Object", "clone", "()Ljava/lang/Object;"⟩).before a0 Z = true) (w6 : (Jvm.Cond.castable ad "java/lang/Cloneable").before a0 Z = true)
    {a : Addr} {k : ClassId} {ty : FieldType} {vs : List Value} (A : OA Z h a k ty vs) (E : Exa Z h a ad) (hsz : ls.size = ml) (hd : decode code pc = .ok (.invokevirtual idx, 3)) (hf : 1 ≤ R.frames) {V cap : Nat} (hV : (st.map fun v => v.category).sum ≤ V) (hl : V + 14 ≤ R.locals) (hcap : vs.length ≤ cap) (hc : ce + 1 ≤ R.cells) (hs : sl + cap ≤ R.slots) :
    ∃ T' h' b, OW p l e R s m args below meth c Z a0 EL nb own code ml ret nm vm T' locs (ce + 1) (sl + cap) h' ∧ h.size ≤ b ∧ Ext h h' ∧ OA Z h' b k ty vs ∧ Exa Z h' b ad ∧ CHr Z EL vm h vm h' ∧ Lt p e below T (mkF m pc ls (.ref a :: st)) T' (mkF m (pc + 3) ls (.ref b :: st)) := by
  obtain ⟨n, d, F, r⟩ := A
  obtain ⟨T', h', X', eT, Ex, A', E', st'⟩ := RoadKit.cloneH W.2.1 W.1.1 W.warm W.owns w1 w2 w3 w4 w5 w6 W.heap F.arh E (g := mkF m pc ls (.ref a :: st)) rfl (hsz.trans W.1.2.2.1.symm) rfl (oDec W hd) hf (W := V) (by show 2 * 0 + _ ≤ _; omega) hl (cap := cap) (by rw [r]; exact hcap) hc hs
  have hC : CHr Z EL vm h vm h' := CHr.ext Ex W.chv
  exact ⟨T', h', h.size, W.step X' eT hC W.fr (exT W.ext Ex), Nat.le_refl _, Ex, ⟨n, d, A', r⟩, E', hC, st'⟩
/-- checkcast of null -/
theorem oCastN (W : OW p l e R s m args below meth c Z a0 EL nb own code ml ret nm vm T locs ce sl h) {idx : Nat} (hd : decode code pc = .ok (.checkcast idx, 3)) (K : OG p e below s Z EL nb Q ck sk T (mkF m (pc + 3) ls (.null :: st))) : OG p e below s Z EL nb Q ck sk T (mkF m pc ls (.null :: st)) :=
  oLift (fun t q => W.2.1.checkcastNull W.1.1 (g := mkF m pc ls (.null :: st)) rfl rfl (oDec W hd) t q) K
/-- a component of an array of references, the cell at hand -/
theorem oGetC (W : OW p l e R s m args below meth c Z a0 EL nb own code ml ret nm vm T locs ce sl h) {a : Addr} {cl : Cell} {ty : FieldType} (A : Arr Z h a cl ty) {j : Int32} {v : Value} (hin : ¬ (j < 0 ∨ cl.slots.size ≤ j.toNatClampNeg)) (hv : cl.slots[j.toNatClampNeg]? = some v) (ht : ty.isReference = true) (hd : decode code pc = .ok (.aaload, 1)) (K : OG p e below s Z EL nb Q ck sk T (mkF m (pc + 1) ls (v :: st))) : OG p e below s Z EL nb Q ck sk T (mkF m pc ls (.int j :: .ref a :: st)) :=
  oLift (fun t q => W.2.1.aaload W.1.1 (by rw [W.heap]; exact A.1) (State.isArrayOf_alike W.warm.alike A.2.1) ht A.2.2 hin hv (g := mkF m pc ls (.int j :: .ref a :: st)) rfl rfl (oDec W hd) t q) K
/-- an int constant -/
theorem oLdcI (W : OW p l e R s m args below meth c Z a0 EL nb own code ml ret nm vm T locs ce sl h) {idx : Nat} {v : Int32} (w : (Jvm.Cond.constant own idx v).before a0 Z = true) (hd : decode code pc = .ok (.ldc idx, 2)) (K : OG p e below s Z EL nb Q ck sk T (mkF m (pc + 2) ls (.int v :: st))) : OG p e below s Z EL nb Q ck sk T (mkF m pc ls st) :=
  oLift (fun t q => W.2.1.ldcInt W.1.1 W.owns (mvT W.warm w) (g := mkF m pc ls st) rfl (oDec W hd) t q) K
/-- a String constant, opaque -/
theorem oLdc (W : OW p l e R s m args below meth c Z a0 EL false own code ml ret nm vm T locs ce sl h) {idx : Nat} {text : String} (w : (Jvm.Cond.stringLink own idx text).before a0 Z = true) (wS : ∀ a ∈ Bundle.stringAtoms, a.before a0 Z = true) (hd : decode code pc = .ok (.ldc idx, 2)) {n : Nat} (hn : 4 * text.toList.length ≤ n) (hbig : n ≤ 536870912) (hc : ce + 2 ≤ R.cells) (hl : sl + (n + 4) ≤ R.slots) :
    ∃ a T' h' vm', OW p l e R s m args below meth c Z a0 EL false own code ml ret nm vm' T' locs (ce + 2) (sl + (n + 4)) h' ∧ Ext h h' ∧ CHr Z EL vm h vm' h' ∧ Lt p e below T (mkF m pc ls st) T' (mkF m (pc + 2) ls (.ref a :: st)) := by
  obtain ⟨g1, X, e0, ⟨k0, hS, hk⟩, hZ, ho, hC0, hF0, hE0, hn0, hEW⟩ := id W
  obtain ⟨a, T', h', k1, X', eT, E, hS', hk', hZ', ho', hC, -, st'⟩ := RoadKit.ldcOH X W.1.1 hZ ho w wS e0 hS hk hEW W.chv (g := mkF m pc ls st) rfl (oDec W hd) hn hbig hc hl
  exact ⟨a, T', h', T'.vm, ⟨g1, X', eT, ⟨k1, hS', hk'⟩, hZ', ho', hC0.trans hC, hF0, exT hE0 E, (fun q => by cases q), hEW⟩, E, hC, st'⟩
/-- a String constant of EL, read -/
theorem oLdcC (W : OW p l e R s m args below meth c Z a0 EL false own code ml ret nm vm T locs ce sl h) {idx : Nat} {text : String} (w : (Jvm.Cond.stringLink own idx text).before a0 Z = true) (wS : ∀ a ∈ Bundle.stringAtoms, a.before a0 Z = true) (hm : (own, idx) ∈ EL) {vs : List Value} {z : Int32} (ht : (∀ c ∈ text.toList, c.toNat < 256) ∧ text.toList.map (fun c => Value.int (Jvm.Lit.byteI c.toNat.toUInt16)) = vs) (hz : ¬ z < 0) (hzl : z.toNatClampNeg = vs.length)
    (hd : decode code pc = .ok (.ldc idx, 2)) {n : Nat} (hn : 4 * text.toList.length ≤ n) (hbig : n ≤ 536870912) (hc : ce + 2 ≤ R.cells) (hl : sl + (n + 4) ≤ R.slots) :
    ∃ a b k T' h' vm', OW p l e R s m args below meth c Z a0 EL false own code ml ret nm vm' T' locs (ce + 2) (sl + (n + 4)) h' ∧ Ext h h' ∧ CHr Z EL vm h vm' h' ∧ Exa Z h' a "java/lang/String" ∧ Fld Z h' a "java/lang/String" "coder" "B" (.int 0) ∧ Fld Z h' a "java/lang/String" "value" "[B" (.ref b) ∧ OA Z h' b k .byte vs ∧
      Lt p e below T (mkF m pc ls st) T' (mkF m (pc + 2) ls (.ref a :: st)) := by
  obtain ⟨g1, X, e0, ⟨k0, hS, hk⟩, hZ, ho, hC0, hF0, hE0, hn0, hEW⟩ := id W
  obtain ⟨a, T', h', k1, b, k, X', eT, E, hS', hk', hZ', ho', q1, q2, q3, q4, -, -, hC, -, -, st'⟩ := RoadKit.ldcCH X W.1.1 hZ ho w wS e0 hS hk hEW hm W.chv ht hz hzl (g := mkF m pc ls st) rfl (oDec W hd) hn hbig hc hl
  exact ⟨a, b, k, T', h', T'.vm, ⟨g1, X', eT, ⟨k1, hS', hk'⟩, hZ', ho', hC0.trans hC, hF0, exT hE0 E, (fun q => by cases q), hEW⟩, E, hC, q1, q2, q3, ⟨z, _, q4, hzl⟩, st'⟩
end Heaps
section Calls
variable {p : Program} {l : Launch} {e : Env} {R : Room} {s : State} {m : MethodId} {args : Array Value} {below : List Frame} {meth : Method} {c : Code} {Z : State} {a0 : Array Value} {EL : List (String × Nat)} {nb : Bool} {own : String} {code : ByteArray} {ml : Nat} {ret : Option FieldType} {nm : String} {vm : Vm} {T : State} {locs : List Loc} {ce sl : Nat} {h : Heap} {pc : Nat} {ls : Array Slot} {st : List Value}
  {y : MethodName} {bytes : ByteArray} {maxL : Nat} {ret' : Option FieldType} {rm : Room} {as' : Array Value} {sf : List Addr} {Q' : Option Value → Vm → Heap → Prop}
theorem oBack (W : OW p l e R s m args below meth c Z a0 EL nb own code ml ret nm vm T locs ce sl h) (hM : OC l Z EL nb [] y bytes maxL ret' rm as' h sf Q') (hsf : ∀ x ∈ sf, x < h.size ∧ Safe Z EL vm h x) (wc : (Jvm.Cond.code y bytes maxL ret').before a0 Z = true) (wz : (Jvm.Cond.initialized y.cls).before a0 Z = true) {len V : Nat} (hf : rm.frames + 1 ≤ R.frames) (hl : V + (maxL + 11) + rm.locals ≤ R.locals) :
    BackS l R p e below (s.setVm vm) args y len V (fun A a => a = as' ∧ A.U.heap = h ∧ A.cells + rm.cells ≤ R.cells ∧ A.slots + rm.slots ≤ R.slots)
      (fun A _ v B => ∃ L, (Q' v B.U.vm B.U.heap ∧ Fr Z.heap.size L ∧ Ext Z.heap B.U.heap) ∧ B.locs = A.locs ++ L ∧ B.cells = A.cells + rm.cells ∧ B.slots = A.slots + rm.slots ∧ CHr Z EL vm h B.U.vm B.U.heap ∧ (nb = true → A.U.WarmedH B.U.vm)) :=
  have hZ := W.warm
  have hEL : EW Z a0 EL := W.2.2.2.2.2.2.2.2.2.2
  have H := W.chv
  BackS.of_freeW (bytes := bytes) (maxL := maxL) (ret := ret') (E := fun _ first o t L k n => k = rm.cells ∧ n = rm.slots ∧ (∃ v, o = .returned v ∧ (Q' v t.vm t.heap ∧ Fr Z.heap.size L ∧ Ext Z.heap t.heap)) ∧ CHr Z EL first.vm first.heap t.vm t.heap ∧ (nb = true → first.WarmedH t.vm)) hM hf hl
    (fun m meth c A a Y hp => have hU : Z.Warmed39 A.U.vm := wtrans (s := s.setVm vm) hZ Y.warmed
      ⟨by show (Jvm.Cond.and _ .tt).before a A.U = true; rw [Cond.before_and, mv hU wc]; rfl, mv hU wc, mv hU wz, hp.2.2.1, hp.2.2.2⟩)
    (fun m meth c A a g mk Y hp => ⟨hp.1, wtrans (s := s.setVm vm) hZ Y.warmed, hp.2.1, (CHv.at Y hZ hEL H).1, W.ext, fun x hx => (CHv.at Y hZ hEL H).safe (hsf x hx).1 (hsf x hx).2⟩) (fun _ _ _ _ _ _ _ _ _ => trivial)
    (fun _ _ _ _ ⟨v, L, h1, h2, h2', h3, h4⟩ => ⟨L, _, _, h4, rfl, rfl, ⟨v, h1, h2⟩, h3, h2'⟩)
    (fun m meth c A a g mk v t L k n Y hp _ _ ⟨e1, e2, ⟨v', e3, e4⟩, e5, e6⟩ => by
      cases e3; subst e1 e2
      refine ⟨L, e4, rfl, rfl, rfl, (CHv.at Y hZ hEL H).trans ?_, e6⟩
      rw [← hp.2.1]; exact e5)
theorem oCalled (W : OW p l e R s m args below meth c Z a0 EL nb own code ml ret nm vm T locs ce sl h) {vm₁ : Vm} {B : Pt} {v : Option Value} {g g' : JFrame} (hW : (s.setVm vm).WarmedH vm₁) (X' : Stand p l e R ((s.setVm vm).setVm B.U.vm) m args below meth c B.U B.locs B.cells B.slots) (hS : (s.setVm vm).Since B.U.vm B.U.heap.size)
    (hP : ∃ L, (Q' v B.U.vm B.U.heap ∧ Fr Z.heap.size L ∧ Ext Z.heap B.U.heap) ∧ B.locs = locs ++ L ∧ B.cells = ce + rm.cells ∧ B.slots = sl + rm.slots ∧ CHr Z EL vm h B.U.vm B.U.heap ∧ (nb = true → (T.setVm vm₁).WarmedH B.U.vm)) (st' : Steps p.tables e below (T.setTop g) (B.U.setTop g')) :
    ∃ T' L h' vm', OW p l e R s m args below meth c Z a0 EL nb own code ml ret nm vm' T' (locs ++ L) (ce + rm.cells) (sl + rm.slots) h' ∧ Q' v vm' h' ∧ CHr Z EL vm h vm' h' ∧ Lt p e below T g T' g' := by
  obtain ⟨U, Lc, cc, ss⟩ := B
  obtain ⟨L, ⟨q1, q2, q3⟩, q4, q5, q6, q7, q8⟩ := hP
  dsimp only [Pt.U, Pt.locs, Pt.cells, Pt.slots] at *
  subst q4 q5 q6
  obtain ⟨g1, X, e0, ⟨k0, hS0, hk⟩, hZ, ho, hC0, hF0, hE0, hn0, hEW⟩ := W
  refine ⟨U, L, U.heap, U.vm, ⟨g1, X', rfl, ⟨_, hS0.trans hS (Nat.le_trans hk q7.2.1), Nat.le_refl _⟩, State.Warmed39.trans (t := s.setVm vm) hZ hS.1, (hS.1.alike.findClass _ _).trans ho, hC0.trans q7, hF0.app q2, q3, fun q => ?_, hEW⟩, q1, q7, fun t k => st'.trans k⟩
  exact State.WarmedH.trans (t := T.setVm vm₁) (State.WarmedH.trans (t := s.setVm vm) (hn0 q) hW) (q8 q)
/-- a static method by its contract -/
theorem oCallS (W : OW p l e R s m args below meth c Z a0 EL nb own code ml ret nm vm T locs ce sl h) {idx : Nat} {argsL : List Value} (hM : OC l Z EL nb [] y bytes maxL ret' rm argsL.toArray h sf Q') (hsf : ∀ x ∈ sf, x < h.size ∧ Safe Z EL vm h x) (w1 : (Jvm.Cond.methodLink own idx y).before a0 Z = true) (w2 : (Jvm.Cond.static y).before a0 Z = true) (wz : (Jvm.Cond.initialized y.cls).before a0 Z = true) (wc : (Jvm.Cond.code y bytes maxL ret').before a0 Z = true)
    (hy : y.cls ≠ "java/lang/invoke/MethodHandle" ∧ y.cls ≠ "java/lang/invoke/VarHandle") {na : Nat} (hna : argsL.length = na) (har : XT.arity y.desc = some na) (hsz : ls.size = ml) {stk : List Value} (hst : stk = argsL.reverse ++ st) (hd : decode code pc = .ok (.invokestatic idx, 3))
    {V : Nat} (hV : (st.map fun v => v.category).sum ≤ V) (hf : rm.frames + 1 ≤ R.frames) (hl : V + (maxL + 11) + rm.locals ≤ R.locals) (hc : ce + rm.cells ≤ R.cells) (hs : sl + rm.slots ≤ R.slots) :
    ∃ v T' L h' vm', OW p l e R s m args below meth c Z a0 EL nb own code ml ret nm vm' T' (locs ++ L) (ce + rm.cells) (sl + rm.slots) h' ∧ Q' v vm' h' ∧ CHr Z EL vm h vm' h' ∧ Lt p e below T (mkF m pc ls stk) T' (mkF m (pc + 3) ls (v.toList ++ st)) := by
  obtain ⟨v, vm₁, B, hW, X', hS, hgr, hP, st'⟩ := RoadKit.callSS W.2.1 W.1.1 (y := y) W.owns (mvT W.warm w1) (mvT W.warm w2) (mvT W.warm wz) (mvT W.warm wc) hy (oBack W hM hsf wc wz hf hl) (g := mkF m pc ls stk) rfl (hsz.trans W.1.2.2.1.symm) (argsL := argsL) (rest := st) (XT.arity_len har hna) hst (by show 2 * 0 + _ ≤ _; omega) (oDec W hd) (fun _ _ => ⟨rfl, W.heap, hc, hs⟩)
  exact ⟨v, oCalled W hW X' hS hP st'⟩
/-- a constructor by its contract -/
theorem oCallN (W : OW p l e R s m args below meth c Z a0 EL nb own code ml ret nm vm T locs ce sl h) {idx : Nat} {argsL : List Value} {a : Addr} (hM : OC l Z EL nb [] y bytes maxL none rm (.ref a :: argsL).toArray h sf Q') (hsf : ∀ x ∈ sf, x < h.size ∧ Safe Z EL vm h x) (hy1 : y.name = "<init>") (w1 : (Jvm.Cond.methodLink own idx y).before a0 Z = true) (w2 : (Jvm.Cond.instanceMethod y).before a0 Z = true) (wz : (Jvm.Cond.initialized y.cls).before a0 Z = true) (wc : (Jvm.Cond.code y bytes maxL none).before a0 Z = true)
    (hy : y.cls ≠ "java/lang/invoke/MethodHandle" ∧ y.cls ≠ "java/lang/invoke/VarHandle") {na : Nat} (hna : argsL.length = na) (har : XT.arity y.desc = some na) (hsz : ls.size = ml) {stk : List Value} (hst : stk = argsL.reverse ++ .ref a :: st) (hd : decode code pc = .ok (.invokespecial idx, 3))
    {V : Nat} (hV : (st.map fun v => v.category).sum ≤ V) (hf : rm.frames + 1 ≤ R.frames) (hl : V + (maxL + 11) + rm.locals ≤ R.locals) (hc : ce + rm.cells ≤ R.cells) (hs : sl + rm.slots ≤ R.slots) :
    ∃ v T' L h' vm', OW p l e R s m args below meth c Z a0 EL nb own code ml ret nm vm' T' (locs ++ L) (ce + rm.cells) (sl + rm.slots) h' ∧ Q' v vm' h' ∧ CHr Z EL vm h vm' h' ∧ Lt p e below T (mkF m pc ls stk) T' (mkF m (pc + 3) ls (v.toList ++ st)) := by
  obtain ⟨v, vm₁, B, hW, X', hS, hgr, hP, st'⟩ := W.2.1.specialBackS W.1.1 (y := y) hy1 W.owns (mvT W.warm w1) (mvT W.warm w2) (mvT W.warm wc) hy (oBack W hM hsf wc wz hf hl) (g := mkF m pc ls stk) rfl (hsz.trans W.1.2.2.1.symm) (Steps.refl _) (a := a) (argsL := argsL) (rest := st) (XT.arity_len har hna) hst (by show 2 * 0 + _ ≤ _; omega) (oDec W hd) (fun _ _ => ⟨rfl, W.heap, hc, hs⟩)
  exact ⟨v, oCalled W hW X' hS hP st'⟩
/-- an instance method by its contract -/
theorem oCallV (W : OW p l e R s m args below meth c Z a0 EL nb own code ml ret nm vm T locs ce sl h) {idx : Nat} {x : MethodName} {C : String} {argsL : List Value} {a : Addr} (E : Exa Z h a C) (hM : OC l Z EL nb [] y bytes maxL ret' rm (.ref a :: argsL).toArray h sf Q') (hsf : ∀ x ∈ sf, x < h.size ∧ Safe Z EL vm h x) (w1 : (Jvm.Cond.methodLink own idx x).before a0 Z = true) (w2 : (Jvm.Cond.declares x).before a0 Z = true) (nf : NotFace (s.setVm vm) x) (w3 : (Jvm.Cond.selects C x y).before a0 Z = true) (w4 : (Jvm.Cond.instanceMethod y).before a0 Z = true) (wz : (Jvm.Cond.initialized y.cls).before a0 Z = true) (wc : (Jvm.Cond.code y bytes maxL ret').before a0 Z = true)
    (hy : x.cls ≠ "java/lang/invoke/MethodHandle" ∧ x.cls ≠ "java/lang/invoke/VarHandle") {na : Nat} (hna : argsL.length = na) (har : XT.arity x.desc = some na) (hsz : ls.size = ml) {stk : List Value} (hst : stk = argsL.reverse ++ .ref a :: st) (hd : decode code pc = .ok (.invokevirtual idx, 3))
    {V : Nat} (hV : (st.map fun v => v.category).sum ≤ V) (hf : rm.frames + 1 ≤ R.frames) (hl : V + (maxL + 11) + rm.locals ≤ R.locals) (hc : ce + rm.cells ≤ R.cells) (hs : sl + rm.slots ≤ R.slots) :
    ∃ v T' L h' vm', OW p l e R s m args below meth c Z a0 EL nb own code ml ret nm vm' T' (locs ++ L) (ce + rm.cells) (sl + rm.slots) h' ∧ Q' v vm' h' ∧ CHr Z EL vm h vm' h' ∧ Lt p e below T (mkF m pc ls stk) T' (mkF m (pc + 3) ls (v.toList ++ st)) := by
  obtain ⟨cB, kB, i1, i2, i3⟩ := isOf (s := s.setVm vm) (T := T) W.warm W.heap E
  obtain ⟨v, vm₁, B, hW, X', hS, hgr, hP, st'⟩ := W.2.1.virtualBackS W.1.1 (y := x) (z := y) W.owns (mvT W.warm w1) (mvT W.warm w2) nf (mvT W.warm w3) (mvT W.warm w4) hy (oBack W hM hsf wc wz hf hl) i1 i3 (g := mkF m pc ls stk) rfl (hsz.trans W.1.2.2.1.symm) (Steps.refl _) (argsL := argsL) (rest := st) (XT.arity_len har hna) hst (by show 2 * 0 + _ ≤ _; omega) (oDec W hd) (fun _ _ => ⟨rfl, W.heap, hc, hs⟩)
  exact ⟨v, oCalled W hW X' hS hP st'⟩
end Calls
end Jvm.OwnK
namespace Jvm.OwnK
open Jvm Sem ClassFile Op Lib Jvm.Stand Jvm.Free Jvm.LawKit Jvm.RoadKit Bundle
theorem n_lt {a b : Nat} (ha : a < 2147483648) (hb : b < 2147483648) : Int32.ofNat a < Int32.ofNat b ↔ a < b := by
  rw [Int32.lt_iff_toInt_lt, Int32.toInt_ofNat_small ha, Int32.toInt_ofNat_small hb]; omega
theorem n_nn {a : Nat} (ha : a < 2147483648) : ¬ Int32.ofNat a < 0 := by
  rw [Int32.lt_iff_toInt_lt, Int32.toInt_ofNat_small ha]
  show ¬ ((a : Int) < 0)
  omega
theorem n_cl {a : Nat} (ha : a < 2147483648) : (Int32.ofNat a).toNatClampNeg = a := by
  rw [← Int32.toNat_toInt, Int32.toInt_ofNat_small ha]; rfl
theorem n_in (a : Nat) : Int32.ofNat a + 1 = Int32.ofNat (a + 1) := by rw [Int32.ofNat_add]; rfl
theorem nar_b (x : Int32) : nar .byte x.toInt8.toInt32 = x.toInt8.toInt32 := by
  show x.toInt8.toInt32.toInt8.toInt32 = _
  rw [Int8.toInt8_toInt32]
theorem nar_c (x : Int32) : nar .char x.toUInt32.toUInt16.toUInt32.toInt32 = x.toUInt32.toUInt16.toUInt32.toInt32 := by
  show x.toUInt32.toUInt16.toUInt32.toInt32.toUInt32.toUInt16.toUInt32.toInt32 = _
  rw [UInt32.toUInt32_toInt32, UInt16.toUInt16_toUInt32]
theorem nar_z {x : Int32} (h : x = 0 ∨ x = 1) : nar .boolean x = x := by rcases h with rfl | rfl <;> rfl
/-- a char of 0 to 255 is what i2c makes of it -/
theorem i2c_255 (x : Int32) : (x &&& 255).toUInt32.toUInt16.toUInt32.toInt32 = x &&& 255 := i2c_mask x
theorem m255 (x : Int32) : ¬ (x &&& 255) < 0 ∧ ¬ (255 : Int32) < (x &&& 255) := by
  have h := c_and x 255 (by decide)
  constructor
  · rw [Int32.lt_iff_toInt_lt]; exact Int.not_lt.mpr h.1
  · rw [Int32.lt_iff_toInt_lt]; exact Int.not_lt.mpr h.2
theorem own_nar255 (x : Int32) : nar .char (x &&& 255) = x &&& 255 := i2c_mask x
theorem own_all1 {P : Int32 → Prop} {a : Int32} (ha : P a) : ∀ c ∈ [a], P c := fun c hc => by cases List.mem_singleton.mp hc; exact ha
theorem own_all2 {P : Int32 → Prop} {a b : Int32} (ha : P a) (hb : P b) : ∀ c ∈ [a, b], P c := fun c hc => by
  rcases List.mem_cons.mp hc with rfl | hc
  · exact ha
  · exact own_all1 hb c hc
theorem own_all3 {P : Int32 → Prop} {a b c : Int32} (ha : P a) (hb : P b) (hc : P c) : ∀ x ∈ [a, b, c], P x := fun x hx => by
  rcases List.mem_cons.mp hx with rfl | hx
  · exact ha
  · exact own_all2 hb hc x hx
theorem own_all4 {P : Int32 → Prop} {a b c d : Int32} (ha : P a) (hb : P b) (hc : P c) (hd : P d) : ∀ x ∈ [a, b, c, d], P x := fun x hx => by
  rcases List.mem_cons.mp hx with rfl | hx
  · exact ha
  · exact own_all3 hb hc hd x hx
theorem narC {c : Int32} (h : ¬ c < 0 ∧ ¬ (255 : Int32) < c) : nar .char c = c := by
  have e := c_i2c c
  simp only [Int32.lt_iff_toInt_lt] at h
  have k0 : (0 : Int32).toInt = 0 := rfl
  have k1 : (255 : Int32).toInt = 255 := rfl
  rw [k0, k1] at h
  apply Int32.toInt_inj.mp
  show (c.toUInt32.toUInt16.toUInt32.toInt32).toInt = c.toInt
  omega
theorem shr0 (x : Int32) : x >>> ((0 : Int32) &&& 31) = x := by
  apply Int32.toInt_inj.mp
  rw [c_ishr x 0 0 (by decide)]
  simp
theorem own_len0 {cs : List Int32} (hl : cs.length ≤ 4000) (h : Int32.ofNat cs.length = 0) : cs = [] := by
  have := congrArg Int32.toNatClampNeg h
  rw [n_cl (by omega)] at this
  exact List.length_eq_zero_iff.mp (by simpa using this)
theorem own_ltn {i : Int32} (hi : ¬ i < 0) {n : Nat} (hl : n ≤ 4000) (h : i.toNatClampNeg < n) : i < Int32.ofNat n := by
  have e := (back32 hi).1
  rw [← e]
  exact (n_lt (by omega) (by omega)).mpr h
/-- a byte read back as a char -/
theorem own_lo8c {c : Int32} (h : ¬ c < 0 ∧ ¬ (255 : Int32) < c) : (c.toInt8.toInt32 &&& (255 : Int32)).toUInt32.toUInt16.toUInt32.toInt32 = c := by
  rw [i2c_mask]
  have e := c_i2b c
  have m := c_mask c.toInt8.toInt32 255 8 (by decide) (by decide)
  simp only [Int32.lt_iff_toInt_lt] at h
  have k0 : (0 : Int32).toInt = 0 := rfl
  have k1 : (255 : Int32).toInt = 255 := rfl
  rw [k0, k1] at h
  apply Int32.toInt_inj.mp
  rw [m]
  have k2 : ((2 ^ 8 : Nat) : Int) = 256 := by decide
  rw [k2]
  omega
theorem refNarA {v : Value} (h : v.isRef = true) (t : FieldType) : narrow (.array t) v = v := by cases v <;> simp_all [Value.isRef] <;> rfl
theorem refFitsA {v : Value} (h : v.isRef = true) (t : FieldType) : fits (.array t) v = true := by cases v <;> simp_all [Value.isRef] <;> rfl
theorem refNar {v : Value} (h : v.isRef = true) (C : String) : narrow (.object C) v = v := by cases v <;> simp_all [Value.isRef] <;> rfl
theorem refFits {v : Value} (h : v.isRef = true) (C : String) : fits (.object C) v = true := by cases v <;> simp_all [Value.isRef] <;> rfl
theorem safe0 {Z : State} {vm : Vm} {h : Heap} {x : Addr} : Safe Z [] vm h x := fun ⟨p, hp, _⟩ => by cases hp
theorem refCat {v : Value} (h : v.isRef = true) : v.category = 1 := by cases v <;> simp_all [Value.isRef, Value.category]
theorem own_fold : ∀ (vs : List Value) (acc : Array Slot), (∀ v ∈ vs, v.category = 1) → vs.foldl (fun acc v => if v.category = 2 then (acc.push (.val v)).push .second else acc.push (.val v)) acc = acc ++ (vs.map Slot.val).toArray
  | [], acc, _ => by simp
  | v :: vs, acc, h => by
    have hv : ¬ v.category = 2 := by rw [h v (List.mem_cons_self ..)]; decide
    rw [List.foldl_cons, if_neg hv, own_fold vs _ (fun w hw => h w (List.mem_cons_of_mem _ hw))]
    simp
theorem own_ef {m : MethodId} {vs : List Value} {n : Nat} (h : ∀ v ∈ vs, v.category = 1) : entryFrame m vs.toArray n = mkF m 0 ((vs.map Slot.val).toArray ++ Array.replicate (n - vs.length) .unset) [] := by
  have e := own_fold vs #[] h
  simp only [entryFrame, mkF, argsToLocals, List.foldl_toArray', List.size_toArray]
  rw [e]
  simp
theorem own_isR (a : Addr) : (Value.ref a).isRef = true := rfl
theorem own_isN : Value.null.isRef = true := rfl
theorem own_caR (a : Addr) : (Value.ref a).category = 1 := rfl
theorem own_caN : Value.null.category = 1 := rfl
theorem own_caI (z : Int32) : (Value.int z).category = 1 := rfl
end Jvm.OwnK
namespace Jvm.Pilot.@@N@@
open Jvm Jvm.ClassFile Sem Op Lib Jvm.Free Jvm.Stand Jvm.LawKit Jvm.RoadKit Bundle Jvm.Pilot.@@N@@.Jvm.D Jvm.OwnK
section OwnStr
abbrev mI1 : MethodName := ⟨"java/lang/String", "<init>", "([C)V"⟩
abbrev mI4 : MethodName := ⟨"java/lang/String", "<init>", "([CIILjava/lang/Void;)V"⟩
abbrev mC3 : MethodName := ⟨"java/lang/StringUTF16", "compress", "([CII)[B"⟩
abbrev mC5 : MethodName := ⟨"java/lang/StringUTF16", "compress", "([CI[BII)I"⟩
abbrev mCL : MethodName := ⟨"java/lang/StringUTF16", "coderFromArrayLen", "([BI)B"⟩
/-- the words on String's constructor -/
def sW : List Jvm.Cond := [.methodLink "java/lang/String" 27 mI4, .instanceMethod mI4, .code mI4 jdk_42_method_149_code 6 none, .methodLink "java/lang/String" 1 ⟨"java/lang/Object", "<init>", "()V"⟩, .instanceMethod ⟨"java/lang/Object", "<init>", "()V"⟩, .code ⟨"java/lang/Object", "<init>", "()V"⟩ object_method_1_code 1 none,
  .fieldLink "java/lang/String" 38 "java/lang/String" "COMPACT_STRINGS" "Z", .methodLink "java/lang/String" 177 mC3, .static mC3, .initialized "java/lang/StringUTF16", .code mC3 jdk_52_method_16_code 6 (some (.array .byte)), .arrayClass .byte,
  .methodLink "java/lang/StringUTF16" 115 mC5, .static mC5, .code mC5 jdk_52_method_21_code 7 (some .int), .methodLink "java/lang/String" 47 mCL, .static mCL, .code mCL jdk_52_method_15_code 2 (some .byte),
  .fieldLink "java/lang/String" 15 "java/lang/String" "coder" "B", .laysFinal "java/lang/String" "java/lang/String" "coder" "B", .fieldLink "java/lang/String" 9 "java/lang/String" "value" "[B", .laysFinal "java/lang/String" "java/lang/String" "value" "[B", .initialized "java/lang/String", .instantiable "java/lang/String" 4, .code mI1 jdk_42_method_3_code 2 none]
theorem sW_in : ∀ d ∈ sW, d ∈ tables_1 := by decide +kernel
/-- a String of Latin-1 chars -/
def Str (Z : State) (h : Heap) (x : Addr) (cs : List Int32) : Prop := ∃ t k, Exa Z h x "java/lang/String" ∧ Fld Z h x "java/lang/String" "coder" "B" (.int 0) ∧ Fld Z h x "java/lang/String" "value" "[B" (.ref t) ∧ OA Z h t k .byte (cs.map fun c => Value.int c.toInt8.toInt32) ∧ ∀ c ∈ cs, ¬ c < 0 ∧ ¬ (255 : Int32) < c
theorem Str.ext {Z : State} {h h' : Heap} {x : Addr} {cs : List Int32} (F : Str Z h x cs) (E : Ext h h') : Str Z h' x cs := by
  obtain ⟨t, k, h1, h2, h3, h4, h5⟩ := F
  exact ⟨t, k, h1.ext E, h2.ext E, h3.ext E, h4.ext E, h5⟩
theorem Str.exa {Z : State} {h : Heap} {x : Addr} {cs : List Int32} (F : Str Z h x cs) : Exa Z h x "java/lang/String" := by obtain ⟨t, k, h1, -⟩ := F; exact h1
variable {l : Launch} {Z : State} {a0 : Array Value} {EL : List (String × Nat)} {nb : Bool} {h0 : Heap}
/-- what every String call leans on -/
def SC (Z : State) (a0 : Array Value) (EL : List (String × Nat)) : Prop := (∀ d ∈ sW, d.before a0 Z = true) ∧ EW Z a0 EL ∧ ∃ z, Sta Z Z.heap "java/lang/String" "COMPACT_STRINGS" "Z" (.int z) ∧ ¬ z = 0
abbrev rm0 : Room := { frames := 0, cells := 0, slots := 0, locals := 0 }
theorem k_CL (hE : EW Z a0 EL) {t : Addr} {k : ClassId} {vs : List Value} {n : Int32} (A : OA Z h0 t k .byte vs) :
    OC l Z EL nb [] mCL jdk_52_method_15_code 2 (some .byte) rm0 #[.ref t, .int n] h0 [] (fun v _ h => v = some (.int (XT.ushr (n - vs.length.toInt32) (31 : Int32)).toInt8.toInt32) ∧ h = h0) := by
  refine oEnter (by decide +kernel) hE ?_
  intro p e s m below meth c T0 W0 _
  refine oEq (g' := mkF m 0 #[.val (.ref t), .val (.int n)] []) (by first | (simp [entryFrame, mkF, argsToLocals, Value.category]; done) | rfl) ?_
  refine oGo W0 [.iload_n 1, .aload_n 0] (by decide +kernel) (ls' := #[.val (.ref t), .val (.int n)]) (st' := [.ref t, .int n]) rfl rfl (pc' := 2) rfl ?_
  refine oLen W0 A (by decide +kernel) ?_
  refine oGo W0 [.isub, .bipush 31, .iushr, .i2b] (by decide +kernel) (ls' := #[.val (.ref t), .val (.int n)]) (st' := [.int (XT.ushr (n - vs.length.toInt32) (31 : Int32)).toInt8.toInt32]) rfl rfl (pc' := 8) rfl ?_
  exact oRetN (by simp) W0 (nar_b _) (by decide +kernel) (lb rfl) (lb rfl) (fun _ _ => ⟨rfl, rfl⟩)
def bigAt : List Int32 → Nat
  | [] => 0
  | c :: cs => if (255 : Int32) < c then 0 else bigAt cs + 1
theorem bigAt_all : ∀ {cs : List Int32}, (∀ c ∈ cs, ¬ (255 : Int32) < c) → bigAt cs = cs.length
  | [], _ => rfl
  | c :: cs, h => by
    rw [bigAt, if_neg (h c (List.mem_cons_self ..)), bigAt_all (fun d hd => h d (List.mem_cons_of_mem _ hd)), List.length_cons]
theorem bigAt_at : ∀ {cs : List Int32} {k : Nat} (hk : k < cs.length), (∀ c ∈ cs.take k, ¬ (255 : Int32) < c) → (255 : Int32) < cs[k] → bigAt cs = k
  | [], k, hk, _, _ => absurd hk (Nat.not_lt_zero _)
  | c :: cs, 0, hk, _, hb => by rw [bigAt, if_pos (by simpa using hb)]
  | c :: cs, k + 1, hk, h, hb => by
    rw [List.take_succ_cons] at h
    rw [bigAt, if_neg (h c (List.mem_cons_self ..)), bigAt_at (k := k) (by simpa using hk) (fun d hd => h d (List.mem_cons_of_mem _ hd)) (by simpa using hb)]
def Q5 (Z : State) (h0 : Heap) (d : Addr) (kd : ClassId) (cs : List Int32) (v : Option Value) (_ : Vm) (h : Heap) : Prop := v = some (.int (Int32.ofNat (bigAt cs))) ∧ Keep h0 h [d] ∧ (bigAt cs = cs.length → OA Z h d kd .byte (cs.map fun c => Value.int c.toInt8.toInt32))
theorem set_step {cs : List Int32} {k r : Nat} (hk : k + (r + 1) = cs.length) (hlt : k < cs.length) :
    ((cs.take k).map (fun c : Int32 => Value.int c.toInt8.toInt32) ++ List.replicate (r + 1) (Value.int 0)).set k (Value.int cs[k].toInt8.toInt32) = (cs.take (k + 1)).map (fun c : Int32 => Value.int c.toInt8.toInt32) ++ List.replicate r (Value.int 0) := by
  have e1 : ((cs.take k).map (fun c : Int32 => Value.int c.toInt8.toInt32)).length = k := by simp; omega
  rw [List.set_append_right _ _ (by omega), e1, Nat.sub_self, List.replicate_succ, List.set_cons_zero, List.take_succ_eq_append_getElem hlt, List.map_append, List.append_assoc]
  rfl
theorem k_C5_loop {p : Program} {e : Env} {R : Room} {s : State} {m : MethodId} {args : Array Value} {below : List Frame} {meth : Method} {c : Code} {nm : String} {ck sk : Nat} {b d : Addr} {kb kd : ClassId} {cs : List Int32} (hl : cs.length < 2147483648) (hbd : b ≠ d) (hdf : Z.heap.size ≤ d) :
    ∀ (r k : Nat), k + r = cs.length → ∀ {vm : Vm} {T : State} {locs : List Loc} {h : Heap} {s6 : Slot}, OW p l e R s m args below meth c Z a0 EL nb "java/lang/StringUTF16" jdk_52_method_21_code 7 (some .int) nm vm T locs 0 0 h → OA Z h b kb .char (cs.map Value.int) →
      OA Z h d kd .byte ((cs.take k).map (fun c : Int32 => Value.int c.toInt8.toInt32) ++ List.replicate r (.int 0)) → Safe Z EL vm h d → Keep h0 h [d] → (∀ c ∈ cs.take k, ¬ (255 : Int32) < c) → (s6 = .unset ∨ ∃ x, s6 = .val (.int x)) →
      OG p e below s Z EL nb (Q5 Z h0 d kd cs) ck sk T (mkF m 3 #[.val (.ref b), .val (.int (Int32.ofNat k)), .val (.ref d), .val (.int (Int32.ofNat k)), .val (.int (Int32.ofNat cs.length)), .val (.int (Int32.ofNat k)), s6] [])
  | 0, k, hk, _, T, locs, h, s6, W, A, B, S, K, hsm, h6 => by
    have hkl : k = cs.length := by omega
    subst hkl
    refine oGo W [.iload 5, .iload 4] (by decide +kernel) (ls' := #[.val (.ref b), .val (.int (Int32.ofNat cs.length)), .val (.ref d), .val (.int (Int32.ofNat cs.length)), .val (.int (Int32.ofNat cs.length)), .val (.int (Int32.ofNat cs.length)), s6]) (st' := [.int (Int32.ofNat cs.length), .int (Int32.ofNat cs.length)]) rfl rfl (pc' := 7) rfl ?_
    refine oIcT W (cd := .ge) (o := 37) (by decide +kernel) (XT.ii_ge_t (fun q => Int32.lt_irrefl q)) (pc' := 44) (by decide) (by decide) ?_
    refine oGo W [.iload 4] (by decide +kernel) (ls' := #[.val (.ref b), .val (.int (Int32.ofNat cs.length)), .val (.ref d), .val (.int (Int32.ofNat cs.length)), .val (.int (Int32.ofNat cs.length)), .val (.int (Int32.ofNat cs.length)), s6]) (st' := [.int (Int32.ofNat cs.length)]) rfl rfl (pc' := 46) rfl ?_
    rw [List.take_length] at hsm B
    have hb := bigAt_all hsm
    exact oRetI W (by decide +kernel) (Nat.zero_le _) (Nat.zero_le _) (fun _ _ => ⟨by rw [hb], K, fun _ => by simpa using B⟩)
  | r + 1, k, hk, _, T, locs, h, s6, W, A, B, S, K, hsm, h6 => by
    have hlt : k < cs.length := by omega
    refine oGo W [.iload 5, .iload 4] (by decide +kernel) (ls' := #[.val (.ref b), .val (.int (Int32.ofNat k)), .val (.ref d), .val (.int (Int32.ofNat k)), .val (.int (Int32.ofNat cs.length)), .val (.int (Int32.ofNat k)), s6]) (st' := [.int (Int32.ofNat cs.length), .int (Int32.ofNat k)]) rfl rfl (pc' := 7) rfl ?_
    refine oIcF W (cd := .ge) (o := 37) (by decide +kernel) (XT.ii_ge_f ((n_lt (by omega) hl).mpr hlt)) (pc' := 10) rfl ?_
    refine oGo W [.aload_n 0, .iload_n 1] (by decide +kernel) (ls' := #[.val (.ref b), .val (.int (Int32.ofNat k)), .val (.ref d), .val (.int (Int32.ofNat k)), .val (.int (Int32.ofNat cs.length)), .val (.int (Int32.ofNat k)), s6]) (st' := [.int (Int32.ofNat k), .ref b]) rfl rfl (pc' := 12) rfl ?_
    refine oGet W A (n_nn (by omega)) (v := .int cs[k]) (by rw [n_cl (by omega)]; simp [hlt]) (Or.inl ⟨rfl, rfl⟩) (by decide +kernel) ?_
    have go6 : OG p e below s Z EL nb (Q5 Z h0 d kd cs) ck sk T (mkF m 20 #[.val (.ref b), .val (.int (Int32.ofNat k)), .val (.ref d), .val (.int (Int32.ofNat k)), .val (.int (Int32.ofNat cs.length)), .val (.int (Int32.ofNat k)), .val (.int cs[k])] [.int (255 : Int32), .int cs[k]]) := by
      by_cases hc : (255 : Int32) < cs[k]
      · refine oIcF W (cd := .le) (o := 6) (by decide +kernel) (XT.ii_le_f hc) (pc' := 23) rfl ?_
        refine oGo W [.iload 5] (by decide +kernel) (ls' := #[.val (.ref b), .val (.int (Int32.ofNat k)), .val (.ref d), .val (.int (Int32.ofNat k)), .val (.int (Int32.ofNat cs.length)), .val (.int (Int32.ofNat k)), .val (.int cs[k])]) (st' := [.int (Int32.ofNat k)]) rfl rfl (pc' := 25) rfl ?_
        have hb := bigAt_at hlt hsm hc
        exact oRetI W (by decide +kernel) (Nat.zero_le _) (Nat.zero_le _) (fun _ _ => ⟨by rw [hb], K, fun q => absurd (hb.symm.trans q) (by omega)⟩)
      · refine oIcT W (cd := .le) (o := 6) (by decide +kernel) (XT.ii_le_t hc) (pc' := 26) (by decide) (by decide) ?_
        refine oGo W [.aload_n 2, .iload_n 3, .iload 6, .i2b] (by decide +kernel) (ls' := #[.val (.ref b), .val (.int (Int32.ofNat k)), .val (.ref d), .val (.int (Int32.ofNat k)), .val (.int (Int32.ofNat cs.length)), .val (.int (Int32.ofNat k)), .val (.int cs[k])]) (st' := [.int (cs[k].toInt8.toInt32), .int (Int32.ofNat k), .ref d]) rfl rfl (pc' := 31) rfl ?_
        obtain ⟨T1, h1, W1, Wr1, B1, C1, st1⟩ := oPut W B (j := Int32.ofNat k) (pc := 31) (ls := #[.val (.ref b), .val (.int (Int32.ofNat k)), .val (.ref d), .val (.int (Int32.ofNat k)), .val (.int (Int32.ofNat cs.length)), .val (.int (Int32.ofNat k)), .val (.int cs[k])]) (st := []) (n_nn (by omega)) (i := k) (n_cl (by omega)) (by simp; omega) hdf S (ins := .bastore) (Or.inr (Or.inl ⟨rfl, rfl, nar_b _⟩)) (by decide +kernel)
        refine oLift st1 ?_
        refine oGo W1 [.iinc 1 1, .iinc 3 1, .iinc 5 1, .goto (-38)] (by decide +kernel) (ls' := #[.val (.ref b), .val (.int (Int32.ofNat k + 1)), .val (.ref d), .val (.int (Int32.ofNat k + 1)), .val (.int (Int32.ofNat cs.length)), .val (.int (Int32.ofNat k + 1)), .val (.int cs[k])]) (st' := []) rfl rfl (pc' := 3) rfl ?_
        rw [n_in]
        rw [set_step hk hlt] at B1
        refine k_C5_loop hl hbd hdf r (k + 1) (by omega) W1 (A.other Wr1 hbd) B1 (C1.safe B.lt S) (K.wr Wr1 (Or.inl (List.mem_singleton.mpr rfl))) ?_ (Or.inr ⟨_, rfl⟩)
        intro c hcm
        rw [List.take_succ_eq_append_getElem hlt, List.mem_append, List.mem_singleton] at hcm
        rcases hcm with hcm | rfl
        · exact hsm c hcm
        · exact hc
    rcases h6 with rfl | ⟨x, rfl⟩
    · exact oGo W [.istore 6, .iload 6, .sipush 255] (by decide +kernel) (ls' := #[.val (.ref b), .val (.int (Int32.ofNat k)), .val (.ref d), .val (.int (Int32.ofNat k)), .val (.int (Int32.ofNat cs.length)), .val (.int (Int32.ofNat k)), .val (.int cs[k])]) (st' := [.int (255 : Int32), .int cs[k]]) rfl rfl (pc' := 20) rfl go6
    · exact oGo W [.istore 6, .iload 6, .sipush 255] (by decide +kernel) (ls' := #[.val (.ref b), .val (.int (Int32.ofNat k)), .val (.ref d), .val (.int (Int32.ofNat k)), .val (.int (Int32.ofNat cs.length)), .val (.int (Int32.ofNat k)), .val (.int cs[k])]) (st' := [.int (255 : Int32), .int cs[k]]) rfl rfl (pc' := 20) rfl go6
theorem k_C5 (hE : EW Z a0 EL) {b d : Addr} {kb kd : ClassId} {cs : List Int32} (hl : cs.length < 2147483648) (hbd : b ≠ d) (hdf : Z.heap.size ≤ d) (A : OA Z h0 b kb .char (cs.map Value.int)) (B : OA Z h0 d kd .byte (List.replicate cs.length (.int 0))) :
    OC l Z EL nb [] mC5 jdk_52_method_21_code 7 (some .int) rm0 #[.ref b, .int 0, .ref d, .int 0, .int (Int32.ofNat cs.length)] h0 [d] (Q5 Z h0 d kd cs) := by
  refine oEnter (by decide +kernel) hE ?_
  intro p e s m below meth c T0 W0 S0
  refine oEq (g' := mkF m 0 #[.val (.ref b), .val (.int 0), .val (.ref d), .val (.int 0), .val (.int (Int32.ofNat cs.length)), .unset, .unset] []) (by first | (simp [entryFrame, mkF, argsToLocals, Value.category]; done) | rfl) ?_
  refine oGo W0 [.iconst 0, .istore 5] (by decide +kernel) (ls' := #[.val (.ref b), .val (.int 0), .val (.ref d), .val (.int 0), .val (.int (Int32.ofNat cs.length)), .val (.int 0), .unset]) (st' := []) rfl rfl (pc' := 3) rfl ?_
  exact k_C5_loop hl hbd hdf cs.length 0 (by omega) W0 A (by simpa using B) (S0 d (List.mem_singleton.mpr rfl)) (Keep.refl _ _) (by simp) (Or.inl rfl)
abbrev rmC3 (n : Nat) : Room := { frames := 1, cells := 1, slots := n, locals := 18 }
theorem k_C3 (K : SC Z a0 EL) {b : Addr} {kb : ClassId} {cs : List Int32} (hl : cs.length ≤ 4000) (A : OA Z h0 b kb .char (cs.map Value.int)) (hsm : ∀ c ∈ cs, ¬ (255 : Int32) < c) :
    OC l Z EL nb [] mC3 jdk_52_method_16_code 6 (some (.array .byte)) (rmC3 cs.length) #[.ref b, .int 0, .int (Int32.ofNat cs.length)] h0 [] (fun v _ h => ∃ d k, v = some (.ref d) ∧ h0.size ≤ d ∧ Ext h0 h ∧ OA Z h d k .byte (cs.map fun c => Value.int c.toInt8.toInt32)) := by
  have hs := K.1
  refine oEnter (by decide +kernel) K.2.1 ?_
  intro p e s m below meth c T0 W0 _
  refine oEq (g' := mkF m 0 #[.val (.ref b), .val (.int 0), .val (.int (Int32.ofNat cs.length)), .unset, .unset, .unset] []) (by first | (simp [entryFrame, mkF, argsToLocals, Value.category]; done) | rfl) ?_
  refine oGo W0 [.iload_n 2] (by decide +kernel) (ls' := #[.val (.ref b), .val (.int 0), .val (.int (Int32.ofNat cs.length)), .unset, .unset, .unset]) (st' := [.int (Int32.ofNat cs.length)]) rfl rfl (pc' := 1) rfl ?_
  have hcl : (Int32.ofNat cs.length).toNatClampNeg = cs.length := n_cl (by omega)
  obtain ⟨T1, h1, d, kd, W1, g1, E1, B1, S1, C1, st1⟩ := oNewA W0 (aty := .byte) (pc := 1) (ls := #[.val (.ref b), .val (.int 0), .val (.int (Int32.ofNat cs.length)), .unset, .unset, .unset]) (st := []) (hs _ (List.mem_of_getElem? (i := 11) rfl)) (by decide +kernel) (n := Int32.ofNat cs.length) (n_nn (by omega)) (cap := cs.length) (by rw [hcl]; exact Nat.le_refl _) (by omega) (lb rfl) (by show 0 + cs.length ≤ cs.length; omega)
  refine oLift st1 ?_
  rw [hcl] at B1
  refine oGo W1 [.astore_n 3, .aload_n 0, .iload_n 1, .aload_n 3, .iconst 0, .iload_n 2] (by decide +kernel) (ls' := #[.val (.ref b), .val (.int 0), .val (.int (Int32.ofNat cs.length)), .val (.ref d), .unset, .unset]) (st' := [.int (Int32.ofNat cs.length), .int 0, .ref d, .int 0, .ref b]) rfl rfl (pc' := 9) rfl ?_
  have hbd : b ≠ d := Nat.ne_of_lt (Nat.lt_of_lt_of_le A.lt g1)
  obtain ⟨v2, T2, L2, h2, vm2, W2, ⟨rfl, K2, B2⟩, C2, st2⟩ := oCallS W1 (idx := 115) (pc := 9) (ls := #[.val (.ref b), .val (.int 0), .val (.int (Int32.ofNat cs.length)), .val (.ref d), .unset, .unset]) (st := []) (argsL := [.ref b, .int 0, .ref d, .int 0, .int (Int32.ofNat cs.length)]) (k_C5 (h0 := h1) K.2.1 (by omega) hbd (Nat.le_trans W0.ext.1 g1) (A.ext E1) B1)
    (fun x hx => by cases List.mem_singleton.mp hx; exact ⟨B1.lt, S1⟩) (hs _ (List.mem_of_getElem? (i := 12) rfl)) (hs _ (List.mem_of_getElem? (i := 13) rfl)) (hs _ (List.mem_of_getElem? (i := 9) rfl)) (hs _ (List.mem_of_getElem? (i := 14) rfl)) (by decide) (na := 5) rfl (by decide +kernel) rfl (stk := [.int (Int32.ofNat cs.length), .int 0, .ref d, .int 0, .ref b]) rfl (by decide +kernel) (V := 0) (lb rfl) (lb rfl) (lb rfl) (lb rfl) (by show 0 + cs.length + 0 ≤ cs.length; omega)
  refine oLift st2 ?_
  have hb := bigAt_all hsm
  rw [hb]
  refine oGo W2 [.istore 4, .iload 4, .iload_n 2] (by decide +kernel) (ls' := #[.val (.ref b), .val (.int 0), .val (.int (Int32.ofNat cs.length)), .val (.ref d), .val (.int (Int32.ofNat cs.length)), .unset]) (st' := [.int (Int32.ofNat cs.length), .int (Int32.ofNat cs.length)]) rfl rfl (pc' := 17) rfl ?_
  refine oIcT W2 (cd := .eq) (o := 40) (by decide +kernel) (XT.ii_eq_t rfl) (pc' := 57) (by decide) (by decide) ?_
  refine oGo W2 [.aload_n 3] (by decide +kernel) (ls' := #[.val (.ref b), .val (.int 0), .val (.int (Int32.ofNat cs.length)), .val (.ref d), .val (.int (Int32.ofNat cs.length)), .unset]) (st' := [.ref d]) rfl rfl (pc' := 58) rfl ?_
  exact oRetA rfl W2 rfl rfl (by decide +kernel) (lb rfl) (by show 0 + cs.length + 0 ≤ cs.length; omega) (fun _ _ => ⟨d, kd, rfl, g1, exK E1 K2 (fun x hx => by cases List.mem_singleton.mp hx; exact g1), B2 hb⟩)
theorem slots_vc (K : SC Z a0 EL) : RoadKit.slotOf Z "java/lang/String" "coder" "B" ≠ RoadKit.slotOf Z "java/lang/String" "value" "[B" :=
  slot_ne (a0 := a0) (C := "java/lang/String") (Or.inr (K.1 _ (List.mem_of_getElem? (i := 19) rfl))) (Or.inr (K.1 _ (List.mem_of_getElem? (i := 21) rfl))) (by decide) (t := .byte) (t' := .array .byte) (by decide) (by decide)
abbrev rmI4 (n : Nat) : Room := { frames := 2, cells := 1, slots := n, locals := 35 }
theorem k_I4 (K : SC Z a0 EL) {x b : Addr} {kb : ClassId} {cs : List Int32} {v0 c0 : Value} (hl : cs.length ≤ 4000) (hl0 : 0 < cs.length) (A : OA Z h0 b kb .char (cs.map Value.int)) (hsm : ∀ c ∈ cs, ¬ c < 0 ∧ ¬ (255 : Int32) < c) (hxf : Z.heap.size ≤ x) (E : Exa Z h0 x "java/lang/String") (Fc : Fld Z h0 x "java/lang/String" "coder" "B" c0) (Fv : Fld Z h0 x "java/lang/String" "value" "[B" v0) :
    OC l Z EL nb [] mI4 jdk_42_method_149_code 6 none (rmI4 cs.length) #[.ref x, .ref b, .int 0, .int (Int32.ofNat cs.length), .null] h0 [x] (fun v _ h => v = none ∧ Keep h0 h [x] ∧ Str Z h x cs) := by
  have hs := K.1
  obtain ⟨z, hz, hz0⟩ := K.2.2
  refine oEnter (by decide +kernel) K.2.1 ?_
  intro p e s m below meth c T0 W0 S0
  refine oEq (g' := mkF m 0 #[.val (.ref x), .val (.ref b), .val (.int 0), .val (.int (Int32.ofNat cs.length)), .val .null, .unset] []) (by first | (simp [entryFrame, mkF, argsToLocals, Value.category]; done) | rfl) ?_
  refine oGo W0 [.aload_n 0] (by decide +kernel) (ls' := #[.val (.ref x), .val (.ref b), .val (.int 0), .val (.int (Int32.ofNat cs.length)), .val .null, .unset]) (st' := [.ref x]) rfl rfl (pc' := 1) rfl ?_
  obtain ⟨T1, W1, st1⟩ := oInit W0 (idx := 1) (pc := 1) (ls := #[.val (.ref x), .val (.ref b), .val (.int 0), .val (.int (Int32.ofNat cs.length)), .val .null, .unset]) (st := []) (a := x) (hs _ (List.mem_of_getElem? (i := 3) rfl)) (hs _ (List.mem_of_getElem? (i := 4) rfl)) (hs _ (List.mem_of_getElem? (i := 5) rfl)) rfl (by decide +kernel) (lb rfl) (V := 0) (lb rfl) (lb rfl)
  refine oLift st1 ?_
  refine oGo W1 [.iload_n 3] (by decide +kernel) (ls' := #[.val (.ref x), .val (.ref b), .val (.int 0), .val (.int (Int32.ofNat cs.length)), .val .null, .unset]) (st' := [.int (Int32.ofNat cs.length)]) rfl rfl (pc' := 5) rfl ?_
  have hn0 : ¬ Int32.ofNat cs.length = 0 := fun q => by
    have := congrArg Int32.toNatClampNeg q
    rw [n_cl (by omega)] at this
    exact absurd this (by show ¬ cs.length = 0; omega)
  refine oIfT W1 (cd := .ne) (o := 22) (by decide +kernel) (XT.i0_ne_t hn0) (pc' := 27) (by decide) (by decide) ?_
  obtain ⟨T2, W2, st2⟩ := oGetS W1 (pc := 27) (ls := #[.val (.ref x), .val (.ref b), .val (.int 0), .val (.int (Int32.ofNat cs.length)), .val .null, .unset]) (st := []) (hs _ (List.mem_of_getElem? (i := 6) rfl)) Via.refl (hz.ext W1.ext) (by decide +kernel)
  refine oLift st2 ?_
  refine oIfF W2 (cd := .eq) (o := 28) (by decide +kernel) (XT.i0_eq_f hz0) (pc' := 33) rfl ?_
  refine oGo W2 [.aload_n 1, .iload_n 2, .iload_n 3] (by decide +kernel) (ls' := #[.val (.ref x), .val (.ref b), .val (.int 0), .val (.int (Int32.ofNat cs.length)), .val .null, .unset]) (st' := [.int (Int32.ofNat cs.length), .int 0, .ref b]) rfl rfl (pc' := 36) rfl ?_
  obtain ⟨v3, T3, L3, h3, vm3, W3, ⟨d, kd, rfl, g3, E3, B3⟩, C3, st3⟩ := oCallS W2 (idx := 177) (pc := 36) (ls := #[.val (.ref x), .val (.ref b), .val (.int 0), .val (.int (Int32.ofNat cs.length)), .val .null, .unset]) (st := []) (argsL := [.ref b, .int 0, .int (Int32.ofNat cs.length)]) (k_C3 (h0 := h0) K hl A (fun c hc => (hsm c hc).2))
    (fun x hx => nomatch hx) (hs _ (List.mem_of_getElem? (i := 7) rfl)) (hs _ (List.mem_of_getElem? (i := 8) rfl)) (hs _ (List.mem_of_getElem? (i := 9) rfl)) (hs _ (List.mem_of_getElem? (i := 10) rfl)) (by decide) (na := 3) rfl (by decide +kernel) rfl (stk := [.int (Int32.ofNat cs.length), .int 0, .ref b]) rfl (by decide +kernel) (V := 0) (lb rfl) (lb rfl) (lb rfl) (lb rfl) (by show 0 + cs.length ≤ cs.length; omega)
  refine oLift st3 ?_
  refine oGo W3 [.astore 5, .aload_n 0, .aload 5, .iload_n 3] (by decide +kernel) (ls' := #[.val (.ref x), .val (.ref b), .val (.int 0), .val (.int (Int32.ofNat cs.length)), .val .null, .val (.ref d)]) (st' := [.int (Int32.ofNat cs.length), .ref d, .ref x]) rfl rfl (pc' := 45) rfl ?_
  obtain ⟨v4, T4, L4, h4, vm4, W4, ⟨rfl, e4⟩, C4, st4⟩ := oCallS W3 (idx := 47) (pc := 45) (ls := #[.val (.ref x), .val (.ref b), .val (.int 0), .val (.int (Int32.ofNat cs.length)), .val .null, .val (.ref d)]) (st := [.ref x]) (argsL := [.ref d, .int (Int32.ofNat cs.length)]) (k_CL (h0 := h3) K.2.1 B3)
    (fun x hx => nomatch hx) (hs _ (List.mem_of_getElem? (i := 15) rfl)) (hs _ (List.mem_of_getElem? (i := 16) rfl)) (hs _ (List.mem_of_getElem? (i := 9) rfl)) (hs _ (List.mem_of_getElem? (i := 17) rfl)) (by decide) (na := 2) rfl (by decide +kernel) rfl (stk := [.int (Int32.ofNat cs.length), .ref d, .ref x]) rfl (by decide +kernel) (V := 1) (lb rfl) (lb rfl) (lb rfl) (lb rfl) (by show 0 + cs.length + 0 ≤ cs.length; omega)
  refine oLift st4 ?_
  subst e4
  have hc0 : (XT.ushr (Int32.ofNat cs.length - (cs.map fun c : Int32 => Value.int c.toInt8.toInt32).length.toInt32) (31 : Int32)).toInt8.toInt32 = 0 := by
    rw [List.length_map]
    show (XT.ushr (Int32.ofNat cs.length - Int32.ofNat cs.length) (31 : Int32)).toInt8.toInt32 = 0
    rw [Int32.sub_self]; decide
  rw [hc0]
  have S4 : Safe Z EL vm4 h4 x := C4.safe (E.ext E3).lt (C3.safe E.lt (S0 x (List.mem_singleton.mpr rfl)))
  obtain ⟨T5, h5, W5, Wr5, Fc5, E5, C5, st5⟩ := oPutF W4 (idx := 15) (pc := 48) (ls := #[.val (.ref x), .val (.ref b), .val (.int 0), .val (.int (Int32.ofNat cs.length)), .val .null, .val (.ref d)]) (st := []) (v := .int 0) (hs _ (List.mem_of_getElem? (i := 18) rfl)) Via.refl (Fc.ext E3) (E.ext E3) (Or.inr ⟨hs _ (List.mem_of_getElem? (i := 19) rfl), rfl, rfl⟩) (hs _ (List.mem_of_getElem? (i := 23) rfl)) (ty := .byte) (by decide) rfl rfl hxf S4 (by decide +kernel)
  refine oLift st5 ?_
  refine oGo W5 [.aload_n 0, .aload 5] (by decide +kernel) (ls' := #[.val (.ref x), .val (.ref b), .val (.int 0), .val (.int (Int32.ofNat cs.length)), .val .null, .val (.ref d)]) (st' := [.ref d, .ref x]) rfl rfl (pc' := 54) rfl ?_
  have hdx : d ≠ x := Nat.ne_of_gt (Nat.lt_of_lt_of_le E.lt g3)
  obtain ⟨T6, h6, W6, Wr6, Fv6, E6, C6, st6⟩ := oPutF W5 (idx := 9) (pc := 54) (ls := #[.val (.ref x), .val (.ref b), .val (.int 0), .val (.int (Int32.ofNat cs.length)), .val .null, .val (.ref d)]) (st := []) (v := .ref d) (hs _ (List.mem_of_getElem? (i := 20) rfl)) Via.refl ((Fv.ext E3).other Wr5 (Or.inr (Ne.symm (slots_vc K)))) E5 (Or.inr ⟨hs _ (List.mem_of_getElem? (i := 21) rfl), rfl, rfl⟩) (hs _ (List.mem_of_getElem? (i := 23) rfl)) (ty := .array .byte) (by decide) rfl rfl hxf (C5.safe (E.ext E3).lt S4) (by decide +kernel)
  refine oLift st6 ?_
  exact oRet0 W6 (by decide +kernel) (lb rfl) (by show 0 + cs.length + 0 ≤ cs.length; omega) (fun _ _ => ⟨rfl, (((Keep.refl h0 [x]).ext E3).wr Wr5 (Or.inl (List.mem_singleton.mpr rfl))).wr Wr6 (Or.inl (List.mem_singleton.mpr rfl)),
    d, kd, E6, Fc5.other Wr6 (Or.inr (slots_vc K)), Fv6, (B3.other Wr5 hdx).other Wr6 hdx, hsm⟩)
abbrev rmI1 (n : Nat) : Room := { frames := 3, cells := 1, slots := n, locals := 52 }
/-- new String(char[]): one to 4,000 chars of 0 to 255 -/
theorem k_I1 (K : SC Z a0 EL) {x b : Addr} {kb : ClassId} (cs : List Int32) {v0 c0 : Value} (hl : cs.length ≤ 4000) (hl0 : 0 < cs.length) (A : OA Z h0 b kb .char (cs.map Value.int)) (hsm : ∀ c ∈ cs, ¬ c < 0 ∧ ¬ (255 : Int32) < c) (hxf : Z.heap.size ≤ x) (E : Exa Z h0 x "java/lang/String") (Fc : Fld Z h0 x "java/lang/String" "coder" "B" c0) (Fv : Fld Z h0 x "java/lang/String" "value" "[B" v0) :
    OC l Z EL nb [] mI1 jdk_42_method_3_code 2 none (rmI1 cs.length) #[.ref x, .ref b] h0 [x] (fun v _ h => v = none ∧ Keep h0 h [x] ∧ Str Z h x cs) := by
  have hs := K.1
  refine oEnter (by decide +kernel) K.2.1 ?_
  intro p e s m below meth c T0 W0 S0
  refine oEq (g' := mkF m 0 #[.val (.ref x), .val (.ref b)] []) (by first | (simp [entryFrame, mkF, argsToLocals, Value.category]; done) | rfl) ?_
  refine oGo W0 [.aload_n 0, .aload_n 1, .iconst 0, .aload_n 1] (by decide +kernel) (ls' := #[.val (.ref x), .val (.ref b)]) (st' := [.ref b, .int 0, .ref b, .ref x]) rfl rfl (pc' := 4) rfl ?_
  refine oLen W0 A (by decide +kernel) ?_
  rw [List.length_map]
  refine oGo W0 [.aconst_null] (by decide +kernel) (ls' := #[.val (.ref x), .val (.ref b)]) (st' := [.null, .int (Int32.ofNat cs.length), .int 0, .ref b, .ref x]) rfl rfl (pc' := 6) rfl ?_
  obtain ⟨v1, T1, L1, h1, vm1, W1, ⟨rfl, K1, F1⟩, C1, st1⟩ := oCallN W0 (idx := 27) (pc := 6) (ls := #[.val (.ref x), .val (.ref b)]) (st := []) (a := x) (argsL := [.ref b, .int 0, .int (Int32.ofNat cs.length), .null]) (k_I4 (h0 := h0) K hl hl0 A hsm hxf E Fc Fv)
    (fun y hy => by cases List.mem_singleton.mp hy; exact ⟨E.lt, S0 x (List.mem_singleton.mpr rfl)⟩) rfl (hs _ (List.mem_of_getElem? (i := 0) rfl)) (hs _ (List.mem_of_getElem? (i := 1) rfl)) (hs _ (List.mem_of_getElem? (i := 22) rfl)) (hs _ (List.mem_of_getElem? (i := 2) rfl)) (by decide) (na := 4) rfl (by decide +kernel) rfl (stk := [.null, .int (Int32.ofNat cs.length), .int 0, .ref b, .ref x]) rfl (by decide +kernel) (V := 0) (lb rfl) (lb rfl) (lb rfl) (lb rfl) (by show 0 + cs.length ≤ cs.length; omega)
  refine oLift st1 ?_
  exact oRet0 W1 (by decide +kernel) (lb rfl) (by show 0 + cs.length ≤ cs.length; omega) (fun _ _ => ⟨rfl, K1, F1⟩)
end OwnStr
end Jvm.Pilot.@@N@@
namespace Jvm.Pilot.@@N@@
open Jvm Jvm.ClassFile Sem Op Lib Jvm.Free Jvm.Stand Jvm.LawKit Jvm.RoadKit Bundle Jvm.Pilot.@@N@@.Jvm.D Jvm.OwnK
section OwnStrE
variable {l : Launch} {Z : State} {a0 : Array Value} {EL : List (String × Nat)} {h0 : Heap}
abbrev rmI4e : Room := { frames := 1, cells := 4, slots := 8, locals := 12 }
theorem k_I4e (K : SC Z a0 EL) (hS : ∀ a ∈ Bundle.stringAtoms, a.before a0 Z = true) (wl : (Jvm.Cond.stringLink "java/lang/String" 7 "").before a0 Z = true) (hm : ("java/lang/String", 7) ∈ EL) {x b : Addr} {v0 c0 : Value} (hxf : Z.heap.size ≤ x) (E : Exa Z h0 x "java/lang/String") (Fc : Fld Z h0 x "java/lang/String" "coder" "B" c0) (Fv : Fld Z h0 x "java/lang/String" "value" "[B" v0) :
    OC l Z EL false [] mI4 jdk_42_method_149_code 6 none rmI4e #[.ref x, .ref b, .int 0, .int 0, .null] h0 [x] (fun v _ h => v = none ∧ Keep h0 h [x] ∧ Str Z h x []) := by
  have hs := K.1
  refine oEnter (by decide +kernel) K.2.1 ?_
  intro p e s m below meth c T0 W0 S0
  refine oEq (g' := mkF m 0 #[.val (.ref x), .val (.ref b), .val (.int 0), .val (.int 0), .val .null, .unset] []) (by first | (simp [entryFrame, mkF, argsToLocals, Value.category]; done) | rfl) ?_
  refine oGo W0 [.aload_n 0] (by decide +kernel) (ls' := #[.val (.ref x), .val (.ref b), .val (.int 0), .val (.int 0), .val .null, .unset]) (st' := [.ref x]) rfl rfl (pc' := 1) rfl ?_
  obtain ⟨T1, W1, st1⟩ := oInit W0 (idx := 1) (pc := 1) (ls := #[.val (.ref x), .val (.ref b), .val (.int 0), .val (.int 0), .val .null, .unset]) (st := []) (a := x) (hs _ (List.mem_of_getElem? (i := 3) rfl)) (hs _ (List.mem_of_getElem? (i := 4) rfl)) (hs _ (List.mem_of_getElem? (i := 5) rfl)) rfl (by decide +kernel) (lb rfl) (V := 0) (lb rfl) (lb rfl)
  refine oLift st1 ?_
  refine oGo W1 [.iload_n 3] (by decide +kernel) (ls' := #[.val (.ref x), .val (.ref b), .val (.int 0), .val (.int 0), .val .null, .unset]) (st' := [.int 0]) rfl rfl (pc' := 5) rfl ?_
  refine oIfF W1 (cd := .ne) (o := 22) (by decide +kernel) (by decide) (pc' := 8) rfl ?_
  refine oGo W1 [.aload_n 0] (by decide +kernel) (ls' := #[.val (.ref x), .val (.ref b), .val (.int 0), .val (.int 0), .val .null, .unset]) (st' := [.ref x]) rfl rfl (pc' := 9) rfl ?_
  obtain ⟨a2, b2, k2, T2, h2, vm2, W2, E2, C2, x2, c2, u2, A2, st2⟩ := oLdcC W1 (pc := 9) (ls := #[.val (.ref x), .val (.ref b), .val (.int 0), .val (.int 0), .val .null, .unset]) (st := [.ref x]) wl hS hm (vs := []) (z := 0) (by decide +kernel) (by decide) (by decide) (by decide +kernel) (n := 0) (lb rfl) (lb rfl) (lb rfl) (lb rfl)
  refine oLift st2 ?_
  obtain ⟨T3, W3, st3⟩ := oGetF W2 (pc := 11) (ls := #[.val (.ref x), .val (.ref b), .val (.int 0), .val (.int 0), .val .null, .unset]) (st := [.ref x]) (hs _ (List.mem_of_getElem? (i := 20) rfl)) Via.refl u2 (by decide +kernel)
  refine oLift st3 ?_
  have S2 : Safe Z EL vm2 h2 x := C2.safe E.lt (S0 x (List.mem_singleton.mpr rfl))
  obtain ⟨T4, h4, W4, Wr4, Fv4, X4, C4, st4⟩ := oPutF W3 (idx := 9) (pc := 14) (ls := #[.val (.ref x), .val (.ref b), .val (.int 0), .val (.int 0), .val .null, .unset]) (st := []) (v := .ref b2) (hs _ (List.mem_of_getElem? (i := 20) rfl)) Via.refl (Fv.ext E2) (E.ext E2) (Or.inr ⟨hs _ (List.mem_of_getElem? (i := 21) rfl), rfl, rfl⟩) (hs _ (List.mem_of_getElem? (i := 23) rfl)) (ty := .array .byte) (by decide) rfl rfl hxf S2 (by decide +kernel)
  refine oLift st4 ?_
  refine oGo W4 [.aload_n 0] (by decide +kernel) (ls' := #[.val (.ref x), .val (.ref b), .val (.int 0), .val (.int 0), .val .null, .unset]) (st' := [.ref x]) rfl rfl (pc' := 18) rfl ?_
  obtain ⟨a5, b5, k5, T5, h5, vm5, W5, E5, C5, x5, c5, u5, A5, st5⟩ := oLdcC W4 (pc := 18) (ls := #[.val (.ref x), .val (.ref b), .val (.int 0), .val (.int 0), .val .null, .unset]) (st := [.ref x]) wl hS hm (vs := []) (z := 0) (by decide +kernel) (by decide) (by decide) (by decide +kernel) (n := 0) (lb rfl) (lb rfl) (lb rfl) (lb rfl)
  refine oLift st5 ?_
  obtain ⟨T6, W6, st6⟩ := oGetF W5 (pc := 20) (ls := #[.val (.ref x), .val (.ref b), .val (.int 0), .val (.int 0), .val .null, .unset]) (st := [.ref x]) (hs _ (List.mem_of_getElem? (i := 18) rfl)) Via.refl c5 (by decide +kernel)
  refine oLift st6 ?_
  have S5 : Safe Z EL vm5 h5 x := C5.safe X4.lt (C4.safe (E.ext E2).lt S2)
  obtain ⟨T7, h7, W7, Wr7, Fc7, X7, C7, st7⟩ := oPutF W6 (idx := 15) (pc := 23) (ls := #[.val (.ref x), .val (.ref b), .val (.int 0), .val (.int 0), .val .null, .unset]) (st := []) (v := .int 0) (hs _ (List.mem_of_getElem? (i := 18) rfl)) Via.refl (((Fc.ext E2).other Wr4 (Or.inr (slots_vc K))).ext E5) (X4.ext E5) (Or.inr ⟨hs _ (List.mem_of_getElem? (i := 19) rfl), rfl, rfl⟩) (hs _ (List.mem_of_getElem? (i := 23) rfl)) (ty := .byte) (by decide) rfl rfl hxf S5 (by decide +kernel)
  refine oLift st7 ?_
  have hbx : b2 ≠ x := A2.ne (E.ext E2) (hs _ (List.mem_of_getElem? (i := 23) rfl))
  exact oRet0 W7 (by decide +kernel) (lb rfl) (lb rfl) (fun _ _ => ⟨rfl, (((((Keep.refl h0 [x]).ext E2).wr Wr4 (Or.inl (List.mem_singleton.mpr rfl))).ext E5).wr Wr7 (Or.inl (List.mem_singleton.mpr rfl))),
    b2, k2, X7, Fc7, ((Fv4.ext E5).other Wr7 (Or.inr (Ne.symm (slots_vc K)))), (((A2.other Wr4 hbx).ext E5).other Wr7 hbx), by decide⟩)
abbrev rmI1e : Room := { frames := 2, cells := 4, slots := 8, locals := 29 }
/-- new String(new char[0]) -/
theorem k_I1e (K : SC Z a0 EL) (hS : ∀ a ∈ Bundle.stringAtoms, a.before a0 Z = true) (wl : (Jvm.Cond.stringLink "java/lang/String" 7 "").before a0 Z = true) (hm : ("java/lang/String", 7) ∈ EL) {x b : Addr} {kb : ClassId} {v0 c0 : Value} (A : OA Z h0 b kb .char []) (hxf : Z.heap.size ≤ x) (E : Exa Z h0 x "java/lang/String") (Fc : Fld Z h0 x "java/lang/String" "coder" "B" c0) (Fv : Fld Z h0 x "java/lang/String" "value" "[B" v0) :
    OC l Z EL false [] mI1 jdk_42_method_3_code 2 none rmI1e #[.ref x, .ref b] h0 [x] (fun v _ h => v = none ∧ Keep h0 h [x] ∧ Str Z h x []) := by
  have hs := K.1
  refine oEnter (by decide +kernel) K.2.1 ?_
  intro p e s m below meth c T0 W0 S0
  refine oEq (g' := mkF m 0 #[.val (.ref x), .val (.ref b)] []) (by first | (simp [entryFrame, mkF, argsToLocals, Value.category]; done) | rfl) ?_
  refine oGo W0 [.aload_n 0, .aload_n 1, .iconst 0, .aload_n 1] (by decide +kernel) (ls' := #[.val (.ref x), .val (.ref b)]) (st' := [.ref b, .int 0, .ref b, .ref x]) rfl rfl (pc' := 4) rfl ?_
  refine oLen W0 A (by decide +kernel) ?_
  refine oGo W0 [.aconst_null] (by decide +kernel) (ls' := #[.val (.ref x), .val (.ref b)]) (st' := [.null, .int 0, .int 0, .ref b, .ref x]) rfl rfl (pc' := 6) rfl ?_
  obtain ⟨v1, T1, L1, h1, vm1, W1, ⟨rfl, K1, F1⟩, C1, st1⟩ := oCallN W0 (idx := 27) (pc := 6) (ls := #[.val (.ref x), .val (.ref b)]) (st := []) (a := x) (argsL := [.ref b, .int 0, .int 0, .null]) (k_I4e (h0 := h0) K hS wl hm hxf E Fc Fv)
    (fun y hy => by cases List.mem_singleton.mp hy; exact ⟨E.lt, S0 x (List.mem_singleton.mpr rfl)⟩) rfl (hs _ (List.mem_of_getElem? (i := 0) rfl)) (hs _ (List.mem_of_getElem? (i := 1) rfl)) (hs _ (List.mem_of_getElem? (i := 22) rfl)) (hs _ (List.mem_of_getElem? (i := 2) rfl)) (by decide) (na := 4) rfl (by decide +kernel) rfl (stk := [.null, .int 0, .int 0, .ref b, .ref x]) rfl (by decide +kernel) (V := 0) (lb rfl) (lb rfl) (lb rfl) (lb rfl) (lb rfl)
  refine oLift st1 ?_
  exact oRet0 W1 (by decide +kernel) (lb rfl) (lb rfl) (fun _ _ => ⟨rfl, K1, F1⟩)
end OwnStrE
end Jvm.Pilot.@@N@@
namespace Jvm.Pilot.@@N@@
open Jvm Jvm.ClassFile Sem Op Lib Jvm.Free Jvm.Stand Jvm.LawKit Jvm.RoadKit Bundle Jvm.Pilot.@@N@@.Jvm.D Jvm.OwnK
abbrev EL : List (String × Nat) := [("java/lang/String", 7)]
theorem sA_in : ∀ d ∈ Bundle.stringAtoms, d ∈ tables_1 := by decide +kernel
def rsn : List String := ["REPLAYED", "RESPONDER_ERROR", "ISSUER_MISMATCH", "SIGNATURE_INVALID", "AUDIENCE_MISMATCH", "RECIPIENT_MISMATCH", "NO_SSO_ASSERTION", "WRONG_CONFIRMATION", "UNKNOWN_SOURCE", "RESPONDER_REFUSED", "MALFORMED_ARTIFACT", "CONDITION_NOT_UNDERSTOOD", "ALGORITHM_NOT_ALLOWED", "ASSERTION_COUNT", "EXPIRED", "MALFORMED", "NOT_SIGNED", "NOT_YET_VALID", "STATUS_NOT_SUCCESS"]
def Ctx (Z : State) (a0 : Array Value) : Prop := (∀ d ∈ tables_1, d.before a0 Z = true) ∧ SC Z a0 EL ∧ (∀ a ∈ Bundle.stringAtoms, a.before a0 Z = true) ∧ (∀ n ∈ rsn, ∃ a, Sta Z Z.heap "attestant/service/Reason" n "Lattestant/service/Reason;" (.ref a))
abbrev rm_c_reason : Room := { frames := 0, cells := 0, slots := 0, locals := 0 }
set_option maxRecDepth 65536 in
set_option maxHeartbeats 40000000 in
theorem c_reason {l : Launch} {Z : State} {a0 : Array Value} {nb : Bool} (K : Ctx Z a0) {k : Int32} {h0 : Heap} :
    OC l Z EL nb [] (⟨"attestant/service/PostDecisionIsAcceptedPinLaw", "reasonOf", "(I)Lattestant/service/Reason;"⟩ : MethodName) method_2_code 2 (some (.object "attestant/service/Reason")) rm_c_reason #[(.int k)] h0 [] (fun v _ h => (∃ w, v = some w ∧ w.isRef = true) ∧ h = h0) := by
  have hw := K.1
  have hS : ∀ a ∈ Bundle.stringAtoms, a.before a0 Z = true := K.2.2.1
  refine oEnter (by decide +kernel) K.2.1.2.1 ?_
  intro _p _e _s m _below _meth _c T0 W0 S0
  refine oEq (g' := mkF m 0 #[.val (.int k), .unset] []) (by first | (simp [entryFrame, mkF, argsToLocals, Value.category]; done) | rfl) ?_
  refine oGo W0 [.iload_n 0] (by decide +kernel) (ls' := #[.val (.int k), .unset]) (st' := [(.int k)]) rfl rfl (pc' := 1) rfl ?_
  refine oLdcI W0 (hw _ (List.mem_of_getElem? (i := 4) rfl)) (by decide +kernel) ?_
  refine oGo W0 [.iand, .bipush 20, .irem, .istore_n 1, .iload_n 1] (by decide +kernel) (ls' := #[.val (.int k), .val (.int ((k &&& (2147483647 : Int32)) % (20 : Int32)))]) (st' := [(.int ((k &&& (2147483647 : Int32)) % (20 : Int32)))]) rfl rfl (pc' := 9) rfl ?_
  by_cases hc1 : ((k &&& (2147483647 : Int32)) % (20 : Int32)) = (0 : Int32)
  · refine oIfF W0 (cd := .ne) (o := 5) (by decide +kernel) (XT.i0_ne_f hc1) (pc' := 12) rfl ?_
    refine oGo W0 [.aconst_null] (by decide +kernel) (ls' := #[.val (.int k), .val (.int ((k &&& (2147483647 : Int32)) % (20 : Int32)))]) (st' := [(.null)]) rfl rfl (pc' := 13) rfl ?_
    exact oRetA rfl W0 rfl rfl (by decide +kernel) (lb rfl) (lb rfl) (fun vm' hv => ⟨⟨_, rfl, rfl⟩, rfl⟩)
  refine oIfT W0 (cd := .ne) (o := 5) (by decide +kernel) (XT.i0_ne_t hc1) (pc' := 14) (by decide) (by decide) ?_
  refine oGo W0 [.iload_n 1, .iconst 1] (by decide +kernel) (ls' := #[.val (.int k), .val (.int ((k &&& (2147483647 : Int32)) % (20 : Int32)))]) (st' := [(.int (1 : Int32)), (.int ((k &&& (2147483647 : Int32)) % (20 : Int32)))]) rfl rfl (pc' := 16) rfl ?_
  by_cases hc2 : ((k &&& (2147483647 : Int32)) % (20 : Int32)) = (1 : Int32)
  · refine oIcF W0 (cd := .ne) (o := 7) (by decide +kernel) (XT.ii_ne_f hc2) (pc' := 19) rfl ?_
    obtain ⟨r, hr⟩ := K.2.2.2 "MALFORMED_ARTIFACT" (by decide)
    obtain ⟨T3, W3, st3⟩ := oGetS W0 (pc := 19) (ls := #[.val (.int k), .val (.int ((k &&& (2147483647 : Int32)) % (20 : Int32)))]) (st := []) (hw _ (List.mem_of_getElem? (i := 99) rfl)) Via.refl (hr.ext W0.ext) (by decide +kernel)
    refine oLift st3 ?_
    exact oRetA rfl W3 rfl rfl (by decide +kernel) (lb rfl) (lb rfl) (fun vm' hv => ⟨⟨_, rfl, rfl⟩, rfl⟩)
  refine oIcT W0 (cd := .ne) (o := 7) (by decide +kernel) (XT.ii_ne_t hc2) (pc' := 23) (by decide) (by decide) ?_
  refine oGo W0 [.iload_n 1, .iconst 2] (by decide +kernel) (ls' := #[.val (.int k), .val (.int ((k &&& (2147483647 : Int32)) % (20 : Int32)))]) (st' := [(.int (2 : Int32)), (.int ((k &&& (2147483647 : Int32)) % (20 : Int32)))]) rfl rfl (pc' := 25) rfl ?_
  by_cases hc4 : ((k &&& (2147483647 : Int32)) % (20 : Int32)) = (2 : Int32)
  · refine oIcF W0 (cd := .ne) (o := 7) (by decide +kernel) (XT.ii_ne_f hc4) (pc' := 28) rfl ?_
    obtain ⟨r, hr⟩ := K.2.2.2 "UNKNOWN_SOURCE" (by decide)
    obtain ⟨T5, W5, st5⟩ := oGetS W0 (pc := 28) (ls := #[.val (.int k), .val (.int ((k &&& (2147483647 : Int32)) % (20 : Int32)))]) (st := []) (hw _ (List.mem_of_getElem? (i := 95) rfl)) Via.refl (hr.ext W0.ext) (by decide +kernel)
    refine oLift st5 ?_
    exact oRetA rfl W5 rfl rfl (by decide +kernel) (lb rfl) (lb rfl) (fun vm' hv => ⟨⟨_, rfl, rfl⟩, rfl⟩)
  refine oIcT W0 (cd := .ne) (o := 7) (by decide +kernel) (XT.ii_ne_t hc4) (pc' := 32) (by decide) (by decide) ?_
  refine oGo W0 [.iload_n 1, .iconst 3] (by decide +kernel) (ls' := #[.val (.int k), .val (.int ((k &&& (2147483647 : Int32)) % (20 : Int32)))]) (st' := [(.int (3 : Int32)), (.int ((k &&& (2147483647 : Int32)) % (20 : Int32)))]) rfl rfl (pc' := 34) rfl ?_
  by_cases hc6 : ((k &&& (2147483647 : Int32)) % (20 : Int32)) = (3 : Int32)
  · refine oIcF W0 (cd := .ne) (o := 7) (by decide +kernel) (XT.ii_ne_f hc6) (pc' := 37) rfl ?_
    obtain ⟨r, hr⟩ := K.2.2.2 "RESPONDER_REFUSED" (by decide)
    obtain ⟨T7, W7, st7⟩ := oGetS W0 (pc := 37) (ls := #[.val (.int k), .val (.int ((k &&& (2147483647 : Int32)) % (20 : Int32)))]) (st := []) (hw _ (List.mem_of_getElem? (i := 97) rfl)) Via.refl (hr.ext W0.ext) (by decide +kernel)
    refine oLift st7 ?_
    exact oRetA rfl W7 rfl rfl (by decide +kernel) (lb rfl) (lb rfl) (fun vm' hv => ⟨⟨_, rfl, rfl⟩, rfl⟩)
  refine oIcT W0 (cd := .ne) (o := 7) (by decide +kernel) (XT.ii_ne_t hc6) (pc' := 41) (by decide) (by decide) ?_
  refine oGo W0 [.iload_n 1, .iconst 4] (by decide +kernel) (ls' := #[.val (.int k), .val (.int ((k &&& (2147483647 : Int32)) % (20 : Int32)))]) (st' := [(.int (4 : Int32)), (.int ((k &&& (2147483647 : Int32)) % (20 : Int32)))]) rfl rfl (pc' := 43) rfl ?_
  by_cases hc8 : ((k &&& (2147483647 : Int32)) % (20 : Int32)) = (4 : Int32)
  · refine oIcF W0 (cd := .ne) (o := 7) (by decide +kernel) (XT.ii_ne_f hc8) (pc' := 46) rfl ?_
    obtain ⟨r, hr⟩ := K.2.2.2 "RESPONDER_ERROR" (by decide)
    obtain ⟨T9, W9, st9⟩ := oGetS W0 (pc := 46) (ls := #[.val (.int k), .val (.int ((k &&& (2147483647 : Int32)) % (20 : Int32)))]) (st := []) (hw _ (List.mem_of_getElem? (i := 70) rfl)) Via.refl (hr.ext W0.ext) (by decide +kernel)
    refine oLift st9 ?_
    exact oRetA rfl W9 rfl rfl (by decide +kernel) (lb rfl) (lb rfl) (fun vm' hv => ⟨⟨_, rfl, rfl⟩, rfl⟩)
  refine oIcT W0 (cd := .ne) (o := 7) (by decide +kernel) (XT.ii_ne_t hc8) (pc' := 50) (by decide) (by decide) ?_
  refine oGo W0 [.iload_n 1, .iconst 5] (by decide +kernel) (ls' := #[.val (.int k), .val (.int ((k &&& (2147483647 : Int32)) % (20 : Int32)))]) (st' := [(.int (5 : Int32)), (.int ((k &&& (2147483647 : Int32)) % (20 : Int32)))]) rfl rfl (pc' := 52) rfl ?_
  by_cases hc10 : ((k &&& (2147483647 : Int32)) % (20 : Int32)) = (5 : Int32)
  · refine oIcF W0 (cd := .ne) (o := 7) (by decide +kernel) (XT.ii_ne_f hc10) (pc' := 55) rfl ?_
    obtain ⟨r, hr⟩ := K.2.2.2 "MALFORMED" (by decide)
    obtain ⟨T11, W11, st11⟩ := oGetS W0 (pc := 55) (ls := #[.val (.int k), .val (.int ((k &&& (2147483647 : Int32)) % (20 : Int32)))]) (st := []) (hw _ (List.mem_of_getElem? (i := 109) rfl)) Via.refl (hr.ext W0.ext) (by decide +kernel)
    refine oLift st11 ?_
    exact oRetA rfl W11 rfl rfl (by decide +kernel) (lb rfl) (lb rfl) (fun vm' hv => ⟨⟨_, rfl, rfl⟩, rfl⟩)
  refine oIcT W0 (cd := .ne) (o := 7) (by decide +kernel) (XT.ii_ne_t hc10) (pc' := 59) (by decide) (by decide) ?_
  refine oGo W0 [.iload_n 1, .bipush 6] (by decide +kernel) (ls' := #[.val (.int k), .val (.int ((k &&& (2147483647 : Int32)) % (20 : Int32)))]) (st' := [(.int (6 : Int32)), (.int ((k &&& (2147483647 : Int32)) % (20 : Int32)))]) rfl rfl (pc' := 62) rfl ?_
  by_cases hc12 : ((k &&& (2147483647 : Int32)) % (20 : Int32)) = (6 : Int32)
  · refine oIcF W0 (cd := .ne) (o := 7) (by decide +kernel) (XT.ii_ne_f hc12) (pc' := 65) rfl ?_
    obtain ⟨r, hr⟩ := K.2.2.2 "NOT_SIGNED" (by decide)
    obtain ⟨T13, W13, st13⟩ := oGetS W0 (pc := 65) (ls := #[.val (.int k), .val (.int ((k &&& (2147483647 : Int32)) % (20 : Int32)))]) (st := []) (hw _ (List.mem_of_getElem? (i := 111) rfl)) Via.refl (hr.ext W0.ext) (by decide +kernel)
    refine oLift st13 ?_
    exact oRetA rfl W13 rfl rfl (by decide +kernel) (lb rfl) (lb rfl) (fun vm' hv => ⟨⟨_, rfl, rfl⟩, rfl⟩)
  refine oIcT W0 (cd := .ne) (o := 7) (by decide +kernel) (XT.ii_ne_t hc12) (pc' := 69) (by decide) (by decide) ?_
  refine oGo W0 [.iload_n 1, .bipush 7] (by decide +kernel) (ls' := #[.val (.int k), .val (.int ((k &&& (2147483647 : Int32)) % (20 : Int32)))]) (st' := [(.int (7 : Int32)), (.int ((k &&& (2147483647 : Int32)) % (20 : Int32)))]) rfl rfl (pc' := 72) rfl ?_
  by_cases hc14 : ((k &&& (2147483647 : Int32)) % (20 : Int32)) = (7 : Int32)
  · refine oIcF W0 (cd := .ne) (o := 7) (by decide +kernel) (XT.ii_ne_f hc14) (pc' := 75) rfl ?_
    obtain ⟨r, hr⟩ := K.2.2.2 "ALGORITHM_NOT_ALLOWED" (by decide)
    obtain ⟨T15, W15, st15⟩ := oGetS W0 (pc := 75) (ls := #[.val (.int k), .val (.int ((k &&& (2147483647 : Int32)) % (20 : Int32)))]) (st := []) (hw _ (List.mem_of_getElem? (i := 103) rfl)) Via.refl (hr.ext W0.ext) (by decide +kernel)
    refine oLift st15 ?_
    exact oRetA rfl W15 rfl rfl (by decide +kernel) (lb rfl) (lb rfl) (fun vm' hv => ⟨⟨_, rfl, rfl⟩, rfl⟩)
  refine oIcT W0 (cd := .ne) (o := 7) (by decide +kernel) (XT.ii_ne_t hc14) (pc' := 79) (by decide) (by decide) ?_
  refine oGo W0 [.iload_n 1, .bipush 8] (by decide +kernel) (ls' := #[.val (.int k), .val (.int ((k &&& (2147483647 : Int32)) % (20 : Int32)))]) (st' := [(.int (8 : Int32)), (.int ((k &&& (2147483647 : Int32)) % (20 : Int32)))]) rfl rfl (pc' := 82) rfl ?_
  by_cases hc16 : ((k &&& (2147483647 : Int32)) % (20 : Int32)) = (8 : Int32)
  · refine oIcF W0 (cd := .ne) (o := 7) (by decide +kernel) (XT.ii_ne_f hc16) (pc' := 85) rfl ?_
    obtain ⟨r, hr⟩ := K.2.2.2 "SIGNATURE_INVALID" (by decide)
    obtain ⟨T17, W17, st17⟩ := oGetS W0 (pc := 85) (ls := #[.val (.int k), .val (.int ((k &&& (2147483647 : Int32)) % (20 : Int32)))]) (st := []) (hw _ (List.mem_of_getElem? (i := 74) rfl)) Via.refl (hr.ext W0.ext) (by decide +kernel)
    refine oLift st17 ?_
    exact oRetA rfl W17 rfl rfl (by decide +kernel) (lb rfl) (lb rfl) (fun vm' hv => ⟨⟨_, rfl, rfl⟩, rfl⟩)
  refine oIcT W0 (cd := .ne) (o := 7) (by decide +kernel) (XT.ii_ne_t hc16) (pc' := 89) (by decide) (by decide) ?_
  refine oGo W0 [.iload_n 1, .bipush 9] (by decide +kernel) (ls' := #[.val (.int k), .val (.int ((k &&& (2147483647 : Int32)) % (20 : Int32)))]) (st' := [(.int (9 : Int32)), (.int ((k &&& (2147483647 : Int32)) % (20 : Int32)))]) rfl rfl (pc' := 92) rfl ?_
  by_cases hc18 : ((k &&& (2147483647 : Int32)) % (20 : Int32)) = (9 : Int32)
  · refine oIcF W0 (cd := .ne) (o := 7) (by decide +kernel) (XT.ii_ne_f hc18) (pc' := 95) rfl ?_
    obtain ⟨r, hr⟩ := K.2.2.2 "STATUS_NOT_SUCCESS" (by decide)
    obtain ⟨T19, W19, st19⟩ := oGetS W0 (pc := 95) (ls := #[.val (.int k), .val (.int ((k &&& (2147483647 : Int32)) % (20 : Int32)))]) (st := []) (hw _ (List.mem_of_getElem? (i := 115) rfl)) Via.refl (hr.ext W0.ext) (by decide +kernel)
    refine oLift st19 ?_
    exact oRetA rfl W19 rfl rfl (by decide +kernel) (lb rfl) (lb rfl) (fun vm' hv => ⟨⟨_, rfl, rfl⟩, rfl⟩)
  refine oIcT W0 (cd := .ne) (o := 7) (by decide +kernel) (XT.ii_ne_t hc18) (pc' := 99) (by decide) (by decide) ?_
  refine oGo W0 [.iload_n 1, .bipush 10] (by decide +kernel) (ls' := #[.val (.int k), .val (.int ((k &&& (2147483647 : Int32)) % (20 : Int32)))]) (st' := [(.int (10 : Int32)), (.int ((k &&& (2147483647 : Int32)) % (20 : Int32)))]) rfl rfl (pc' := 102) rfl ?_
  by_cases hc20 : ((k &&& (2147483647 : Int32)) % (20 : Int32)) = (10 : Int32)
  · refine oIcF W0 (cd := .ne) (o := 7) (by decide +kernel) (XT.ii_ne_f hc20) (pc' := 105) rfl ?_
    obtain ⟨r, hr⟩ := K.2.2.2 "RECIPIENT_MISMATCH" (by decide)
    obtain ⟨T21, W21, st21⟩ := oGetS W0 (pc := 105) (ls := #[.val (.int k), .val (.int ((k &&& (2147483647 : Int32)) % (20 : Int32)))]) (st := []) (hw _ (List.mem_of_getElem? (i := 89) rfl)) Via.refl (hr.ext W0.ext) (by decide +kernel)
    refine oLift st21 ?_
    exact oRetA rfl W21 rfl rfl (by decide +kernel) (lb rfl) (lb rfl) (fun vm' hv => ⟨⟨_, rfl, rfl⟩, rfl⟩)
  refine oIcT W0 (cd := .ne) (o := 7) (by decide +kernel) (XT.ii_ne_t hc20) (pc' := 109) (by decide) (by decide) ?_
  refine oGo W0 [.iload_n 1, .bipush 11] (by decide +kernel) (ls' := #[.val (.int k), .val (.int ((k &&& (2147483647 : Int32)) % (20 : Int32)))]) (st' := [(.int (11 : Int32)), (.int ((k &&& (2147483647 : Int32)) % (20 : Int32)))]) rfl rfl (pc' := 112) rfl ?_
  by_cases hc22 : ((k &&& (2147483647 : Int32)) % (20 : Int32)) = (11 : Int32)
  · refine oIcF W0 (cd := .ne) (o := 7) (by decide +kernel) (XT.ii_ne_f hc22) (pc' := 115) rfl ?_
    obtain ⟨r, hr⟩ := K.2.2.2 "ASSERTION_COUNT" (by decide)
    obtain ⟨T23, W23, st23⟩ := oGetS W0 (pc := 115) (ls := #[.val (.int k), .val (.int ((k &&& (2147483647 : Int32)) % (20 : Int32)))]) (st := []) (hw _ (List.mem_of_getElem? (i := 105) rfl)) Via.refl (hr.ext W0.ext) (by decide +kernel)
    refine oLift st23 ?_
    exact oRetA rfl W23 rfl rfl (by decide +kernel) (lb rfl) (lb rfl) (fun vm' hv => ⟨⟨_, rfl, rfl⟩, rfl⟩)
  refine oIcT W0 (cd := .ne) (o := 7) (by decide +kernel) (XT.ii_ne_t hc22) (pc' := 119) (by decide) (by decide) ?_
  refine oGo W0 [.iload_n 1, .bipush 12] (by decide +kernel) (ls' := #[.val (.int k), .val (.int ((k &&& (2147483647 : Int32)) % (20 : Int32)))]) (st' := [(.int (12 : Int32)), (.int ((k &&& (2147483647 : Int32)) % (20 : Int32)))]) rfl rfl (pc' := 122) rfl ?_
  by_cases hc24 : ((k &&& (2147483647 : Int32)) % (20 : Int32)) = (12 : Int32)
  · refine oIcF W0 (cd := .ne) (o := 7) (by decide +kernel) (XT.ii_ne_f hc24) (pc' := 125) rfl ?_
    obtain ⟨r, hr⟩ := K.2.2.2 "NO_SSO_ASSERTION" (by decide)
    obtain ⟨T25, W25, st25⟩ := oGetS W0 (pc := 125) (ls := #[.val (.int k), .val (.int ((k &&& (2147483647 : Int32)) % (20 : Int32)))]) (st := []) (hw _ (List.mem_of_getElem? (i := 91) rfl)) Via.refl (hr.ext W0.ext) (by decide +kernel)
    refine oLift st25 ?_
    exact oRetA rfl W25 rfl rfl (by decide +kernel) (lb rfl) (lb rfl) (fun vm' hv => ⟨⟨_, rfl, rfl⟩, rfl⟩)
  refine oIcT W0 (cd := .ne) (o := 7) (by decide +kernel) (XT.ii_ne_t hc24) (pc' := 129) (by decide) (by decide) ?_
  refine oGo W0 [.iload_n 1, .bipush 13] (by decide +kernel) (ls' := #[.val (.int k), .val (.int ((k &&& (2147483647 : Int32)) % (20 : Int32)))]) (st' := [(.int (13 : Int32)), (.int ((k &&& (2147483647 : Int32)) % (20 : Int32)))]) rfl rfl (pc' := 132) rfl ?_
  by_cases hc26 : ((k &&& (2147483647 : Int32)) % (20 : Int32)) = (13 : Int32)
  · refine oIcF W0 (cd := .ne) (o := 7) (by decide +kernel) (XT.ii_ne_f hc26) (pc' := 135) rfl ?_
    obtain ⟨r, hr⟩ := K.2.2.2 "ISSUER_MISMATCH" (by decide)
    obtain ⟨T27, W27, st27⟩ := oGetS W0 (pc := 135) (ls := #[.val (.int k), .val (.int ((k &&& (2147483647 : Int32)) % (20 : Int32)))]) (st := []) (hw _ (List.mem_of_getElem? (i := 72) rfl)) Via.refl (hr.ext W0.ext) (by decide +kernel)
    refine oLift st27 ?_
    exact oRetA rfl W27 rfl rfl (by decide +kernel) (lb rfl) (lb rfl) (fun vm' hv => ⟨⟨_, rfl, rfl⟩, rfl⟩)
  refine oIcT W0 (cd := .ne) (o := 7) (by decide +kernel) (XT.ii_ne_t hc26) (pc' := 139) (by decide) (by decide) ?_
  refine oGo W0 [.iload_n 1, .bipush 14] (by decide +kernel) (ls' := #[.val (.int k), .val (.int ((k &&& (2147483647 : Int32)) % (20 : Int32)))]) (st' := [(.int (14 : Int32)), (.int ((k &&& (2147483647 : Int32)) % (20 : Int32)))]) rfl rfl (pc' := 142) rfl ?_
  by_cases hc28 : ((k &&& (2147483647 : Int32)) % (20 : Int32)) = (14 : Int32)
  · refine oIcF W0 (cd := .ne) (o := 7) (by decide +kernel) (XT.ii_ne_f hc28) (pc' := 145) rfl ?_
    obtain ⟨r, hr⟩ := K.2.2.2 "WRONG_CONFIRMATION" (by decide)
    obtain ⟨T29, W29, st29⟩ := oGetS W0 (pc := 145) (ls := #[.val (.int k), .val (.int ((k &&& (2147483647 : Int32)) % (20 : Int32)))]) (st := []) (hw _ (List.mem_of_getElem? (i := 93) rfl)) Via.refl (hr.ext W0.ext) (by decide +kernel)
    refine oLift st29 ?_
    exact oRetA rfl W29 rfl rfl (by decide +kernel) (lb rfl) (lb rfl) (fun vm' hv => ⟨⟨_, rfl, rfl⟩, rfl⟩)
  refine oIcT W0 (cd := .ne) (o := 7) (by decide +kernel) (XT.ii_ne_t hc28) (pc' := 149) (by decide) (by decide) ?_
  refine oGo W0 [.iload_n 1, .bipush 15] (by decide +kernel) (ls' := #[.val (.int k), .val (.int ((k &&& (2147483647 : Int32)) % (20 : Int32)))]) (st' := [(.int (15 : Int32)), (.int ((k &&& (2147483647 : Int32)) % (20 : Int32)))]) rfl rfl (pc' := 152) rfl ?_
  by_cases hc30 : ((k &&& (2147483647 : Int32)) % (20 : Int32)) = (15 : Int32)
  · refine oIcF W0 (cd := .ne) (o := 7) (by decide +kernel) (XT.ii_ne_f hc30) (pc' := 155) rfl ?_
    obtain ⟨r, hr⟩ := K.2.2.2 "AUDIENCE_MISMATCH" (by decide)
    obtain ⟨T31, W31, st31⟩ := oGetS W0 (pc := 155) (ls := #[.val (.int k), .val (.int ((k &&& (2147483647 : Int32)) % (20 : Int32)))]) (st := []) (hw _ (List.mem_of_getElem? (i := 87) rfl)) Via.refl (hr.ext W0.ext) (by decide +kernel)
    refine oLift st31 ?_
    exact oRetA rfl W31 rfl rfl (by decide +kernel) (lb rfl) (lb rfl) (fun vm' hv => ⟨⟨_, rfl, rfl⟩, rfl⟩)
  refine oIcT W0 (cd := .ne) (o := 7) (by decide +kernel) (XT.ii_ne_t hc30) (pc' := 159) (by decide) (by decide) ?_
  refine oGo W0 [.iload_n 1, .bipush 16] (by decide +kernel) (ls' := #[.val (.int k), .val (.int ((k &&& (2147483647 : Int32)) % (20 : Int32)))]) (st' := [(.int (16 : Int32)), (.int ((k &&& (2147483647 : Int32)) % (20 : Int32)))]) rfl rfl (pc' := 162) rfl ?_
  by_cases hc32 : ((k &&& (2147483647 : Int32)) % (20 : Int32)) = (16 : Int32)
  · refine oIcF W0 (cd := .ne) (o := 7) (by decide +kernel) (XT.ii_ne_f hc32) (pc' := 165) rfl ?_
    obtain ⟨r, hr⟩ := K.2.2.2 "CONDITION_NOT_UNDERSTOOD" (by decide)
    obtain ⟨T33, W33, st33⟩ := oGetS W0 (pc := 165) (ls := #[.val (.int k), .val (.int ((k &&& (2147483647 : Int32)) % (20 : Int32)))]) (st := []) (hw _ (List.mem_of_getElem? (i := 101) rfl)) Via.refl (hr.ext W0.ext) (by decide +kernel)
    refine oLift st33 ?_
    exact oRetA rfl W33 rfl rfl (by decide +kernel) (lb rfl) (lb rfl) (fun vm' hv => ⟨⟨_, rfl, rfl⟩, rfl⟩)
  refine oIcT W0 (cd := .ne) (o := 7) (by decide +kernel) (XT.ii_ne_t hc32) (pc' := 169) (by decide) (by decide) ?_
  refine oGo W0 [.iload_n 1, .bipush 17] (by decide +kernel) (ls' := #[.val (.int k), .val (.int ((k &&& (2147483647 : Int32)) % (20 : Int32)))]) (st' := [(.int (17 : Int32)), (.int ((k &&& (2147483647 : Int32)) % (20 : Int32)))]) rfl rfl (pc' := 172) rfl ?_
  by_cases hc34 : ((k &&& (2147483647 : Int32)) % (20 : Int32)) = (17 : Int32)
  · refine oIcF W0 (cd := .ne) (o := 7) (by decide +kernel) (XT.ii_ne_f hc34) (pc' := 175) rfl ?_
    obtain ⟨r, hr⟩ := K.2.2.2 "NOT_YET_VALID" (by decide)
    obtain ⟨T35, W35, st35⟩ := oGetS W0 (pc := 175) (ls := #[.val (.int k), .val (.int ((k &&& (2147483647 : Int32)) % (20 : Int32)))]) (st := []) (hw _ (List.mem_of_getElem? (i := 113) rfl)) Via.refl (hr.ext W0.ext) (by decide +kernel)
    refine oLift st35 ?_
    exact oRetA rfl W35 rfl rfl (by decide +kernel) (lb rfl) (lb rfl) (fun vm' hv => ⟨⟨_, rfl, rfl⟩, rfl⟩)
  refine oIcT W0 (cd := .ne) (o := 7) (by decide +kernel) (XT.ii_ne_t hc34) (pc' := 179) (by decide) (by decide) ?_
  refine oGo W0 [.iload_n 1, .bipush 18] (by decide +kernel) (ls' := #[.val (.int k), .val (.int ((k &&& (2147483647 : Int32)) % (20 : Int32)))]) (st' := [(.int (18 : Int32)), (.int ((k &&& (2147483647 : Int32)) % (20 : Int32)))]) rfl rfl (pc' := 182) rfl ?_
  by_cases hc36 : ((k &&& (2147483647 : Int32)) % (20 : Int32)) = (18 : Int32)
  · refine oIcF W0 (cd := .ne) (o := 7) (by decide +kernel) (XT.ii_ne_f hc36) (pc' := 185) rfl ?_
    obtain ⟨r, hr⟩ := K.2.2.2 "EXPIRED" (by decide)
    obtain ⟨T37, W37, st37⟩ := oGetS W0 (pc := 185) (ls := #[.val (.int k), .val (.int ((k &&& (2147483647 : Int32)) % (20 : Int32)))]) (st := []) (hw _ (List.mem_of_getElem? (i := 107) rfl)) Via.refl (hr.ext W0.ext) (by decide +kernel)
    refine oLift st37 ?_
    exact oRetA rfl W37 rfl rfl (by decide +kernel) (lb rfl) (lb rfl) (fun vm' hv => ⟨⟨_, rfl, rfl⟩, rfl⟩)
  refine oIcT W0 (cd := .ne) (o := 7) (by decide +kernel) (XT.ii_ne_t hc36) (pc' := 189) (by decide) (by decide) ?_
  obtain ⟨r, hr⟩ := K.2.2.2 "REPLAYED" (by decide)
  obtain ⟨T38, W38, st38⟩ := oGetS W0 (pc := 189) (ls := #[.val (.int k), .val (.int ((k &&& (2147483647 : Int32)) % (20 : Int32)))]) (st := []) (hw _ (List.mem_of_getElem? (i := 64) rfl)) Via.refl (hr.ext W0.ext) (by decide +kernel)
  refine oLift st38 ?_
  exact oRetA rfl W38 rfl rfl (by decide +kernel) (lb rfl) (lb rfl) (fun vm' hv => ⟨⟨_, rfl, rfl⟩, rfl⟩)
abbrev rm_c_str : Room := { frames := 4, cells := 6, slots := 12, locals := 66 }
set_option maxRecDepth 65536 in
set_option maxHeartbeats 40000000 in
theorem c_str {l : Launch} {Z : State} {a0 : Array Value} (K : Ctx Z a0) {i f : Int32} {h0 : Heap} :
    OC l Z EL false [] (⟨"attestant/service/PostDecisionIsAcceptedPinLaw", "str", "(II)Ljava/lang/String;"⟩ : MethodName) method_3_code 6 (some (.object "java/lang/String")) rm_c_str #[(.int i), (.int f)] h0 [] (fun v _ h => (∃ w, v = some w ∧ w.isRef = true) ∧ Ext h0 h) := by
  have hw := K.1
  have hS : ∀ a ∈ Bundle.stringAtoms, a.before a0 Z = true := K.2.2.1
  refine oEnter (by decide +kernel) K.2.1.2.1 ?_
  intro _p _e _s m _below _meth _c T0 W0 S0
  refine oEq (g' := mkF m 0 #[.val (.int i), .val (.int f), .unset, .unset, .unset, .unset] []) (by first | (simp [entryFrame, mkF, argsToLocals, Value.category]; done) | rfl) ?_
  refine oGo W0 [.iload_n 1] (by decide +kernel) (ls' := #[.val (.int i), .val (.int f), .unset, .unset, .unset, .unset]) (st' := [(.int f)]) rfl rfl (pc' := 1) rfl ?_
  by_cases hc1 : f = (0 : Int32)
  rotate_left
  · refine oIfF W0 (cd := .eq) (o := 5) (by decide +kernel) (XT.i0_eq_f hc1) (pc' := 4) rfl ?_
    refine oGo W0 [.aconst_null] (by decide +kernel) (ls' := #[.val (.int i), .val (.int f), .unset, .unset, .unset, .unset]) (st' := [(.null)]) rfl rfl (pc' := 5) rfl ?_
    exact oRetA rfl W0 rfl rfl (by decide +kernel) (lb rfl) (lb rfl) (fun vm' hv => ⟨⟨_, rfl, rfl⟩, exR _⟩)
  refine oIfT W0 (cd := .eq) (o := 5) (by decide +kernel) (XT.i0_eq_t hc1) (pc' := 6) (by decide) (by decide) ?_
  refine oGo W0 [.iload_n 0, .bipush 24, .iushr, .iconst 3, .iand, .istore_n 2, .iload_n 0, .sipush 255, .iand, .i2c, .istore_n 3, .iload_n 0, .bipush 8, .iushr, .sipush 255, .iand, .i2c, .istore 4, .iload_n 0, .bipush 16, .iushr, .sipush 255, .iand, .i2c, .istore 5, .iload_n 2] (by decide +kernel) (ls' := #[.val (.int i), .val (.int f), .val (.int ((XT.ushr i (24 : Int32)) &&& (3 : Int32))), .val (.int ((i &&& (255 : Int32)).toUInt32.toUInt16.toUInt32.toInt32)), .val (.int (((XT.ushr i (8 : Int32)) &&& (255 : Int32)).toUInt32.toUInt16.toUInt32.toInt32)), .val (.int (((XT.ushr i (16 : Int32)) &&& (255 : Int32)).toUInt32.toUInt16.toUInt32.toInt32))]) (st' := [(.int ((XT.ushr i (24 : Int32)) &&& (3 : Int32)))]) rfl rfl (pc' := 43) rfl ?_
  by_cases hc2 : ((XT.ushr i (24 : Int32)) &&& (3 : Int32)) = (0 : Int32)
  · refine oIfF W0 (cd := .ne) (o := 14) (by decide +kernel) (XT.i0_ne_f hc2) (pc' := 46) rfl ?_
    obtain ⟨T3, h3, a3, W3, g3, E3, A3, D3, S3, C3, st3⟩ := oNew W0 (pc := 46) (ls := #[.val (.int i), .val (.int f), .val (.int ((XT.ushr i (24 : Int32)) &&& (3 : Int32))), .val (.int ((i &&& (255 : Int32)).toUInt32.toUInt16.toUInt32.toInt32)), .val (.int (((XT.ushr i (8 : Int32)) &&& (255 : Int32)).toUInt32.toUInt16.toUInt32.toInt32)), .val (.int (((XT.ushr i (16 : Int32)) &&& (255 : Int32)).toUInt32.toUInt16.toUInt32.toInt32))]) (st := []) (hw _ (List.mem_of_getElem? (i := 8) rfl)) (hw _ (List.mem_of_getElem? (i := 9) rfl)) (hw _ (List.mem_of_getElem? (i := 10) rfl)) (by decide +kernel) (lb rfl) (lb rfl)
    refine oLift st3 ?_
    refine oGo W3 [.dup, .iconst 0] (by decide +kernel) (ls' := #[.val (.int i), .val (.int f), .val (.int ((XT.ushr i (24 : Int32)) &&& (3 : Int32))), .val (.int ((i &&& (255 : Int32)).toUInt32.toUInt16.toUInt32.toInt32)), .val (.int (((XT.ushr i (8 : Int32)) &&& (255 : Int32)).toUInt32.toUInt16.toUInt32.toInt32)), .val (.int (((XT.ushr i (16 : Int32)) &&& (255 : Int32)).toUInt32.toUInt16.toUInt32.toInt32))]) (st' := [(.int (0 : Int32)), (.ref a3), (.ref a3)]) rfl rfl (pc' := 51) rfl ?_
    obtain ⟨T4, h4, a4, k4, W4, g4, E4, A4, S4, C4, st4⟩ := oNewA W3 (aty := .char) (pc := 51) (ls := #[.val (.int i), .val (.int f), .val (.int ((XT.ushr i (24 : Int32)) &&& (3 : Int32))), .val (.int ((i &&& (255 : Int32)).toUInt32.toUInt16.toUInt32.toInt32)), .val (.int (((XT.ushr i (8 : Int32)) &&& (255 : Int32)).toUInt32.toUInt16.toUInt32.toInt32)), .val (.int (((XT.ushr i (16 : Int32)) &&& (255 : Int32)).toUInt32.toUInt16.toUInt32.toInt32))]) (st := [(.ref a3), (.ref a3)]) (hw _ (List.mem_of_getElem? (i := 11) rfl)) (by decide +kernel) (n := (0 : Int32)) (by decide) (cap := 0) (lb rfl) (lb rfl) (lb rfl) (lb rfl)
    refine oLift st4 ?_
    have A4 : OA Z h4 a4 k4 .char [] := A4
    obtain ⟨v5, T5, L5, h5, vm5, W5, ⟨rfl, K5, F5⟩, C5, st5⟩ := oCallN W4 (idx := 70) (pc := 53) (ls := #[.val (.int i), .val (.int f), .val (.int ((XT.ushr i (24 : Int32)) &&& (3 : Int32))), .val (.int ((i &&& (255 : Int32)).toUInt32.toUInt16.toUInt32.toInt32)), .val (.int (((XT.ushr i (8 : Int32)) &&& (255 : Int32)).toUInt32.toUInt16.toUInt32.toInt32)), .val (.int (((XT.ushr i (16 : Int32)) &&& (255 : Int32)).toUInt32.toUInt16.toUInt32.toInt32))]) (st := [(.ref a3)]) (a := a3) (argsL := [(.ref a4)]) (k_I1e K.2.1 hS (hw _ (List.mem_of_getElem? (i := 22) rfl)) (by decide) A4 (Nat.le_trans W0.ext.1 g3) (A3.ext E4) ((D3 (Or.inr (hw _ (List.mem_of_getElem? (i := 25) rfl))) (ty := .byte) (by decide)).ext E4) ((D3 (Or.inr (hw _ (List.mem_of_getElem? (i := 24) rfl))) (ty := (.array .byte)) (by decide)).ext E4)) (fun y hy => by cases List.mem_singleton.mp hy; exact ⟨(A3.ext E4).lt, (C4.safe A3.lt S3)⟩) rfl (hw _ (List.mem_of_getElem? (i := 12) rfl)) (hw _ (List.mem_of_getElem? (i := 13) rfl)) (hw _ (List.mem_of_getElem? (i := 10) rfl)) (hw _ (List.mem_of_getElem? (i := 14) rfl)) (by decide) (na := 1) rfl (by decide +kernel) rfl (stk := [(.ref a4), (.ref a3), (.ref a3)]) rfl (by decide +kernel) (V := 1) (lb rfl) (lb rfl) (lb rfl) (lb rfl) (lb rfl)
    refine oLift st5 ?_
    show OG _ _ _ _ _ _ _ _ _ _ _ (mkF m 56 #[.val (.int i), .val (.int f), .val (.int ((XT.ushr i (24 : Int32)) &&& (3 : Int32))), .val (.int ((i &&& (255 : Int32)).toUInt32.toUInt16.toUInt32.toInt32)), .val (.int (((XT.ushr i (8 : Int32)) &&& (255 : Int32)).toUInt32.toUInt16.toUInt32.toInt32)), .val (.int (((XT.ushr i (16 : Int32)) &&& (255 : Int32)).toUInt32.toUInt16.toUInt32.toInt32))] [(.ref a3)])
    exact oRetA rfl W5 rfl rfl (by decide +kernel) (lb rfl) (lb rfl) (fun vm' hv => ⟨⟨_, rfl, rfl⟩, (exK (exT E3 E4) K5 (fun y hy => by cases List.mem_singleton.mp hy; exact g3))⟩)
  refine oIfT W0 (cd := .ne) (o := 14) (by decide +kernel) (XT.i0_ne_t hc2) (pc' := 57) (by decide) (by decide) ?_
  refine oGo W0 [.iload_n 2, .iconst 1] (by decide +kernel) (ls' := #[.val (.int i), .val (.int f), .val (.int ((XT.ushr i (24 : Int32)) &&& (3 : Int32))), .val (.int ((i &&& (255 : Int32)).toUInt32.toUInt16.toUInt32.toInt32)), .val (.int (((XT.ushr i (8 : Int32)) &&& (255 : Int32)).toUInt32.toUInt16.toUInt32.toInt32)), .val (.int (((XT.ushr i (16 : Int32)) &&& (255 : Int32)).toUInt32.toUInt16.toUInt32.toInt32))]) (st' := [(.int (1 : Int32)), (.int ((XT.ushr i (24 : Int32)) &&& (3 : Int32)))]) rfl rfl (pc' := 59) rfl ?_
  by_cases hc6 : ((XT.ushr i (24 : Int32)) &&& (3 : Int32)) = (1 : Int32)
  · refine oIcF W0 (cd := .ne) (o := 18) (by decide +kernel) (XT.ii_ne_f hc6) (pc' := 62) rfl ?_
    obtain ⟨T7, h7, a7, W7, g7, E7, A7, D7, S7, C7, st7⟩ := oNew W0 (pc := 62) (ls := #[.val (.int i), .val (.int f), .val (.int ((XT.ushr i (24 : Int32)) &&& (3 : Int32))), .val (.int ((i &&& (255 : Int32)).toUInt32.toUInt16.toUInt32.toInt32)), .val (.int (((XT.ushr i (8 : Int32)) &&& (255 : Int32)).toUInt32.toUInt16.toUInt32.toInt32)), .val (.int (((XT.ushr i (16 : Int32)) &&& (255 : Int32)).toUInt32.toUInt16.toUInt32.toInt32))]) (st := []) (hw _ (List.mem_of_getElem? (i := 8) rfl)) (hw _ (List.mem_of_getElem? (i := 9) rfl)) (hw _ (List.mem_of_getElem? (i := 10) rfl)) (by decide +kernel) (lb rfl) (lb rfl)
    refine oLift st7 ?_
    refine oGo W7 [.dup, .iconst 1] (by decide +kernel) (ls' := #[.val (.int i), .val (.int f), .val (.int ((XT.ushr i (24 : Int32)) &&& (3 : Int32))), .val (.int ((i &&& (255 : Int32)).toUInt32.toUInt16.toUInt32.toInt32)), .val (.int (((XT.ushr i (8 : Int32)) &&& (255 : Int32)).toUInt32.toUInt16.toUInt32.toInt32)), .val (.int (((XT.ushr i (16 : Int32)) &&& (255 : Int32)).toUInt32.toUInt16.toUInt32.toInt32))]) (st' := [(.int (1 : Int32)), (.ref a7), (.ref a7)]) rfl rfl (pc' := 67) rfl ?_
    obtain ⟨T8, h8, a8, k8, W8, g8, E8, A8, S8, C8, st8⟩ := oNewA W7 (aty := .char) (pc := 67) (ls := #[.val (.int i), .val (.int f), .val (.int ((XT.ushr i (24 : Int32)) &&& (3 : Int32))), .val (.int ((i &&& (255 : Int32)).toUInt32.toUInt16.toUInt32.toInt32)), .val (.int (((XT.ushr i (8 : Int32)) &&& (255 : Int32)).toUInt32.toUInt16.toUInt32.toInt32)), .val (.int (((XT.ushr i (16 : Int32)) &&& (255 : Int32)).toUInt32.toUInt16.toUInt32.toInt32))]) (st := [(.ref a7), (.ref a7)]) (hw _ (List.mem_of_getElem? (i := 11) rfl)) (by decide +kernel) (n := (1 : Int32)) (by decide) (cap := 1) (lb rfl) (lb rfl) (lb rfl) (lb rfl)
    refine oLift st8 ?_
    have A8 : OA Z h8 a8 k8 .char [.int 0] := A8
    refine oGo W8 [.dup, .iconst 0, .iload_n 3] (by decide +kernel) (ls' := #[.val (.int i), .val (.int f), .val (.int ((XT.ushr i (24 : Int32)) &&& (3 : Int32))), .val (.int ((i &&& (255 : Int32)).toUInt32.toUInt16.toUInt32.toInt32)), .val (.int (((XT.ushr i (8 : Int32)) &&& (255 : Int32)).toUInt32.toUInt16.toUInt32.toInt32)), .val (.int (((XT.ushr i (16 : Int32)) &&& (255 : Int32)).toUInt32.toUInt16.toUInt32.toInt32))]) (st' := [(.int ((i &&& (255 : Int32)).toUInt32.toUInt16.toUInt32.toInt32)), (.int (0 : Int32)), (.ref a8), (.ref a8), (.ref a7), (.ref a7)]) rfl rfl (pc' := 72) rfl ?_
    obtain ⟨T9, h9, W9, Wr9, A9, C9, st9⟩ := oPut W8 A8 (j := (0 : Int32)) (x := ((i &&& (255 : Int32)).toUInt32.toUInt16.toUInt32.toInt32)) (x' := (i &&& (255 : Int32))) (pc := 72) (ls := #[.val (.int i), .val (.int f), .val (.int ((XT.ushr i (24 : Int32)) &&& (3 : Int32))), .val (.int ((i &&& (255 : Int32)).toUInt32.toUInt16.toUInt32.toInt32)), .val (.int (((XT.ushr i (8 : Int32)) &&& (255 : Int32)).toUInt32.toUInt16.toUInt32.toInt32)), .val (.int (((XT.ushr i (16 : Int32)) &&& (255 : Int32)).toUInt32.toUInt16.toUInt32.toInt32))]) (st := [(.ref a8), (.ref a7), (.ref a7)]) (by decide) (i := 0) (by decide) (by simp) (Nat.le_trans W7.ext.1 g8) (A8.safe W8.warm.alike (by decide)) (ins := .castore) (Or.inl ⟨rfl, rfl, (by rw [i2c_255]; exact own_nar255 _)⟩) (by decide +kernel)
    refine oLift st9 ?_
    have A9 : OA Z h9 a8 k8 .char [.int (i &&& (255 : Int32))] := A9
    obtain ⟨v10, T10, L10, h10, vm10, W10, ⟨rfl, K10, F10⟩, C10, st10⟩ := oCallN W9 (idx := 70) (pc := 73) (ls := #[.val (.int i), .val (.int f), .val (.int ((XT.ushr i (24 : Int32)) &&& (3 : Int32))), .val (.int ((i &&& (255 : Int32)).toUInt32.toUInt16.toUInt32.toInt32)), .val (.int (((XT.ushr i (8 : Int32)) &&& (255 : Int32)).toUInt32.toUInt16.toUInt32.toInt32)), .val (.int (((XT.ushr i (16 : Int32)) &&& (255 : Int32)).toUInt32.toUInt16.toUInt32.toInt32))]) (st := [(.ref a7)]) (a := a7) (argsL := [(.ref a8)]) (k_I1 K.2.1 [(i &&& (255 : Int32))] (lb rfl) (lb rfl) A9 (own_all1 (m255 _)) (Nat.le_trans W0.ext.1 g7) (A7.ext (exW E8 Wr9 g8)) ((D7 (Or.inr (hw _ (List.mem_of_getElem? (i := 25) rfl))) (ty := .byte) (by decide)).ext (exW E8 Wr9 g8)) ((D7 (Or.inr (hw _ (List.mem_of_getElem? (i := 24) rfl))) (ty := (.array .byte)) (by decide)).ext (exW E8 Wr9 g8))) (fun y hy => by cases List.mem_singleton.mp hy; exact ⟨(A7.ext (exW E8 Wr9 g8)).lt, (C9.safe (A7.ext E8).lt (C8.safe A7.lt S7))⟩) rfl (hw _ (List.mem_of_getElem? (i := 12) rfl)) (hw _ (List.mem_of_getElem? (i := 13) rfl)) (hw _ (List.mem_of_getElem? (i := 10) rfl)) (hw _ (List.mem_of_getElem? (i := 14) rfl)) (by decide) (na := 1) rfl (by decide +kernel) rfl (stk := [(.ref a8), (.ref a7), (.ref a7)]) rfl (by decide +kernel) (V := 1) (lb rfl) (lb rfl) (lb rfl) (lb rfl) (lb rfl)
    refine oLift st10 ?_
    show OG _ _ _ _ _ _ _ _ _ _ _ (mkF m 76 #[.val (.int i), .val (.int f), .val (.int ((XT.ushr i (24 : Int32)) &&& (3 : Int32))), .val (.int ((i &&& (255 : Int32)).toUInt32.toUInt16.toUInt32.toInt32)), .val (.int (((XT.ushr i (8 : Int32)) &&& (255 : Int32)).toUInt32.toUInt16.toUInt32.toInt32)), .val (.int (((XT.ushr i (16 : Int32)) &&& (255 : Int32)).toUInt32.toUInt16.toUInt32.toInt32))] [(.ref a7)])
    exact oRetA rfl W10 rfl rfl (by decide +kernel) (lb rfl) (lb rfl) (fun vm' hv => ⟨⟨_, rfl, rfl⟩, (exK (exT E7 (exW E8 Wr9 g8)) K10 (fun y hy => by cases List.mem_singleton.mp hy; exact g7))⟩)
  refine oIcT W0 (cd := .ne) (o := 18) (by decide +kernel) (XT.ii_ne_t hc6) (pc' := 77) (by decide) (by decide) ?_
  refine oGo W0 [.iload_n 2, .iconst 2] (by decide +kernel) (ls' := #[.val (.int i), .val (.int f), .val (.int ((XT.ushr i (24 : Int32)) &&& (3 : Int32))), .val (.int ((i &&& (255 : Int32)).toUInt32.toUInt16.toUInt32.toInt32)), .val (.int (((XT.ushr i (8 : Int32)) &&& (255 : Int32)).toUInt32.toUInt16.toUInt32.toInt32)), .val (.int (((XT.ushr i (16 : Int32)) &&& (255 : Int32)).toUInt32.toUInt16.toUInt32.toInt32))]) (st' := [(.int (2 : Int32)), (.int ((XT.ushr i (24 : Int32)) &&& (3 : Int32)))]) rfl rfl (pc' := 79) rfl ?_
  by_cases hc11 : ((XT.ushr i (24 : Int32)) &&& (3 : Int32)) = (2 : Int32)
  · refine oIcF W0 (cd := .ne) (o := 23) (by decide +kernel) (XT.ii_ne_f hc11) (pc' := 82) rfl ?_
    obtain ⟨T12, h12, a12, W12, g12, E12, A12, D12, S12, C12, st12⟩ := oNew W0 (pc := 82) (ls := #[.val (.int i), .val (.int f), .val (.int ((XT.ushr i (24 : Int32)) &&& (3 : Int32))), .val (.int ((i &&& (255 : Int32)).toUInt32.toUInt16.toUInt32.toInt32)), .val (.int (((XT.ushr i (8 : Int32)) &&& (255 : Int32)).toUInt32.toUInt16.toUInt32.toInt32)), .val (.int (((XT.ushr i (16 : Int32)) &&& (255 : Int32)).toUInt32.toUInt16.toUInt32.toInt32))]) (st := []) (hw _ (List.mem_of_getElem? (i := 8) rfl)) (hw _ (List.mem_of_getElem? (i := 9) rfl)) (hw _ (List.mem_of_getElem? (i := 10) rfl)) (by decide +kernel) (lb rfl) (lb rfl)
    refine oLift st12 ?_
    refine oGo W12 [.dup, .iconst 2] (by decide +kernel) (ls' := #[.val (.int i), .val (.int f), .val (.int ((XT.ushr i (24 : Int32)) &&& (3 : Int32))), .val (.int ((i &&& (255 : Int32)).toUInt32.toUInt16.toUInt32.toInt32)), .val (.int (((XT.ushr i (8 : Int32)) &&& (255 : Int32)).toUInt32.toUInt16.toUInt32.toInt32)), .val (.int (((XT.ushr i (16 : Int32)) &&& (255 : Int32)).toUInt32.toUInt16.toUInt32.toInt32))]) (st' := [(.int (2 : Int32)), (.ref a12), (.ref a12)]) rfl rfl (pc' := 87) rfl ?_
    obtain ⟨T13, h13, a13, k13, W13, g13, E13, A13, S13, C13, st13⟩ := oNewA W12 (aty := .char) (pc := 87) (ls := #[.val (.int i), .val (.int f), .val (.int ((XT.ushr i (24 : Int32)) &&& (3 : Int32))), .val (.int ((i &&& (255 : Int32)).toUInt32.toUInt16.toUInt32.toInt32)), .val (.int (((XT.ushr i (8 : Int32)) &&& (255 : Int32)).toUInt32.toUInt16.toUInt32.toInt32)), .val (.int (((XT.ushr i (16 : Int32)) &&& (255 : Int32)).toUInt32.toUInt16.toUInt32.toInt32))]) (st := [(.ref a12), (.ref a12)]) (hw _ (List.mem_of_getElem? (i := 11) rfl)) (by decide +kernel) (n := (2 : Int32)) (by decide) (cap := 2) (lb rfl) (lb rfl) (lb rfl) (lb rfl)
    refine oLift st13 ?_
    have A13 : OA Z h13 a13 k13 .char [.int 0, .int 0] := A13
    refine oGo W13 [.dup, .iconst 0, .iload_n 3] (by decide +kernel) (ls' := #[.val (.int i), .val (.int f), .val (.int ((XT.ushr i (24 : Int32)) &&& (3 : Int32))), .val (.int ((i &&& (255 : Int32)).toUInt32.toUInt16.toUInt32.toInt32)), .val (.int (((XT.ushr i (8 : Int32)) &&& (255 : Int32)).toUInt32.toUInt16.toUInt32.toInt32)), .val (.int (((XT.ushr i (16 : Int32)) &&& (255 : Int32)).toUInt32.toUInt16.toUInt32.toInt32))]) (st' := [(.int ((i &&& (255 : Int32)).toUInt32.toUInt16.toUInt32.toInt32)), (.int (0 : Int32)), (.ref a13), (.ref a13), (.ref a12), (.ref a12)]) rfl rfl (pc' := 92) rfl ?_
    obtain ⟨T14, h14, W14, Wr14, A14, C14, st14⟩ := oPut W13 A13 (j := (0 : Int32)) (x := ((i &&& (255 : Int32)).toUInt32.toUInt16.toUInt32.toInt32)) (x' := (i &&& (255 : Int32))) (pc := 92) (ls := #[.val (.int i), .val (.int f), .val (.int ((XT.ushr i (24 : Int32)) &&& (3 : Int32))), .val (.int ((i &&& (255 : Int32)).toUInt32.toUInt16.toUInt32.toInt32)), .val (.int (((XT.ushr i (8 : Int32)) &&& (255 : Int32)).toUInt32.toUInt16.toUInt32.toInt32)), .val (.int (((XT.ushr i (16 : Int32)) &&& (255 : Int32)).toUInt32.toUInt16.toUInt32.toInt32))]) (st := [(.ref a13), (.ref a12), (.ref a12)]) (by decide) (i := 0) (by decide) (by simp) (Nat.le_trans W12.ext.1 g13) (A13.safe W13.warm.alike (by decide)) (ins := .castore) (Or.inl ⟨rfl, rfl, (by rw [i2c_255]; exact own_nar255 _)⟩) (by decide +kernel)
    refine oLift st14 ?_
    have A14 : OA Z h14 a13 k13 .char [.int (i &&& (255 : Int32)), .int 0] := A14
    refine oGo W14 [.dup, .iconst 1, .iload 4] (by decide +kernel) (ls' := #[.val (.int i), .val (.int f), .val (.int ((XT.ushr i (24 : Int32)) &&& (3 : Int32))), .val (.int ((i &&& (255 : Int32)).toUInt32.toUInt16.toUInt32.toInt32)), .val (.int (((XT.ushr i (8 : Int32)) &&& (255 : Int32)).toUInt32.toUInt16.toUInt32.toInt32)), .val (.int (((XT.ushr i (16 : Int32)) &&& (255 : Int32)).toUInt32.toUInt16.toUInt32.toInt32))]) (st' := [(.int (((XT.ushr i (8 : Int32)) &&& (255 : Int32)).toUInt32.toUInt16.toUInt32.toInt32)), (.int (1 : Int32)), (.ref a13), (.ref a13), (.ref a12), (.ref a12)]) rfl rfl (pc' := 97) rfl ?_
    obtain ⟨T15, h15, W15, Wr15, A15, C15, st15⟩ := oPut W14 A14 (j := (1 : Int32)) (x := (((XT.ushr i (8 : Int32)) &&& (255 : Int32)).toUInt32.toUInt16.toUInt32.toInt32)) (x' := (XT.ushr i (8 : Int32) &&& (255 : Int32))) (pc := 97) (ls := #[.val (.int i), .val (.int f), .val (.int ((XT.ushr i (24 : Int32)) &&& (3 : Int32))), .val (.int ((i &&& (255 : Int32)).toUInt32.toUInt16.toUInt32.toInt32)), .val (.int (((XT.ushr i (8 : Int32)) &&& (255 : Int32)).toUInt32.toUInt16.toUInt32.toInt32)), .val (.int (((XT.ushr i (16 : Int32)) &&& (255 : Int32)).toUInt32.toUInt16.toUInt32.toInt32))]) (st := [(.ref a13), (.ref a12), (.ref a12)]) (by decide) (i := 1) (by decide) (by simp) (Nat.le_trans W12.ext.1 g13) (A14.safe W14.warm.alike (by decide)) (ins := .castore) (Or.inl ⟨rfl, rfl, (by rw [i2c_255]; exact own_nar255 _)⟩) (by decide +kernel)
    refine oLift st15 ?_
    have A15 : OA Z h15 a13 k13 .char [.int (i &&& (255 : Int32)), .int (XT.ushr i (8 : Int32) &&& (255 : Int32))] := A15
    obtain ⟨v16, T16, L16, h16, vm16, W16, ⟨rfl, K16, F16⟩, C16, st16⟩ := oCallN W15 (idx := 70) (pc := 98) (ls := #[.val (.int i), .val (.int f), .val (.int ((XT.ushr i (24 : Int32)) &&& (3 : Int32))), .val (.int ((i &&& (255 : Int32)).toUInt32.toUInt16.toUInt32.toInt32)), .val (.int (((XT.ushr i (8 : Int32)) &&& (255 : Int32)).toUInt32.toUInt16.toUInt32.toInt32)), .val (.int (((XT.ushr i (16 : Int32)) &&& (255 : Int32)).toUInt32.toUInt16.toUInt32.toInt32))]) (st := [(.ref a12)]) (a := a12) (argsL := [(.ref a13)]) (k_I1 K.2.1 [(i &&& (255 : Int32)), (XT.ushr i (8 : Int32) &&& (255 : Int32))] (lb rfl) (lb rfl) A15 (own_all2 (m255 _) (m255 _)) (Nat.le_trans W0.ext.1 g12) (A12.ext (exW (exW E13 Wr14 g13) Wr15 g13)) ((D12 (Or.inr (hw _ (List.mem_of_getElem? (i := 25) rfl))) (ty := .byte) (by decide)).ext (exW (exW E13 Wr14 g13) Wr15 g13)) ((D12 (Or.inr (hw _ (List.mem_of_getElem? (i := 24) rfl))) (ty := (.array .byte)) (by decide)).ext (exW (exW E13 Wr14 g13) Wr15 g13))) (fun y hy => by cases List.mem_singleton.mp hy; exact ⟨(A12.ext (exW (exW E13 Wr14 g13) Wr15 g13)).lt, (C15.safe (A12.ext (exW E13 Wr14 g13)).lt (C14.safe (A12.ext E13).lt (C13.safe A12.lt S12)))⟩) rfl (hw _ (List.mem_of_getElem? (i := 12) rfl)) (hw _ (List.mem_of_getElem? (i := 13) rfl)) (hw _ (List.mem_of_getElem? (i := 10) rfl)) (hw _ (List.mem_of_getElem? (i := 14) rfl)) (by decide) (na := 1) rfl (by decide +kernel) rfl (stk := [(.ref a13), (.ref a12), (.ref a12)]) rfl (by decide +kernel) (V := 1) (lb rfl) (lb rfl) (lb rfl) (lb rfl) (lb rfl)
    refine oLift st16 ?_
    show OG _ _ _ _ _ _ _ _ _ _ _ (mkF m 101 #[.val (.int i), .val (.int f), .val (.int ((XT.ushr i (24 : Int32)) &&& (3 : Int32))), .val (.int ((i &&& (255 : Int32)).toUInt32.toUInt16.toUInt32.toInt32)), .val (.int (((XT.ushr i (8 : Int32)) &&& (255 : Int32)).toUInt32.toUInt16.toUInt32.toInt32)), .val (.int (((XT.ushr i (16 : Int32)) &&& (255 : Int32)).toUInt32.toUInt16.toUInt32.toInt32))] [(.ref a12)])
    exact oRetA rfl W16 rfl rfl (by decide +kernel) (lb rfl) (lb rfl) (fun vm' hv => ⟨⟨_, rfl, rfl⟩, (exK (exT E12 (exW (exW E13 Wr14 g13) Wr15 g13)) K16 (fun y hy => by cases List.mem_singleton.mp hy; exact g12))⟩)
  refine oIcT W0 (cd := .ne) (o := 23) (by decide +kernel) (XT.ii_ne_t hc11) (pc' := 102) (by decide) (by decide) ?_
  obtain ⟨T17, h17, a17, W17, g17, E17, A17, D17, S17, C17, st17⟩ := oNew W0 (pc := 102) (ls := #[.val (.int i), .val (.int f), .val (.int ((XT.ushr i (24 : Int32)) &&& (3 : Int32))), .val (.int ((i &&& (255 : Int32)).toUInt32.toUInt16.toUInt32.toInt32)), .val (.int (((XT.ushr i (8 : Int32)) &&& (255 : Int32)).toUInt32.toUInt16.toUInt32.toInt32)), .val (.int (((XT.ushr i (16 : Int32)) &&& (255 : Int32)).toUInt32.toUInt16.toUInt32.toInt32))]) (st := []) (hw _ (List.mem_of_getElem? (i := 8) rfl)) (hw _ (List.mem_of_getElem? (i := 9) rfl)) (hw _ (List.mem_of_getElem? (i := 10) rfl)) (by decide +kernel) (lb rfl) (lb rfl)
  refine oLift st17 ?_
  refine oGo W17 [.dup, .iconst 3] (by decide +kernel) (ls' := #[.val (.int i), .val (.int f), .val (.int ((XT.ushr i (24 : Int32)) &&& (3 : Int32))), .val (.int ((i &&& (255 : Int32)).toUInt32.toUInt16.toUInt32.toInt32)), .val (.int (((XT.ushr i (8 : Int32)) &&& (255 : Int32)).toUInt32.toUInt16.toUInt32.toInt32)), .val (.int (((XT.ushr i (16 : Int32)) &&& (255 : Int32)).toUInt32.toUInt16.toUInt32.toInt32))]) (st' := [(.int (3 : Int32)), (.ref a17), (.ref a17)]) rfl rfl (pc' := 107) rfl ?_
  obtain ⟨T18, h18, a18, k18, W18, g18, E18, A18, S18, C18, st18⟩ := oNewA W17 (aty := .char) (pc := 107) (ls := #[.val (.int i), .val (.int f), .val (.int ((XT.ushr i (24 : Int32)) &&& (3 : Int32))), .val (.int ((i &&& (255 : Int32)).toUInt32.toUInt16.toUInt32.toInt32)), .val (.int (((XT.ushr i (8 : Int32)) &&& (255 : Int32)).toUInt32.toUInt16.toUInt32.toInt32)), .val (.int (((XT.ushr i (16 : Int32)) &&& (255 : Int32)).toUInt32.toUInt16.toUInt32.toInt32))]) (st := [(.ref a17), (.ref a17)]) (hw _ (List.mem_of_getElem? (i := 11) rfl)) (by decide +kernel) (n := (3 : Int32)) (by decide) (cap := 3) (lb rfl) (lb rfl) (lb rfl) (lb rfl)
  refine oLift st18 ?_
  have A18 : OA Z h18 a18 k18 .char [.int 0, .int 0, .int 0] := A18
  refine oGo W18 [.dup, .iconst 0, .iload_n 3] (by decide +kernel) (ls' := #[.val (.int i), .val (.int f), .val (.int ((XT.ushr i (24 : Int32)) &&& (3 : Int32))), .val (.int ((i &&& (255 : Int32)).toUInt32.toUInt16.toUInt32.toInt32)), .val (.int (((XT.ushr i (8 : Int32)) &&& (255 : Int32)).toUInt32.toUInt16.toUInt32.toInt32)), .val (.int (((XT.ushr i (16 : Int32)) &&& (255 : Int32)).toUInt32.toUInt16.toUInt32.toInt32))]) (st' := [(.int ((i &&& (255 : Int32)).toUInt32.toUInt16.toUInt32.toInt32)), (.int (0 : Int32)), (.ref a18), (.ref a18), (.ref a17), (.ref a17)]) rfl rfl (pc' := 112) rfl ?_
  obtain ⟨T19, h19, W19, Wr19, A19, C19, st19⟩ := oPut W18 A18 (j := (0 : Int32)) (x := ((i &&& (255 : Int32)).toUInt32.toUInt16.toUInt32.toInt32)) (x' := (i &&& (255 : Int32))) (pc := 112) (ls := #[.val (.int i), .val (.int f), .val (.int ((XT.ushr i (24 : Int32)) &&& (3 : Int32))), .val (.int ((i &&& (255 : Int32)).toUInt32.toUInt16.toUInt32.toInt32)), .val (.int (((XT.ushr i (8 : Int32)) &&& (255 : Int32)).toUInt32.toUInt16.toUInt32.toInt32)), .val (.int (((XT.ushr i (16 : Int32)) &&& (255 : Int32)).toUInt32.toUInt16.toUInt32.toInt32))]) (st := [(.ref a18), (.ref a17), (.ref a17)]) (by decide) (i := 0) (by decide) (by simp) (Nat.le_trans W17.ext.1 g18) (A18.safe W18.warm.alike (by decide)) (ins := .castore) (Or.inl ⟨rfl, rfl, (by rw [i2c_255]; exact own_nar255 _)⟩) (by decide +kernel)
  refine oLift st19 ?_
  have A19 : OA Z h19 a18 k18 .char [.int (i &&& (255 : Int32)), .int 0, .int 0] := A19
  refine oGo W19 [.dup, .iconst 1, .iload 4] (by decide +kernel) (ls' := #[.val (.int i), .val (.int f), .val (.int ((XT.ushr i (24 : Int32)) &&& (3 : Int32))), .val (.int ((i &&& (255 : Int32)).toUInt32.toUInt16.toUInt32.toInt32)), .val (.int (((XT.ushr i (8 : Int32)) &&& (255 : Int32)).toUInt32.toUInt16.toUInt32.toInt32)), .val (.int (((XT.ushr i (16 : Int32)) &&& (255 : Int32)).toUInt32.toUInt16.toUInt32.toInt32))]) (st' := [(.int (((XT.ushr i (8 : Int32)) &&& (255 : Int32)).toUInt32.toUInt16.toUInt32.toInt32)), (.int (1 : Int32)), (.ref a18), (.ref a18), (.ref a17), (.ref a17)]) rfl rfl (pc' := 117) rfl ?_
  obtain ⟨T20, h20, W20, Wr20, A20, C20, st20⟩ := oPut W19 A19 (j := (1 : Int32)) (x := (((XT.ushr i (8 : Int32)) &&& (255 : Int32)).toUInt32.toUInt16.toUInt32.toInt32)) (x' := (XT.ushr i (8 : Int32) &&& (255 : Int32))) (pc := 117) (ls := #[.val (.int i), .val (.int f), .val (.int ((XT.ushr i (24 : Int32)) &&& (3 : Int32))), .val (.int ((i &&& (255 : Int32)).toUInt32.toUInt16.toUInt32.toInt32)), .val (.int (((XT.ushr i (8 : Int32)) &&& (255 : Int32)).toUInt32.toUInt16.toUInt32.toInt32)), .val (.int (((XT.ushr i (16 : Int32)) &&& (255 : Int32)).toUInt32.toUInt16.toUInt32.toInt32))]) (st := [(.ref a18), (.ref a17), (.ref a17)]) (by decide) (i := 1) (by decide) (by simp) (Nat.le_trans W17.ext.1 g18) (A19.safe W19.warm.alike (by decide)) (ins := .castore) (Or.inl ⟨rfl, rfl, (by rw [i2c_255]; exact own_nar255 _)⟩) (by decide +kernel)
  refine oLift st20 ?_
  have A20 : OA Z h20 a18 k18 .char [.int (i &&& (255 : Int32)), .int (XT.ushr i (8 : Int32) &&& (255 : Int32)), .int 0] := A20
  refine oGo W20 [.dup, .iconst 2, .iload 5] (by decide +kernel) (ls' := #[.val (.int i), .val (.int f), .val (.int ((XT.ushr i (24 : Int32)) &&& (3 : Int32))), .val (.int ((i &&& (255 : Int32)).toUInt32.toUInt16.toUInt32.toInt32)), .val (.int (((XT.ushr i (8 : Int32)) &&& (255 : Int32)).toUInt32.toUInt16.toUInt32.toInt32)), .val (.int (((XT.ushr i (16 : Int32)) &&& (255 : Int32)).toUInt32.toUInt16.toUInt32.toInt32))]) (st' := [(.int (((XT.ushr i (16 : Int32)) &&& (255 : Int32)).toUInt32.toUInt16.toUInt32.toInt32)), (.int (2 : Int32)), (.ref a18), (.ref a18), (.ref a17), (.ref a17)]) rfl rfl (pc' := 122) rfl ?_
  obtain ⟨T21, h21, W21, Wr21, A21, C21, st21⟩ := oPut W20 A20 (j := (2 : Int32)) (x := (((XT.ushr i (16 : Int32)) &&& (255 : Int32)).toUInt32.toUInt16.toUInt32.toInt32)) (x' := (XT.ushr i (16 : Int32) &&& (255 : Int32))) (pc := 122) (ls := #[.val (.int i), .val (.int f), .val (.int ((XT.ushr i (24 : Int32)) &&& (3 : Int32))), .val (.int ((i &&& (255 : Int32)).toUInt32.toUInt16.toUInt32.toInt32)), .val (.int (((XT.ushr i (8 : Int32)) &&& (255 : Int32)).toUInt32.toUInt16.toUInt32.toInt32)), .val (.int (((XT.ushr i (16 : Int32)) &&& (255 : Int32)).toUInt32.toUInt16.toUInt32.toInt32))]) (st := [(.ref a18), (.ref a17), (.ref a17)]) (by decide) (i := 2) (by decide) (by simp) (Nat.le_trans W17.ext.1 g18) (A20.safe W20.warm.alike (by decide)) (ins := .castore) (Or.inl ⟨rfl, rfl, (by rw [i2c_255]; exact own_nar255 _)⟩) (by decide +kernel)
  refine oLift st21 ?_
  have A21 : OA Z h21 a18 k18 .char [.int (i &&& (255 : Int32)), .int (XT.ushr i (8 : Int32) &&& (255 : Int32)), .int (XT.ushr i (16 : Int32) &&& (255 : Int32))] := A21
  obtain ⟨v22, T22, L22, h22, vm22, W22, ⟨rfl, K22, F22⟩, C22, st22⟩ := oCallN W21 (idx := 70) (pc := 123) (ls := #[.val (.int i), .val (.int f), .val (.int ((XT.ushr i (24 : Int32)) &&& (3 : Int32))), .val (.int ((i &&& (255 : Int32)).toUInt32.toUInt16.toUInt32.toInt32)), .val (.int (((XT.ushr i (8 : Int32)) &&& (255 : Int32)).toUInt32.toUInt16.toUInt32.toInt32)), .val (.int (((XT.ushr i (16 : Int32)) &&& (255 : Int32)).toUInt32.toUInt16.toUInt32.toInt32))]) (st := [(.ref a17)]) (a := a17) (argsL := [(.ref a18)]) (k_I1 K.2.1 [(i &&& (255 : Int32)), (XT.ushr i (8 : Int32) &&& (255 : Int32)), (XT.ushr i (16 : Int32) &&& (255 : Int32))] (lb rfl) (lb rfl) A21 (own_all3 (m255 _) (m255 _) (m255 _)) (Nat.le_trans W0.ext.1 g17) (A17.ext (exW (exW (exW E18 Wr19 g18) Wr20 g18) Wr21 g18)) ((D17 (Or.inr (hw _ (List.mem_of_getElem? (i := 25) rfl))) (ty := .byte) (by decide)).ext (exW (exW (exW E18 Wr19 g18) Wr20 g18) Wr21 g18)) ((D17 (Or.inr (hw _ (List.mem_of_getElem? (i := 24) rfl))) (ty := (.array .byte)) (by decide)).ext (exW (exW (exW E18 Wr19 g18) Wr20 g18) Wr21 g18))) (fun y hy => by cases List.mem_singleton.mp hy; exact ⟨(A17.ext (exW (exW (exW E18 Wr19 g18) Wr20 g18) Wr21 g18)).lt, (C21.safe (A17.ext (exW (exW E18 Wr19 g18) Wr20 g18)).lt (C20.safe (A17.ext (exW E18 Wr19 g18)).lt (C19.safe (A17.ext E18).lt (C18.safe A17.lt S17))))⟩) rfl (hw _ (List.mem_of_getElem? (i := 12) rfl)) (hw _ (List.mem_of_getElem? (i := 13) rfl)) (hw _ (List.mem_of_getElem? (i := 10) rfl)) (hw _ (List.mem_of_getElem? (i := 14) rfl)) (by decide) (na := 1) rfl (by decide +kernel) rfl (stk := [(.ref a18), (.ref a17), (.ref a17)]) rfl (by decide +kernel) (V := 1) (lb rfl) (lb rfl) (lb rfl) (lb rfl) (lb rfl)
  refine oLift st22 ?_
  show OG _ _ _ _ _ _ _ _ _ _ _ (mkF m 126 #[.val (.int i), .val (.int f), .val (.int ((XT.ushr i (24 : Int32)) &&& (3 : Int32))), .val (.int ((i &&& (255 : Int32)).toUInt32.toUInt16.toUInt32.toInt32)), .val (.int (((XT.ushr i (8 : Int32)) &&& (255 : Int32)).toUInt32.toUInt16.toUInt32.toInt32)), .val (.int (((XT.ushr i (16 : Int32)) &&& (255 : Int32)).toUInt32.toUInt16.toUInt32.toInt32))] [(.ref a17)])
  exact oRetA rfl W22 rfl rfl (by decide +kernel) (lb rfl) (lb rfl) (fun vm' hv => ⟨⟨_, rfl, rfl⟩, (exK (exT E17 (exW (exW (exW E18 Wr19 g18) Wr20 g18) Wr21 g18)) K22 (fun y hy => by cases List.mem_singleton.mp hy; exact g17))⟩)
abbrev rm_c_rec : Room := { frames := 1, cells := 0, slots := 0, locals := 12 }
set_option maxRecDepth 65536 in
set_option maxHeartbeats 40000000 in
theorem c_rec {l : Launch} {Z : State} {a0 : Array Value} {nb : Bool} (K : Ctx Z a0) {a : Addr} {h0 : Heap} :
    OC l Z EL nb [] (⟨"java/lang/Record", "<init>", "()V"⟩ : MethodName) jdk_30_method_1_code 1 none rm_c_rec #[(.ref a)] h0 [] (fun v _ h => v = none ∧ h = h0) := by
  have hw := K.1
  have hS : ∀ a ∈ Bundle.stringAtoms, a.before a0 Z = true := K.2.2.1
  refine oEnter (by decide +kernel) K.2.1.2.1 ?_
  intro _p _e _s m _below _meth _c T0 W0 S0
  refine oEq (g' := mkF m 0 #[.val (.ref a)] []) (by first | (simp [entryFrame, mkF, argsToLocals, Value.category]; done) | rfl) ?_
  refine oGo W0 [.aload_n 0] (by decide +kernel) (ls' := #[.val (.ref a)]) (st' := [(.ref a)]) rfl rfl (pc' := 1) rfl ?_
  obtain ⟨T1, W1, st1⟩ := oInit W0 (idx := 1) (pc := 1) (ls := #[.val (.ref a)]) (st := []) (a := a) (hw _ (List.mem_of_getElem? (i := 41) rfl)) (hw _ (List.mem_of_getElem? (i := 20) rfl)) (hw _ (List.mem_of_getElem? (i := 21) rfl)) rfl (by decide +kernel) (lb rfl) (V := 0) (lb rfl) (lb rfl)
  refine oLift st1 ?_
  exact oRet0 W1 (by decide +kernel) (lb rfl) (lb rfl) (fun vm' hv => ⟨rfl, rfl⟩)
abbrev rm_c_init : Room := { frames := 2, cells := 0, slots := 0, locals := 24 }
set_option maxRecDepth 65536 in
set_option maxHeartbeats 40000000 in
theorem c_init {l : Launch} {Z : State} {a0 : Array Value} {nb : Bool} (K : Ctx Z a0) {a : Addr} {r d i u j t : Value} {h0 : Heap} (h_r : r.isRef = true) (h_d : d.isRef = true) (h_i : i.isRef = true) (h_u : u.isRef = true) (h_j : j.isRef = true) (h_t : t.isRef = true) (hfr : Z.heap.size ≤ a) (X : Exa Z h0 a "attestant/service/PostDecision") (Fb0 : Fld Z h0 a "attestant/service/PostDecision" "reason" "Lattestant/service/Reason;" .null) (Fb1 : Fld Z h0 a "attestant/service/PostDecision" "detail" "Ljava/lang/String;" .null) (Fb2 : Fld Z h0 a "attestant/service/PostDecision" "issuer" "Ljava/lang/String;" .null) (Fb3 : Fld Z h0 a "attestant/service/PostDecision" "subject" "Ljava/lang/String;" .null) (Fb4 : Fld Z h0 a "attestant/service/PostDecision" "assertionId" "Ljava/lang/String;" .null) (Fb5 : Fld Z h0 a "attestant/service/PostDecision" "target" "Ljava/lang/String;" .null) :
    OC l Z EL nb [] (⟨"attestant/service/PostDecision", "<init>", "(Lattestant/service/Reason;Ljava/lang/String;Ljava/lang/String;Ljava/lang/String;Ljava/lang/String;Ljava/lang/String;)V"⟩ : MethodName) prog_65_method_1_code 7 none rm_c_init #[(.ref a), r, d, i, u, j, t] h0 [] (fun v _ h => v = none ∧ Keep h0 h [a] ∧ Exa Z h a "attestant/service/PostDecision" ∧ Fld Z h a "attestant/service/PostDecision" "reason" "Lattestant/service/Reason;" r) := by
  have hw := K.1
  have hS : ∀ a ∈ Bundle.stringAtoms, a.before a0 Z = true := K.2.2.1
  refine oEnter (by decide +kernel) K.2.1.2.1 ?_
  intro _p _e _s m _below _meth _c T0 W0 S0
  refine oEq (g' := mkF m 0 #[.val (.ref a), .val r, .val d, .val i, .val u, .val j, .val t] []) ((own_ef (vs := [(.ref a), r, d, i, u, j, t]) (List.forall_mem_cons.mpr ⟨rfl, (List.forall_mem_cons.mpr ⟨refCat h_r, (List.forall_mem_cons.mpr ⟨refCat h_d, (List.forall_mem_cons.mpr ⟨refCat h_i, (List.forall_mem_cons.mpr ⟨refCat h_u, (List.forall_mem_cons.mpr ⟨refCat h_j, (List.forall_mem_cons.mpr ⟨refCat h_t, (fun _ h => nomatch h)⟩)⟩)⟩)⟩)⟩)⟩)⟩)).trans rfl) ?_
  refine oGo W0 [.aload_n 0] (by decide +kernel) (ls' := #[.val (.ref a), .val r, .val d, .val i, .val u, .val j, .val t]) (st' := [(.ref a)]) rfl rfl (pc' := 1) rfl ?_
  obtain ⟨v1, T1, L1, h1, vm1, W1, ⟨rfl, e1⟩, C1, st1⟩ := oCallN W0 (idx := 1) (pc := 1) (ls := #[.val (.ref a), .val r, .val d, .val i, .val u, .val j, .val t]) (st := []) (a := a) (argsL := []) (c_rec K) (fun x hx => nomatch hx) rfl (hw _ (List.mem_of_getElem? (i := 36) rfl)) (hw _ (List.mem_of_getElem? (i := 37) rfl)) (hw _ (List.mem_of_getElem? (i := 39) rfl)) (hw _ (List.mem_of_getElem? (i := 40) rfl)) (by decide) (na := 0) rfl (by decide +kernel) rfl (stk := [(.ref a)]) rfl (by decide +kernel) (V := 0) (lb rfl) (lb rfl) (lb rfl) (lb rfl) (lb rfl)
  refine oLift st1 ?_
  rw [e1] at W1 C1
  show OG _ _ _ _ _ _ _ _ _ _ _ (mkF m 4 #[.val (.ref a), .val r, .val d, .val i, .val u, .val j, .val t] [])
  refine oGo W1 [.aload_n 0, .aload_n 1] (by decide +kernel) (ls' := #[.val (.ref a), .val r, .val d, .val i, .val u, .val j, .val t]) (st' := [r, (.ref a)]) rfl (by simp [oOne, own_isR, own_isN, own_caR, own_caN, own_caI, h_r, refCat h_r]) (pc' := 6) rfl ?_
  obtain ⟨T2, h2, W2, Wr2, F2, X2, C2, st2⟩ := oPutF W1 (idx := 7) (pc := 6) (ls := #[.val (.ref a), .val r, .val d, .val i, .val u, .val j, .val t]) (st := []) (v := r) (hw _ (List.mem_of_getElem? (i := 42) rfl)) Via.refl Fb0 X (Or.inr ⟨(hw _ (List.mem_of_getElem? (i := 43) rfl)), rfl, rfl⟩) (hw _ (List.mem_of_getElem? (i := 31) rfl)) (ty := (.object "attestant/service/Reason")) (by decide) (refNar h_r _) (refFits h_r _) hfr (Safe.exa W1.warm.alike X (by decide) (by decide)) (by decide +kernel)
  refine oLift st2 ?_
  refine oGo W2 [.aload_n 0, .aload_n 2] (by decide +kernel) (ls' := #[.val (.ref a), .val r, .val d, .val i, .val u, .val j, .val t]) (st' := [d, (.ref a)]) rfl (by simp [oOne, own_isR, own_isN, own_caR, own_caN, own_caI, h_d, refCat h_d]) (pc' := 11) rfl ?_
  obtain ⟨T3, h3, W3, Wr3, F3, X3, C3, st3⟩ := oPutF W2 (idx := 13) (pc := 11) (ls := #[.val (.ref a), .val r, .val d, .val i, .val u, .val j, .val t]) (st := []) (v := d) (hw _ (List.mem_of_getElem? (i := 44) rfl)) Via.refl (Fb1.other Wr2 (Or.inr (slot_ne (a0 := a0) (C := "attestant/service/PostDecision") (Or.inr (hw _ (List.mem_of_getElem? (i := 45) rfl))) (Or.inr (hw _ (List.mem_of_getElem? (i := 43) rfl))) (by decide) (t := (.object "java/lang/String")) (t' := (.object "attestant/service/Reason")) (by decide) (by decide)))) X2 (Or.inr ⟨(hw _ (List.mem_of_getElem? (i := 45) rfl)), rfl, rfl⟩) (hw _ (List.mem_of_getElem? (i := 31) rfl)) (ty := (.object "java/lang/String")) (by decide) (refNar h_d _) (refFits h_d _) hfr (Safe.exa W2.warm.alike X2 (by decide) (by decide)) (by decide +kernel)
  refine oLift st3 ?_
  refine oGo W3 [.aload_n 0, .aload_n 3] (by decide +kernel) (ls' := #[.val (.ref a), .val r, .val d, .val i, .val u, .val j, .val t]) (st' := [i, (.ref a)]) rfl (by simp [oOne, own_isR, own_isN, own_caR, own_caN, own_caI, h_i, refCat h_i]) (pc' := 16) rfl ?_
  obtain ⟨T4, h4, W4, Wr4, F4, X4, C4, st4⟩ := oPutF W3 (idx := 17) (pc := 16) (ls := #[.val (.ref a), .val r, .val d, .val i, .val u, .val j, .val t]) (st := []) (v := i) (hw _ (List.mem_of_getElem? (i := 46) rfl)) Via.refl ((Fb2.other Wr2 (Or.inr (slot_ne (a0 := a0) (C := "attestant/service/PostDecision") (Or.inr (hw _ (List.mem_of_getElem? (i := 47) rfl))) (Or.inr (hw _ (List.mem_of_getElem? (i := 43) rfl))) (by decide) (t := (.object "java/lang/String")) (t' := (.object "attestant/service/Reason")) (by decide) (by decide)))).other Wr3 (Or.inr (slot_ne (a0 := a0) (C := "attestant/service/PostDecision") (Or.inr (hw _ (List.mem_of_getElem? (i := 47) rfl))) (Or.inr (hw _ (List.mem_of_getElem? (i := 45) rfl))) (by decide) (t := (.object "java/lang/String")) (t' := (.object "java/lang/String")) (by decide) (by decide)))) X3 (Or.inr ⟨(hw _ (List.mem_of_getElem? (i := 47) rfl)), rfl, rfl⟩) (hw _ (List.mem_of_getElem? (i := 31) rfl)) (ty := (.object "java/lang/String")) (by decide) (refNar h_i _) (refFits h_i _) hfr (Safe.exa W3.warm.alike X3 (by decide) (by decide)) (by decide +kernel)
  refine oLift st4 ?_
  refine oGo W4 [.aload_n 0, .aload 4] (by decide +kernel) (ls' := #[.val (.ref a), .val r, .val d, .val i, .val u, .val j, .val t]) (st' := [u, (.ref a)]) rfl (by simp [oOne, own_isR, own_isN, own_caR, own_caN, own_caI, h_u, refCat h_u]) (pc' := 22) rfl ?_
  obtain ⟨T5, h5, W5, Wr5, F5, X5, C5, st5⟩ := oPutF W4 (idx := 20) (pc := 22) (ls := #[.val (.ref a), .val r, .val d, .val i, .val u, .val j, .val t]) (st := []) (v := u) (hw _ (List.mem_of_getElem? (i := 48) rfl)) Via.refl (((Fb3.other Wr2 (Or.inr (slot_ne (a0 := a0) (C := "attestant/service/PostDecision") (Or.inr (hw _ (List.mem_of_getElem? (i := 49) rfl))) (Or.inr (hw _ (List.mem_of_getElem? (i := 43) rfl))) (by decide) (t := (.object "java/lang/String")) (t' := (.object "attestant/service/Reason")) (by decide) (by decide)))).other Wr3 (Or.inr (slot_ne (a0 := a0) (C := "attestant/service/PostDecision") (Or.inr (hw _ (List.mem_of_getElem? (i := 49) rfl))) (Or.inr (hw _ (List.mem_of_getElem? (i := 45) rfl))) (by decide) (t := (.object "java/lang/String")) (t' := (.object "java/lang/String")) (by decide) (by decide)))).other Wr4 (Or.inr (slot_ne (a0 := a0) (C := "attestant/service/PostDecision") (Or.inr (hw _ (List.mem_of_getElem? (i := 49) rfl))) (Or.inr (hw _ (List.mem_of_getElem? (i := 47) rfl))) (by decide) (t := (.object "java/lang/String")) (t' := (.object "java/lang/String")) (by decide) (by decide)))) X4 (Or.inr ⟨(hw _ (List.mem_of_getElem? (i := 49) rfl)), rfl, rfl⟩) (hw _ (List.mem_of_getElem? (i := 31) rfl)) (ty := (.object "java/lang/String")) (by decide) (refNar h_u _) (refFits h_u _) hfr (Safe.exa W4.warm.alike X4 (by decide) (by decide)) (by decide +kernel)
  refine oLift st5 ?_
  refine oGo W5 [.aload_n 0, .aload 5] (by decide +kernel) (ls' := #[.val (.ref a), .val r, .val d, .val i, .val u, .val j, .val t]) (st' := [j, (.ref a)]) rfl (by simp [oOne, own_isR, own_isN, own_caR, own_caN, own_caI, h_j, refCat h_j]) (pc' := 28) rfl ?_
  obtain ⟨T6, h6, W6, Wr6, F6, X6, C6, st6⟩ := oPutF W5 (idx := 23) (pc := 28) (ls := #[.val (.ref a), .val r, .val d, .val i, .val u, .val j, .val t]) (st := []) (v := j) (hw _ (List.mem_of_getElem? (i := 50) rfl)) Via.refl ((((Fb4.other Wr2 (Or.inr (slot_ne (a0 := a0) (C := "attestant/service/PostDecision") (Or.inr (hw _ (List.mem_of_getElem? (i := 51) rfl))) (Or.inr (hw _ (List.mem_of_getElem? (i := 43) rfl))) (by decide) (t := (.object "java/lang/String")) (t' := (.object "attestant/service/Reason")) (by decide) (by decide)))).other Wr3 (Or.inr (slot_ne (a0 := a0) (C := "attestant/service/PostDecision") (Or.inr (hw _ (List.mem_of_getElem? (i := 51) rfl))) (Or.inr (hw _ (List.mem_of_getElem? (i := 45) rfl))) (by decide) (t := (.object "java/lang/String")) (t' := (.object "java/lang/String")) (by decide) (by decide)))).other Wr4 (Or.inr (slot_ne (a0 := a0) (C := "attestant/service/PostDecision") (Or.inr (hw _ (List.mem_of_getElem? (i := 51) rfl))) (Or.inr (hw _ (List.mem_of_getElem? (i := 47) rfl))) (by decide) (t := (.object "java/lang/String")) (t' := (.object "java/lang/String")) (by decide) (by decide)))).other Wr5 (Or.inr (slot_ne (a0 := a0) (C := "attestant/service/PostDecision") (Or.inr (hw _ (List.mem_of_getElem? (i := 51) rfl))) (Or.inr (hw _ (List.mem_of_getElem? (i := 49) rfl))) (by decide) (t := (.object "java/lang/String")) (t' := (.object "java/lang/String")) (by decide) (by decide)))) X5 (Or.inr ⟨(hw _ (List.mem_of_getElem? (i := 51) rfl)), rfl, rfl⟩) (hw _ (List.mem_of_getElem? (i := 31) rfl)) (ty := (.object "java/lang/String")) (by decide) (refNar h_j _) (refFits h_j _) hfr (Safe.exa W5.warm.alike X5 (by decide) (by decide)) (by decide +kernel)
  refine oLift st6 ?_
  refine oGo W6 [.aload_n 0, .aload 6] (by decide +kernel) (ls' := #[.val (.ref a), .val r, .val d, .val i, .val u, .val j, .val t]) (st' := [t, (.ref a)]) rfl (by simp [oOne, own_isR, own_isN, own_caR, own_caN, own_caI, h_t, refCat h_t]) (pc' := 34) rfl ?_
  obtain ⟨T7, h7, W7, Wr7, F7, X7, C7, st7⟩ := oPutF W6 (idx := 26) (pc := 34) (ls := #[.val (.ref a), .val r, .val d, .val i, .val u, .val j, .val t]) (st := []) (v := t) (hw _ (List.mem_of_getElem? (i := 52) rfl)) Via.refl (((((Fb5.other Wr2 (Or.inr (slot_ne (a0 := a0) (C := "attestant/service/PostDecision") (Or.inr (hw _ (List.mem_of_getElem? (i := 53) rfl))) (Or.inr (hw _ (List.mem_of_getElem? (i := 43) rfl))) (by decide) (t := (.object "java/lang/String")) (t' := (.object "attestant/service/Reason")) (by decide) (by decide)))).other Wr3 (Or.inr (slot_ne (a0 := a0) (C := "attestant/service/PostDecision") (Or.inr (hw _ (List.mem_of_getElem? (i := 53) rfl))) (Or.inr (hw _ (List.mem_of_getElem? (i := 45) rfl))) (by decide) (t := (.object "java/lang/String")) (t' := (.object "java/lang/String")) (by decide) (by decide)))).other Wr4 (Or.inr (slot_ne (a0 := a0) (C := "attestant/service/PostDecision") (Or.inr (hw _ (List.mem_of_getElem? (i := 53) rfl))) (Or.inr (hw _ (List.mem_of_getElem? (i := 47) rfl))) (by decide) (t := (.object "java/lang/String")) (t' := (.object "java/lang/String")) (by decide) (by decide)))).other Wr5 (Or.inr (slot_ne (a0 := a0) (C := "attestant/service/PostDecision") (Or.inr (hw _ (List.mem_of_getElem? (i := 53) rfl))) (Or.inr (hw _ (List.mem_of_getElem? (i := 49) rfl))) (by decide) (t := (.object "java/lang/String")) (t' := (.object "java/lang/String")) (by decide) (by decide)))).other Wr6 (Or.inr (slot_ne (a0 := a0) (C := "attestant/service/PostDecision") (Or.inr (hw _ (List.mem_of_getElem? (i := 53) rfl))) (Or.inr (hw _ (List.mem_of_getElem? (i := 51) rfl))) (by decide) (t := (.object "java/lang/String")) (t' := (.object "java/lang/String")) (by decide) (by decide)))) X6 (Or.inr ⟨(hw _ (List.mem_of_getElem? (i := 53) rfl)), rfl, rfl⟩) (hw _ (List.mem_of_getElem? (i := 31) rfl)) (ty := (.object "java/lang/String")) (by decide) (refNar h_t _) (refFits h_t _) hfr (Safe.exa W6.warm.alike X6 (by decide) (by decide)) (by decide +kernel)
  refine oLift st7 ?_
  exact oRet0 W7 (by decide +kernel) (lb rfl) (lb rfl) (fun vm' hv => ⟨rfl, (((((((Keep.refl _ [a]).wr Wr2 (Or.inl (List.mem_singleton.mpr rfl))).wr Wr3 (Or.inl (List.mem_singleton.mpr rfl))).wr Wr4 (Or.inl (List.mem_singleton.mpr rfl))).wr Wr5 (Or.inl (List.mem_singleton.mpr rfl))).wr Wr6 (Or.inl (List.mem_singleton.mpr rfl))).wr Wr7 (Or.inl (List.mem_singleton.mpr rfl))), X7, (((((F2.other Wr3 (Or.inr (slot_ne (a0 := a0) (C := "attestant/service/PostDecision") (Or.inr (hw _ (List.mem_of_getElem? (i := 43) rfl))) (Or.inr (hw _ (List.mem_of_getElem? (i := 45) rfl))) (by decide) (t := (.object "attestant/service/Reason")) (t' := (.object "java/lang/String")) (by decide) (by decide)))).other Wr4 (Or.inr (slot_ne (a0 := a0) (C := "attestant/service/PostDecision") (Or.inr (hw _ (List.mem_of_getElem? (i := 43) rfl))) (Or.inr (hw _ (List.mem_of_getElem? (i := 47) rfl))) (by decide) (t := (.object "attestant/service/Reason")) (t' := (.object "java/lang/String")) (by decide) (by decide)))).other Wr5 (Or.inr (slot_ne (a0 := a0) (C := "attestant/service/PostDecision") (Or.inr (hw _ (List.mem_of_getElem? (i := 43) rfl))) (Or.inr (hw _ (List.mem_of_getElem? (i := 49) rfl))) (by decide) (t := (.object "attestant/service/Reason")) (t' := (.object "java/lang/String")) (by decide) (by decide)))).other Wr6 (Or.inr (slot_ne (a0 := a0) (C := "attestant/service/PostDecision") (Or.inr (hw _ (List.mem_of_getElem? (i := 43) rfl))) (Or.inr (hw _ (List.mem_of_getElem? (i := 51) rfl))) (by decide) (t := (.object "attestant/service/Reason")) (t' := (.object "java/lang/String")) (by decide) (by decide)))).other Wr7 (Or.inr (slot_ne (a0 := a0) (C := "attestant/service/PostDecision") (Or.inr (hw _ (List.mem_of_getElem? (i := 43) rfl))) (Or.inr (hw _ (List.mem_of_getElem? (i := 53) rfl))) (by decide) (t := (.object "attestant/service/Reason")) (t' := (.object "java/lang/String")) (by decide) (by decide))))⟩)
abbrev rm_c_acc : Room := { frames := 0, cells := 0, slots := 0, locals := 0 }
set_option maxRecDepth 65536 in
set_option maxHeartbeats 40000000 in
theorem c_acc {l : Launch} {Z : State} {a0 : Array Value} {nb : Bool} (K : Ctx Z a0) {a : Addr} {r : Value} {h0 : Heap} (h_r : r.isRef = true) (F : Fld Z h0 a "attestant/service/PostDecision" "reason" "Lattestant/service/Reason;" r) :
    OC l Z EL nb [] (⟨"attestant/service/PostDecision", "isAccepted", "()Z"⟩ : MethodName) prog_65_method_5_code 1 (some .boolean) rm_c_acc #[(.ref a)] h0 [] (fun v _ h => v = some (.int (if r = .null then 1 else 0)) ∧ h = h0) := by
  have hw := K.1
  have hS : ∀ a ∈ Bundle.stringAtoms, a.before a0 Z = true := K.2.2.1
  refine oEnter (by decide +kernel) K.2.1.2.1 ?_
  intro _p _e _s m _below _meth _c T0 W0 S0
  refine oEq (g' := mkF m 0 #[.val (.ref a)] []) (by first | (simp [entryFrame, mkF, argsToLocals, Value.category]; done) | rfl) ?_
  refine oGo W0 [.aload_n 0] (by decide +kernel) (ls' := #[.val (.ref a)]) (st' := [(.ref a)]) rfl rfl (pc' := 1) rfl ?_
  obtain ⟨T1, W1, st1⟩ := oGetF W0 (pc := 1) (ls := #[.val (.ref a)]) (st := []) (hw _ (List.mem_of_getElem? (i := 42) rfl)) Via.refl F (by decide +kernel)
  refine oLift st1 ?_
  rcases ref_cases h_r with rfl | ⟨ra, rfl⟩
  · refine oNnF W1 (o := 7) (by decide +kernel) (pc' := 7) rfl ?_
    refine oGo W1 [.iconst 1, .goto 4] (by decide +kernel) (ls' := #[.val (.ref a)]) (st' := [(.int (1 : Int32))]) rfl rfl (pc' := 12) rfl ?_
    exact oRetN (by simp) W1 rfl (by decide +kernel) (lb rfl) (lb rfl) (fun vm' hv => ⟨rfl, rfl⟩)
  · refine oNnT W1 (o := 7) (by decide +kernel) (pc' := 11) (by decide) (by decide) ?_
    refine oGo W1 [.iconst 0] (by decide +kernel) (ls' := #[.val (.ref a)]) (st' := [(.int (0 : Int32))]) rfl rfl (pc' := 12) rfl ?_
    exact oRetN (by simp) W1 rfl (by decide +kernel) (lb rfl) (lb rfl) (fun vm' hv => ⟨by simp, rfl⟩)
abbrev rm_c_accepted : Room := { frames := 3, cells := 1, slots := 6, locals := 43 }
set_option maxRecDepth 65536 in
set_option maxHeartbeats 40000000 in
theorem c_accepted {l : Launch} {Z : State} {a0 : Array Value} {nb : Bool} (K : Ctx Z a0) {i u j t : Value} {h0 : Heap} (h_i : i.isRef = true) (h_u : u.isRef = true) (h_j : j.isRef = true) (h_t : t.isRef = true) :
    OC l Z EL nb [] (⟨"attestant/service/PostDecision", "accepted", "(Ljava/lang/String;Ljava/lang/String;Ljava/lang/String;Ljava/lang/String;)Lattestant/service/PostDecision;"⟩ : MethodName) prog_65_method_2_code 4 (some (.object "attestant/service/PostDecision")) rm_c_accepted #[i, u, j, t] h0 [] (fun v _ h => ∃ p, v = some (.ref p) ∧ Ext h0 h ∧ Exa Z h p "attestant/service/PostDecision" ∧ Fld Z h p "attestant/service/PostDecision" "reason" "Lattestant/service/Reason;" .null) := by
  have hw := K.1
  have hS : ∀ a ∈ Bundle.stringAtoms, a.before a0 Z = true := K.2.2.1
  refine oEnter (by decide +kernel) K.2.1.2.1 ?_
  intro _p _e _s m _below _meth _c T0 W0 S0
  refine oEq (g' := mkF m 0 #[.val i, .val u, .val j, .val t] []) ((own_ef (vs := [i, u, j, t]) (List.forall_mem_cons.mpr ⟨refCat h_i, (List.forall_mem_cons.mpr ⟨refCat h_u, (List.forall_mem_cons.mpr ⟨refCat h_j, (List.forall_mem_cons.mpr ⟨refCat h_t, (fun _ h => nomatch h)⟩)⟩)⟩)⟩)).trans rfl) ?_
  obtain ⟨T1, h1, a1, W1, g1, E1, A1, D1, S1, C1, st1⟩ := oNew W0 (pc := 0) (ls := #[.val i, .val u, .val j, .val t]) (st := []) (hw _ (List.mem_of_getElem? (i := 62) rfl)) (hw _ (List.mem_of_getElem? (i := 31) rfl)) (hw _ (List.mem_of_getElem? (i := 32) rfl)) (by decide +kernel) (lb rfl) (lb rfl)
  refine oLift st1 ?_
  refine oGo W1 [.dup, .aconst_null, .aconst_null, .aload_n 0, .aload_n 1, .aload_n 2, .aload_n 3] (by decide +kernel) (ls' := #[.val i, .val u, .val j, .val t]) (st' := [t, j, u, i, (.null), (.null), (.ref a1), (.ref a1)]) rfl (by simp [oOne, own_isR, own_isN, own_caR, own_caN, own_caI, h_i, refCat h_i, h_j, refCat h_j, h_t, refCat h_t, h_u, refCat h_u]) (pc' := 10) rfl ?_
  obtain ⟨v2, T2, L2, h2, vm2, W2, ⟨rfl, K2, X2, F2⟩, C2, st2⟩ := oCallN W1 (idx := 29) (pc := 10) (ls := #[.val i, .val u, .val j, .val t]) (st := [(.ref a1)]) (a := a1) (argsL := [(.null), (.null), i, u, j, t]) (c_init K rfl rfl h_i h_u h_j h_t (Nat.le_trans W0.ext.1 g1) A1 (D1 (Or.inr (hw _ (List.mem_of_getElem? (i := 43) rfl))) (ty := (.object "attestant/service/Reason")) (by decide)) (D1 (Or.inr (hw _ (List.mem_of_getElem? (i := 45) rfl))) (ty := (.object "java/lang/String")) (by decide)) (D1 (Or.inr (hw _ (List.mem_of_getElem? (i := 47) rfl))) (ty := (.object "java/lang/String")) (by decide)) (D1 (Or.inr (hw _ (List.mem_of_getElem? (i := 49) rfl))) (ty := (.object "java/lang/String")) (by decide)) (D1 (Or.inr (hw _ (List.mem_of_getElem? (i := 51) rfl))) (ty := (.object "java/lang/String")) (by decide)) (D1 (Or.inr (hw _ (List.mem_of_getElem? (i := 53) rfl))) (ty := (.object "java/lang/String")) (by decide))) (fun x hx => nomatch hx) rfl (hw _ (List.mem_of_getElem? (i := 63) rfl)) (hw _ (List.mem_of_getElem? (i := 34) rfl)) (hw _ (List.mem_of_getElem? (i := 32) rfl)) (hw _ (List.mem_of_getElem? (i := 35) rfl)) (by decide) (na := 6) rfl (by decide +kernel) rfl (stk := [t, j, u, i, (.null), (.null), (.ref a1), (.ref a1)]) rfl (by decide +kernel) (V := 1) (lb rfl) (lb rfl) (lb rfl) (lb rfl) (lb rfl)
  refine oLift st2 ?_
  show OG _ _ _ _ _ _ _ _ _ _ _ (mkF m 13 #[.val i, .val u, .val j, .val t] [(.ref a1)])
  exact oRetA rfl W2 rfl rfl (by decide +kernel) (lb rfl) (lb rfl) (fun vm' hv => ⟨_, rfl, (exK E1 K2 (fun y hy => by cases List.mem_singleton.mp hy; exact g1)), X2, F2⟩)
abbrev rm_c_rejected : Room := { frames := 3, cells := 1, slots := 6, locals := 43 }
set_option maxRecDepth 65536 in
set_option maxHeartbeats 40000000 in
theorem c_rejected {l : Launch} {Z : State} {a0 : Array Value} {nb : Bool} (K : Ctx Z a0) {b : Addr} {d : Value} {h0 : Heap} (h_d : d.isRef = true) :
    OC l Z EL nb [] (⟨"attestant/service/PostDecision", "rejected", "(Lattestant/service/Reason;Ljava/lang/String;)Lattestant/service/PostDecision;"⟩ : MethodName) prog_65_method_3_code 2 (some (.object "attestant/service/PostDecision")) rm_c_rejected #[(.ref b), d] h0 [] (fun v _ h => ∃ p, v = some (.ref p) ∧ Ext h0 h ∧ Exa Z h p "attestant/service/PostDecision" ∧ Fld Z h p "attestant/service/PostDecision" "reason" "Lattestant/service/Reason;" (.ref b)) := by
  have hw := K.1
  have hS : ∀ a ∈ Bundle.stringAtoms, a.before a0 Z = true := K.2.2.1
  refine oEnter (by decide +kernel) K.2.1.2.1 ?_
  intro _p _e _s m _below _meth _c T0 W0 S0
  refine oEq (g' := mkF m 0 #[.val (.ref b), .val d] []) ((own_ef (vs := [(.ref b), d]) (List.forall_mem_cons.mpr ⟨rfl, (List.forall_mem_cons.mpr ⟨refCat h_d, (fun _ h => nomatch h)⟩)⟩)).trans rfl) ?_
  obtain ⟨T1, h1, a1, W1, g1, E1, A1, D1, S1, C1, st1⟩ := oNew W0 (pc := 0) (ls := #[.val (.ref b), .val d]) (st := []) (hw _ (List.mem_of_getElem? (i := 62) rfl)) (hw _ (List.mem_of_getElem? (i := 31) rfl)) (hw _ (List.mem_of_getElem? (i := 32) rfl)) (by decide +kernel) (lb rfl) (lb rfl)
  refine oLift st1 ?_
  refine oGo W1 [.dup, .aload_n 0, .aload_n 1, .aconst_null, .aconst_null, .aconst_null, .aconst_null] (by decide +kernel) (ls' := #[.val (.ref b), .val d]) (st' := [(.null), (.null), (.null), (.null), d, (.ref b), (.ref a1), (.ref a1)]) rfl (by simp [oOne, own_isR, own_isN, own_caR, own_caN, own_caI, h_d, refCat h_d]) (pc' := 10) rfl ?_
  obtain ⟨v2, T2, L2, h2, vm2, W2, ⟨rfl, K2, X2, F2⟩, C2, st2⟩ := oCallN W1 (idx := 29) (pc := 10) (ls := #[.val (.ref b), .val d]) (st := [(.ref a1)]) (a := a1) (argsL := [(.ref b), d, (.null), (.null), (.null), (.null)]) (c_init K rfl h_d rfl rfl rfl rfl (Nat.le_trans W0.ext.1 g1) A1 (D1 (Or.inr (hw _ (List.mem_of_getElem? (i := 43) rfl))) (ty := (.object "attestant/service/Reason")) (by decide)) (D1 (Or.inr (hw _ (List.mem_of_getElem? (i := 45) rfl))) (ty := (.object "java/lang/String")) (by decide)) (D1 (Or.inr (hw _ (List.mem_of_getElem? (i := 47) rfl))) (ty := (.object "java/lang/String")) (by decide)) (D1 (Or.inr (hw _ (List.mem_of_getElem? (i := 49) rfl))) (ty := (.object "java/lang/String")) (by decide)) (D1 (Or.inr (hw _ (List.mem_of_getElem? (i := 51) rfl))) (ty := (.object "java/lang/String")) (by decide)) (D1 (Or.inr (hw _ (List.mem_of_getElem? (i := 53) rfl))) (ty := (.object "java/lang/String")) (by decide))) (fun x hx => nomatch hx) rfl (hw _ (List.mem_of_getElem? (i := 63) rfl)) (hw _ (List.mem_of_getElem? (i := 34) rfl)) (hw _ (List.mem_of_getElem? (i := 32) rfl)) (hw _ (List.mem_of_getElem? (i := 35) rfl)) (by decide) (na := 6) rfl (by decide +kernel) rfl (stk := [(.null), (.null), (.null), (.null), d, (.ref b), (.ref a1), (.ref a1)]) rfl (by decide +kernel) (V := 1) (lb rfl) (lb rfl) (lb rfl) (lb rfl) (lb rfl)
  refine oLift st2 ?_
  show OG _ _ _ _ _ _ _ _ _ _ _ (mkF m 13 #[.val (.ref b), .val d] [(.ref a1)])
  exact oRetA rfl W2 rfl rfl (by decide +kernel) (lb rfl) (lb rfl) (fun vm' hv => ⟨_, rfl, (exK E1 K2 (fun y hy => by cases List.mem_singleton.mp hy; exact g1)), X2, F2⟩)
set_option maxRecDepth 65536 in
set_option maxHeartbeats 40000000 in
theorem c_law {l : Launch} {Z : State} {a0 : Array Value} (K : Ctx Z a0) (i0 i1 i2 i3 i4 i5 : Int32) (h0 : Heap) :
    OC l Z EL false tables_1 x code maxLocals ret room_1 #[(.int i0), (.int i1), (.int i2), (.int i3), (.int i4), (.int i5)] h0 [] (fun v _ h => v = some (.int 1)) := by
  have hw := K.1
  have hS : ∀ a ∈ Bundle.stringAtoms, a.before a0 Z = true := K.2.2.1
  refine oEnter (by decide +kernel) K.2.1.2.1 ?_
  intro _p _e _s m _below _meth _c T0 W0 S0
  refine oEq (g' := mkF m 0 #[.val (.int i0), .val (.int i1), .val (.int i2), .val (.int i3), .val (.int i4), .val (.int i5), .unset, .unset, .unset, .unset, .unset, .unset, .unset, .unset, .unset, .unset, .unset, .unset, .unset] []) (by first | (simp [entryFrame, mkF, argsToLocals, Value.category, maxLocals]; done) | rfl) ?_
  refine oGo W0 [.iload_n 0] (by decide +kernel) (ls' := #[.val (.int i0), .val (.int i1), .val (.int i2), .val (.int i3), .val (.int i4), .val (.int i5), .unset, .unset, .unset, .unset, .unset, .unset, .unset, .unset, .unset, .unset, .unset, .unset, .unset]) (st' := [(.int i0)]) rfl rfl (pc' := 1) rfl ?_
  obtain ⟨v1, T1, L1, h1, vm1, W1, ⟨⟨r, rfl, h_r⟩, e1⟩, C1, st1⟩ := oCallS W0 (idx := 73) (pc := 1) (ls := #[.val (.int i0), .val (.int i1), .val (.int i2), .val (.int i3), .val (.int i4), .val (.int i5), .unset, .unset, .unset, .unset, .unset, .unset, .unset, .unset, .unset, .unset, .unset, .unset, .unset]) (st := []) (argsL := [(.int i0)]) (c_reason K) (fun x hx => nomatch hx) (hw _ (List.mem_of_getElem? (i := 0) rfl)) (hw _ (List.mem_of_getElem? (i := 1) rfl)) (hw _ (List.mem_of_getElem? (i := 2) rfl)) (hw _ (List.mem_of_getElem? (i := 3) rfl)) (by decide) (na := 1) rfl (by decide +kernel) rfl (stk := [(.int i0)]) rfl (by decide +kernel) (V := 0) (lb rfl) (lb rfl) (lb rfl) (lb rfl) (lb rfl)
  refine oLift st1 ?_
  rw [e1] at W1 C1
  show OG _ _ _ _ _ _ _ _ _ _ _ (mkF m 4 #[.val (.int i0), .val (.int i1), .val (.int i2), .val (.int i3), .val (.int i4), .val (.int i5), .unset, .unset, .unset, .unset, .unset, .unset, .unset, .unset, .unset, .unset, .unset, .unset, .unset] [r])
  refine oGo W1 [.astore 6, .iload_n 1, .iload 5, .iconst 1, .iand] (by decide +kernel) (ls' := #[.val (.int i0), .val (.int i1), .val (.int i2), .val (.int i3), .val (.int i4), .val (.int i5), .val r, .unset, .unset, .unset, .unset, .unset, .unset, .unset, .unset, .unset, .unset, .unset, .unset]) (st' := [(.int (i5 &&& (1 : Int32))), (.int i1)]) rfl (by simp [oOne, own_isR, own_isN, own_caR, own_caN, own_caI, h_r, refCat h_r]) (pc' := 11) rfl ?_
  obtain ⟨v2, T2, L2, h2, vm2, W2, ⟨⟨d, rfl, h_d⟩, E2⟩, C2, st2⟩ := oCallS W1 (idx := 79) (pc := 11) (ls := #[.val (.int i0), .val (.int i1), .val (.int i2), .val (.int i3), .val (.int i4), .val (.int i5), .val r, .unset, .unset, .unset, .unset, .unset, .unset, .unset, .unset, .unset, .unset, .unset, .unset]) (st := []) (argsL := [(.int i1), (.int (i5 &&& (1 : Int32)))]) (c_str K) (fun x hx => nomatch hx) (hw _ (List.mem_of_getElem? (i := 5) rfl)) (hw _ (List.mem_of_getElem? (i := 6) rfl)) (hw _ (List.mem_of_getElem? (i := 2) rfl)) (hw _ (List.mem_of_getElem? (i := 7) rfl)) (by decide) (na := 2) rfl (by decide +kernel) rfl (stk := [(.int (i5 &&& (1 : Int32))), (.int i1)]) rfl (by decide +kernel) (V := 0) (lb rfl) (lb rfl) (lb rfl) (lb rfl) (lb rfl)
  refine oLift st2 ?_
  show OG _ _ _ _ _ _ _ _ _ _ _ (mkF m 14 #[.val (.int i0), .val (.int i1), .val (.int i2), .val (.int i3), .val (.int i4), .val (.int i5), .val r, .unset, .unset, .unset, .unset, .unset, .unset, .unset, .unset, .unset, .unset, .unset, .unset] [d])
  refine oGo W2 [.astore 7, .iload_n 2, .iload 5, .iconst 2, .iand] (by decide +kernel) (ls' := #[.val (.int i0), .val (.int i1), .val (.int i2), .val (.int i3), .val (.int i4), .val (.int i5), .val r, .val d, .unset, .unset, .unset, .unset, .unset, .unset, .unset, .unset, .unset, .unset, .unset]) (st' := [(.int (i5 &&& (2 : Int32))), (.int i2)]) rfl (by simp [oOne, own_isR, own_isN, own_caR, own_caN, own_caI, h_d, refCat h_d]) (pc' := 21) rfl ?_
  obtain ⟨v3, T3, L3, h3, vm3, W3, ⟨⟨i, rfl, h_i⟩, E3⟩, C3, st3⟩ := oCallS W2 (idx := 79) (pc := 21) (ls := #[.val (.int i0), .val (.int i1), .val (.int i2), .val (.int i3), .val (.int i4), .val (.int i5), .val r, .val d, .unset, .unset, .unset, .unset, .unset, .unset, .unset, .unset, .unset, .unset, .unset]) (st := []) (argsL := [(.int i2), (.int (i5 &&& (2 : Int32)))]) (c_str K) (fun x hx => nomatch hx) (hw _ (List.mem_of_getElem? (i := 5) rfl)) (hw _ (List.mem_of_getElem? (i := 6) rfl)) (hw _ (List.mem_of_getElem? (i := 2) rfl)) (hw _ (List.mem_of_getElem? (i := 7) rfl)) (by decide) (na := 2) rfl (by decide +kernel) rfl (stk := [(.int (i5 &&& (2 : Int32))), (.int i2)]) rfl (by decide +kernel) (V := 0) (lb rfl) (lb rfl) (lb rfl) (lb rfl) (lb rfl)
  refine oLift st3 ?_
  show OG _ _ _ _ _ _ _ _ _ _ _ (mkF m 24 #[.val (.int i0), .val (.int i1), .val (.int i2), .val (.int i3), .val (.int i4), .val (.int i5), .val r, .val d, .unset, .unset, .unset, .unset, .unset, .unset, .unset, .unset, .unset, .unset, .unset] [i])
  refine oGo W3 [.astore 8, .iload_n 3, .iload 5, .iconst 4, .iand] (by decide +kernel) (ls' := #[.val (.int i0), .val (.int i1), .val (.int i2), .val (.int i3), .val (.int i4), .val (.int i5), .val r, .val d, .val i, .unset, .unset, .unset, .unset, .unset, .unset, .unset, .unset, .unset, .unset]) (st' := [(.int (i5 &&& (4 : Int32))), (.int i3)]) rfl (by simp [oOne, own_isR, own_isN, own_caR, own_caN, own_caI, h_i, refCat h_i]) (pc' := 31) rfl ?_
  obtain ⟨v4, T4, L4, h4, vm4, W4, ⟨⟨u, rfl, h_u⟩, E4⟩, C4, st4⟩ := oCallS W3 (idx := 79) (pc := 31) (ls := #[.val (.int i0), .val (.int i1), .val (.int i2), .val (.int i3), .val (.int i4), .val (.int i5), .val r, .val d, .val i, .unset, .unset, .unset, .unset, .unset, .unset, .unset, .unset, .unset, .unset]) (st := []) (argsL := [(.int i3), (.int (i5 &&& (4 : Int32)))]) (c_str K) (fun x hx => nomatch hx) (hw _ (List.mem_of_getElem? (i := 5) rfl)) (hw _ (List.mem_of_getElem? (i := 6) rfl)) (hw _ (List.mem_of_getElem? (i := 2) rfl)) (hw _ (List.mem_of_getElem? (i := 7) rfl)) (by decide) (na := 2) rfl (by decide +kernel) rfl (stk := [(.int (i5 &&& (4 : Int32))), (.int i3)]) rfl (by decide +kernel) (V := 0) (lb rfl) (lb rfl) (lb rfl) (lb rfl) (lb rfl)
  refine oLift st4 ?_
  show OG _ _ _ _ _ _ _ _ _ _ _ (mkF m 34 #[.val (.int i0), .val (.int i1), .val (.int i2), .val (.int i3), .val (.int i4), .val (.int i5), .val r, .val d, .val i, .unset, .unset, .unset, .unset, .unset, .unset, .unset, .unset, .unset, .unset] [u])
  refine oGo W4 [.astore 9, .iload 4, .iload 5, .bipush 8, .iand] (by decide +kernel) (ls' := #[.val (.int i0), .val (.int i1), .val (.int i2), .val (.int i3), .val (.int i4), .val (.int i5), .val r, .val d, .val i, .val u, .unset, .unset, .unset, .unset, .unset, .unset, .unset, .unset, .unset]) (st' := [(.int (i5 &&& (8 : Int32))), (.int i4)]) rfl (by simp [oOne, own_isR, own_isN, own_caR, own_caN, own_caI, h_u, refCat h_u]) (pc' := 43) rfl ?_
  obtain ⟨v5, T5, L5, h5, vm5, W5, ⟨⟨j, rfl, h_j⟩, E5⟩, C5, st5⟩ := oCallS W4 (idx := 79) (pc := 43) (ls := #[.val (.int i0), .val (.int i1), .val (.int i2), .val (.int i3), .val (.int i4), .val (.int i5), .val r, .val d, .val i, .val u, .unset, .unset, .unset, .unset, .unset, .unset, .unset, .unset, .unset]) (st := []) (argsL := [(.int i4), (.int (i5 &&& (8 : Int32)))]) (c_str K) (fun x hx => nomatch hx) (hw _ (List.mem_of_getElem? (i := 5) rfl)) (hw _ (List.mem_of_getElem? (i := 6) rfl)) (hw _ (List.mem_of_getElem? (i := 2) rfl)) (hw _ (List.mem_of_getElem? (i := 7) rfl)) (by decide) (na := 2) rfl (by decide +kernel) rfl (stk := [(.int (i5 &&& (8 : Int32))), (.int i4)]) rfl (by decide +kernel) (V := 0) (lb rfl) (lb rfl) (lb rfl) (lb rfl) (lb rfl)
  refine oLift st5 ?_
  show OG _ _ _ _ _ _ _ _ _ _ _ (mkF m 46 #[.val (.int i0), .val (.int i1), .val (.int i2), .val (.int i3), .val (.int i4), .val (.int i5), .val r, .val d, .val i, .val u, .unset, .unset, .unset, .unset, .unset, .unset, .unset, .unset, .unset] [j])
  refine oGo W5 [.astore 10, .iload_n 1, .iload 4, .ixor, .iload 5, .bipush 16, .iand] (by decide +kernel) (ls' := #[.val (.int i0), .val (.int i1), .val (.int i2), .val (.int i3), .val (.int i4), .val (.int i5), .val r, .val d, .val i, .val u, .val j, .unset, .unset, .unset, .unset, .unset, .unset, .unset, .unset]) (st' := [(.int (i5 &&& (16 : Int32))), (.int (i1 ^^^ i4))]) rfl (by simp [oOne, own_isR, own_isN, own_caR, own_caN, own_caI, h_j, refCat h_j]) (pc' := 57) rfl ?_
  obtain ⟨v6, T6, L6, h6, vm6, W6, ⟨⟨t, rfl, h_t⟩, E6⟩, C6, st6⟩ := oCallS W5 (idx := 79) (pc := 57) (ls := #[.val (.int i0), .val (.int i1), .val (.int i2), .val (.int i3), .val (.int i4), .val (.int i5), .val r, .val d, .val i, .val u, .val j, .unset, .unset, .unset, .unset, .unset, .unset, .unset, .unset]) (st := []) (argsL := [(.int (i1 ^^^ i4)), (.int (i5 &&& (16 : Int32)))]) (c_str K) (fun x hx => nomatch hx) (hw _ (List.mem_of_getElem? (i := 5) rfl)) (hw _ (List.mem_of_getElem? (i := 6) rfl)) (hw _ (List.mem_of_getElem? (i := 2) rfl)) (hw _ (List.mem_of_getElem? (i := 7) rfl)) (by decide) (na := 2) rfl (by decide +kernel) rfl (stk := [(.int (i5 &&& (16 : Int32))), (.int (i1 ^^^ i4))]) rfl (by decide +kernel) (V := 0) (lb rfl) (lb rfl) (lb rfl) (lb rfl) (lb rfl)
  refine oLift st6 ?_
  show OG _ _ _ _ _ _ _ _ _ _ _ (mkF m 60 #[.val (.int i0), .val (.int i1), .val (.int i2), .val (.int i3), .val (.int i4), .val (.int i5), .val r, .val d, .val i, .val u, .val j, .unset, .unset, .unset, .unset, .unset, .unset, .unset, .unset] [t])
  refine oGo W6 [.astore 11] (by decide +kernel) (ls' := #[.val (.int i0), .val (.int i1), .val (.int i2), .val (.int i3), .val (.int i4), .val (.int i5), .val r, .val d, .val i, .val u, .val j, .val t, .unset, .unset, .unset, .unset, .unset, .unset, .unset]) (st' := []) rfl (by simp [oOne, own_isR, own_isN, own_caR, own_caN, own_caI, h_t, refCat h_t]) (pc' := 62) rfl ?_
  obtain ⟨T7, h7, a7, W7, g7, E7, A7, D7, S7, C7, st7⟩ := oNew W6 (pc := 62) (ls := #[.val (.int i0), .val (.int i1), .val (.int i2), .val (.int i3), .val (.int i4), .val (.int i5), .val r, .val d, .val i, .val u, .val j, .val t, .unset, .unset, .unset, .unset, .unset, .unset, .unset]) (st := []) (hw _ (List.mem_of_getElem? (i := 30) rfl)) (hw _ (List.mem_of_getElem? (i := 31) rfl)) (hw _ (List.mem_of_getElem? (i := 32) rfl)) (by decide +kernel) (lb rfl) (lb rfl)
  refine oLift st7 ?_
  refine oGo W7 [.dup, .aload 6, .aload 7, .aload 8, .aload 9, .aload 10, .aload 11] (by decide +kernel) (ls' := #[.val (.int i0), .val (.int i1), .val (.int i2), .val (.int i3), .val (.int i4), .val (.int i5), .val r, .val d, .val i, .val u, .val j, .val t, .unset, .unset, .unset, .unset, .unset, .unset, .unset]) (st' := [t, j, u, i, d, r, (.ref a7), (.ref a7)]) rfl (by simp [oOne, own_isR, own_isN, own_caR, own_caN, own_caI, h_d, refCat h_d, h_i, refCat h_i, h_j, refCat h_j, h_r, refCat h_r, h_t, refCat h_t, h_u, refCat h_u]) (pc' := 78) rfl ?_
  obtain ⟨v8, T8, L8, h8, vm8, W8, ⟨rfl, K8, X8, F8⟩, C8, st8⟩ := oCallN W7 (idx := 85) (pc := 78) (ls := #[.val (.int i0), .val (.int i1), .val (.int i2), .val (.int i3), .val (.int i4), .val (.int i5), .val r, .val d, .val i, .val u, .val j, .val t, .unset, .unset, .unset, .unset, .unset, .unset, .unset]) (st := [(.ref a7)]) (a := a7) (argsL := [r, d, i, u, j, t]) (c_init K h_r h_d h_i h_u h_j h_t (Nat.le_trans W6.ext.1 g7) A7 (D7 (Or.inr (hw _ (List.mem_of_getElem? (i := 43) rfl))) (ty := (.object "attestant/service/Reason")) (by decide)) (D7 (Or.inr (hw _ (List.mem_of_getElem? (i := 45) rfl))) (ty := (.object "java/lang/String")) (by decide)) (D7 (Or.inr (hw _ (List.mem_of_getElem? (i := 47) rfl))) (ty := (.object "java/lang/String")) (by decide)) (D7 (Or.inr (hw _ (List.mem_of_getElem? (i := 49) rfl))) (ty := (.object "java/lang/String")) (by decide)) (D7 (Or.inr (hw _ (List.mem_of_getElem? (i := 51) rfl))) (ty := (.object "java/lang/String")) (by decide)) (D7 (Or.inr (hw _ (List.mem_of_getElem? (i := 53) rfl))) (ty := (.object "java/lang/String")) (by decide))) (fun x hx => nomatch hx) rfl (hw _ (List.mem_of_getElem? (i := 33) rfl)) (hw _ (List.mem_of_getElem? (i := 34) rfl)) (hw _ (List.mem_of_getElem? (i := 32) rfl)) (hw _ (List.mem_of_getElem? (i := 35) rfl)) (by decide) (na := 6) rfl (by decide +kernel) rfl (stk := [t, j, u, i, d, r, (.ref a7), (.ref a7)]) rfl (by decide +kernel) (V := 1) (lb rfl) (lb rfl) (lb rfl) (lb rfl) (lb rfl)
  refine oLift st8 ?_
  show OG _ _ _ _ _ _ _ _ _ _ _ (mkF m 81 #[.val (.int i0), .val (.int i1), .val (.int i2), .val (.int i3), .val (.int i4), .val (.int i5), .val r, .val d, .val i, .val u, .val j, .val t, .unset, .unset, .unset, .unset, .unset, .unset, .unset] [(.ref a7)])
  refine oGo W8 [.astore 12, .aload 12] (by decide +kernel) (ls' := #[.val (.int i0), .val (.int i1), .val (.int i2), .val (.int i3), .val (.int i4), .val (.int i5), .val r, .val d, .val i, .val u, .val j, .val t, .val (.ref a7), .unset, .unset, .unset, .unset, .unset, .unset]) (st' := [(.ref a7)]) rfl rfl (pc' := 85) rfl ?_
  obtain ⟨v9, T9, L9, h9, vm9, W9, ⟨rfl, e9⟩, C9, st9⟩ := oCallV W8 (idx := 88) (pc := 85) (ls := #[.val (.int i0), .val (.int i1), .val (.int i2), .val (.int i3), .val (.int i4), .val (.int i5), .val r, .val d, .val i, .val u, .val j, .val t, .val (.ref a7), .unset, .unset, .unset, .unset, .unset, .unset]) (st := []) (argsL := []) X8 (c_acc K h_r F8) (fun x hx => nomatch hx) (hw _ (List.mem_of_getElem? (i := 54) rfl)) (hw _ (List.mem_of_getElem? (i := 55) rfl)) (notFace_of_selects (args := #[]) (mvT W8.warm (hw _ (List.mem_of_getElem? (i := 57) rfl)))) (hw _ (List.mem_of_getElem? (i := 57) rfl)) (hw _ (List.mem_of_getElem? (i := 56) rfl)) (hw _ (List.mem_of_getElem? (i := 32) rfl)) (hw _ (List.mem_of_getElem? (i := 58) rfl)) (by decide) (na := 0) rfl (by decide +kernel) rfl (stk := [(.ref a7)]) rfl (by decide +kernel) (V := 0) (lb rfl) (lb rfl) (lb rfl) (lb rfl) (lb rfl)
  refine oLift st9 ?_
  rw [e9] at W9 C9
  show OG _ _ _ _ _ _ _ _ _ _ _ (mkF m 88 #[.val (.int i0), .val (.int i1), .val (.int i2), .val (.int i3), .val (.int i4), .val (.int i5), .val r, .val d, .val i, .val u, .val j, .val t, .val (.ref a7), .unset, .unset, .unset, .unset, .unset, .unset] [(.int (if r = .null then 1 else 0))])
  refine oGo W9 [.aload 6] (by decide +kernel) (ls' := #[.val (.int i0), .val (.int i1), .val (.int i2), .val (.int i3), .val (.int i4), .val (.int i5), .val r, .val d, .val i, .val u, .val j, .val t, .val (.ref a7), .unset, .unset, .unset, .unset, .unset, .unset]) (st' := [r, (.int (if r = .null then 1 else 0))]) rfl (by simp [oOne, own_isR, own_isN, own_caR, own_caN, own_caI, h_r, refCat h_r]) (pc' := 90) rfl ?_
  rcases ref_cases h_r with rfl | ⟨ra, rfl⟩
  · refine oNnF W9 (o := 7) (by decide +kernel) (pc' := 93) rfl ?_
    show OG _ _ _ _ _ _ _ _ _ _ _ (mkF m 93 #[.val (.int i0), .val (.int i1), .val (.int i2), .val (.int i3), .val (.int i4), .val (.int i5), .val (.null), .val d, .val i, .val u, .val j, .val t, .val (.ref a7), .unset, .unset, .unset, .unset, .unset, .unset] [(.int (1 : Int32))])
    refine oGo W9 [.iconst 1, .goto 4] (by decide +kernel) (ls' := #[.val (.int i0), .val (.int i1), .val (.int i2), .val (.int i3), .val (.int i4), .val (.int i5), .val (.null), .val d, .val i, .val u, .val j, .val t, .val (.ref a7), .unset, .unset, .unset, .unset, .unset, .unset]) (st' := [(.int (1 : Int32)), (.int (1 : Int32))]) rfl rfl (pc' := 98) rfl ?_
    refine oIcF W9 (cd := .ne) (o := 7) (by decide +kernel) (XT.ii_ne_f (by decide)) (pc' := 101) rfl ?_
    refine oGo W9 [.iconst 1, .goto 4, .istore 13, .aload 8, .aload 9, .aload 10, .aload 11] (by decide +kernel) (ls' := #[.val (.int i0), .val (.int i1), .val (.int i2), .val (.int i3), .val (.int i4), .val (.int i5), .val (.null), .val d, .val i, .val u, .val j, .val t, .val (.ref a7), .val (.int (1 : Int32)), .unset, .unset, .unset, .unset, .unset]) (st' := [t, j, u, i]) rfl (by simp [oOne, own_isR, own_isN, own_caR, own_caN, own_caI, h_i, refCat h_i, h_j, refCat h_j, h_t, refCat h_t, h_u, refCat h_u]) (pc' := 116) rfl ?_
    obtain ⟨v10, T10, L10, h10, vm10, W10, ⟨p10, rfl, E10, X10, F10⟩, C10, st10⟩ := oCallS W9 (idx := 92) (pc := 116) (ls := #[.val (.int i0), .val (.int i1), .val (.int i2), .val (.int i3), .val (.int i4), .val (.int i5), .val (.null), .val d, .val i, .val u, .val j, .val t, .val (.ref a7), .val (.int (1 : Int32)), .unset, .unset, .unset, .unset, .unset]) (st := []) (argsL := [i, u, j, t]) (c_accepted K h_i h_u h_j h_t) (fun x hx => nomatch hx) (hw _ (List.mem_of_getElem? (i := 59) rfl)) (hw _ (List.mem_of_getElem? (i := 60) rfl)) (hw _ (List.mem_of_getElem? (i := 32) rfl)) (hw _ (List.mem_of_getElem? (i := 61) rfl)) (by decide) (na := 4) rfl (by decide +kernel) rfl (stk := [t, j, u, i]) rfl (by decide +kernel) (V := 0) (lb rfl) (lb rfl) (lb rfl) (lb rfl) (lb rfl)
    refine oLift st10 ?_
    refine oGo W10 [.astore 14, .aload 14] (by decide +kernel) (ls' := #[.val (.int i0), .val (.int i1), .val (.int i2), .val (.int i3), .val (.int i4), .val (.int i5), .val (.null), .val d, .val i, .val u, .val j, .val t, .val (.ref a7), .val (.int (1 : Int32)), .val (.ref p10), .unset, .unset, .unset, .unset]) (st' := [(.ref p10)]) rfl rfl (pc' := 123) rfl ?_
    obtain ⟨v11, T11, L11, h11, vm11, W11, ⟨rfl, e11⟩, C11, st11⟩ := oCallV W10 (idx := 88) (pc := 123) (ls := #[.val (.int i0), .val (.int i1), .val (.int i2), .val (.int i3), .val (.int i4), .val (.int i5), .val (.null), .val d, .val i, .val u, .val j, .val t, .val (.ref a7), .val (.int (1 : Int32)), .val (.ref p10), .unset, .unset, .unset, .unset]) (st := []) (argsL := []) X10 (c_acc K rfl F10) (fun x hx => nomatch hx) (hw _ (List.mem_of_getElem? (i := 54) rfl)) (hw _ (List.mem_of_getElem? (i := 55) rfl)) (notFace_of_selects (args := #[]) (mvT W10.warm (hw _ (List.mem_of_getElem? (i := 57) rfl)))) (hw _ (List.mem_of_getElem? (i := 57) rfl)) (hw _ (List.mem_of_getElem? (i := 56) rfl)) (hw _ (List.mem_of_getElem? (i := 32) rfl)) (hw _ (List.mem_of_getElem? (i := 58) rfl)) (by decide) (na := 0) rfl (by decide +kernel) rfl (stk := [(.ref p10)]) rfl (by decide +kernel) (V := 0) (lb rfl) (lb rfl) (lb rfl) (lb rfl) (lb rfl)
    refine oLift st11 ?_
    rw [e11] at W11 C11
    show OG _ _ _ _ _ _ _ _ _ _ _ (mkF m 126 #[.val (.int i0), .val (.int i1), .val (.int i2), .val (.int i3), .val (.int i4), .val (.int i5), .val (.null), .val d, .val i, .val u, .val j, .val t, .val (.ref a7), .val (.int (1 : Int32)), .val (.ref p10), .unset, .unset, .unset, .unset] [(.int (1 : Int32))])
    refine oGo W11 [.istore 15, .aload 6] (by decide +kernel) (ls' := #[.val (.int i0), .val (.int i1), .val (.int i2), .val (.int i3), .val (.int i4), .val (.int i5), .val (.null), .val d, .val i, .val u, .val j, .val t, .val (.ref a7), .val (.int (1 : Int32)), .val (.ref p10), .val (.int (1 : Int32)), .unset, .unset, .unset]) (st' := [(.null)]) rfl rfl (pc' := 130) rfl ?_
    refine oNnF W11 (o := 9) (by decide +kernel) (pc' := 133) rfl ?_
    obtain ⟨rr, hrr⟩ := K.2.2.2 "REPLAYED" (by decide)
    obtain ⟨T12, W12, st12⟩ := oGetS W11 (pc := 133) (ls := #[.val (.int i0), .val (.int i1), .val (.int i2), .val (.int i3), .val (.int i4), .val (.int i5), .val (.null), .val d, .val i, .val u, .val j, .val t, .val (.ref a7), .val (.int (1 : Int32)), .val (.ref p10), .val (.int (1 : Int32)), .unset, .unset, .unset]) (st := []) (hw _ (List.mem_of_getElem? (i := 64) rfl)) Via.refl (hrr.ext W11.ext) (by decide +kernel)
    refine oLift st12 ?_
    refine oGo W12 [.goto 5, .astore 16, .aload 16, .aload 7] (by decide +kernel) (ls' := #[.val (.int i0), .val (.int i1), .val (.int i2), .val (.int i3), .val (.int i4), .val (.int i5), .val (.null), .val d, .val i, .val u, .val j, .val t, .val (.ref a7), .val (.int (1 : Int32)), .val (.ref p10), .val (.int (1 : Int32)), .val (.ref rr), .unset, .unset]) (st' := [d, (.ref rr)]) rfl (by simp [oOne, own_isR, own_isN, own_caR, own_caN, own_caI, h_d, refCat h_d]) (pc' := 147) rfl ?_
    obtain ⟨v13, T13, L13, h13, vm13, W13, ⟨p13, rfl, E13, X13, F13⟩, C13, st13⟩ := oCallS W12 (idx := 96) (pc := 147) (ls := #[.val (.int i0), .val (.int i1), .val (.int i2), .val (.int i3), .val (.int i4), .val (.int i5), .val (.null), .val d, .val i, .val u, .val j, .val t, .val (.ref a7), .val (.int (1 : Int32)), .val (.ref p10), .val (.int (1 : Int32)), .val (.ref rr), .unset, .unset]) (st := []) (argsL := [(.ref rr), d]) (c_rejected K h_d) (fun x hx => nomatch hx) (hw _ (List.mem_of_getElem? (i := 67) rfl)) (hw _ (List.mem_of_getElem? (i := 68) rfl)) (hw _ (List.mem_of_getElem? (i := 32) rfl)) (hw _ (List.mem_of_getElem? (i := 69) rfl)) (by decide) (na := 2) rfl (by decide +kernel) rfl (stk := [d, (.ref rr)]) rfl (by decide +kernel) (V := 0) (lb rfl) (lb rfl) (lb rfl) (lb rfl) (lb rfl)
    refine oLift st13 ?_
    refine oGo W13 [.astore 17, .aload 17] (by decide +kernel) (ls' := #[.val (.int i0), .val (.int i1), .val (.int i2), .val (.int i3), .val (.int i4), .val (.int i5), .val (.null), .val d, .val i, .val u, .val j, .val t, .val (.ref a7), .val (.int (1 : Int32)), .val (.ref p10), .val (.int (1 : Int32)), .val (.ref rr), .val (.ref p13), .unset]) (st' := [(.ref p13)]) rfl rfl (pc' := 154) rfl ?_
    obtain ⟨v14, T14, L14, h14, vm14, W14, ⟨rfl, e14⟩, C14, st14⟩ := oCallV W13 (idx := 88) (pc := 154) (ls := #[.val (.int i0), .val (.int i1), .val (.int i2), .val (.int i3), .val (.int i4), .val (.int i5), .val (.null), .val d, .val i, .val u, .val j, .val t, .val (.ref a7), .val (.int (1 : Int32)), .val (.ref p10), .val (.int (1 : Int32)), .val (.ref rr), .val (.ref p13), .unset]) (st := []) (argsL := []) X13 (c_acc K rfl F13) (fun x hx => nomatch hx) (hw _ (List.mem_of_getElem? (i := 54) rfl)) (hw _ (List.mem_of_getElem? (i := 55) rfl)) (notFace_of_selects (args := #[]) (mvT W13.warm (hw _ (List.mem_of_getElem? (i := 57) rfl)))) (hw _ (List.mem_of_getElem? (i := 57) rfl)) (hw _ (List.mem_of_getElem? (i := 56) rfl)) (hw _ (List.mem_of_getElem? (i := 32) rfl)) (hw _ (List.mem_of_getElem? (i := 58) rfl)) (by decide) (na := 0) rfl (by decide +kernel) rfl (stk := [(.ref p13)]) rfl (by decide +kernel) (V := 0) (lb rfl) (lb rfl) (lb rfl) (lb rfl) (lb rfl)
    refine oLift st14 ?_
    rw [e14] at W14 C14
    show OG _ _ _ _ _ _ _ _ _ _ _ (mkF m 157 #[.val (.int i0), .val (.int i1), .val (.int i2), .val (.int i3), .val (.int i4), .val (.int i5), .val (.null), .val d, .val i, .val u, .val j, .val t, .val (.ref a7), .val (.int (1 : Int32)), .val (.ref p10), .val (.int (1 : Int32)), .val (.ref rr), .val (.ref p13), .unset] [(.int (if (Value.ref rr) = .null then 1 else 0))])
    rw [if_neg (by simp)]
    refine oIfF W14 (cd := .ne) (o := 7) (by decide +kernel) (XT.i0_ne_f (by decide)) (pc' := 160) rfl ?_
    refine oGo W14 [.iconst 1, .goto 4, .istore 18, .iload 13] (by decide +kernel) (ls' := #[.val (.int i0), .val (.int i1), .val (.int i2), .val (.int i3), .val (.int i4), .val (.int i5), .val (.null), .val d, .val i, .val u, .val j, .val t, .val (.ref a7), .val (.int (1 : Int32)), .val (.ref p10), .val (.int (1 : Int32)), .val (.ref rr), .val (.ref p13), .val (.int (1 : Int32))]) (st' := [(.int (1 : Int32))]) rfl rfl (pc' := 169) rfl ?_
    refine oIfF W14 (cd := .eq) (o := 17) (by decide +kernel) (XT.i0_eq_f (by decide)) (pc' := 172) rfl ?_
    refine oGo W14 [.iload 15] (by decide +kernel) (ls' := #[.val (.int i0), .val (.int i1), .val (.int i2), .val (.int i3), .val (.int i4), .val (.int i5), .val (.null), .val d, .val i, .val u, .val j, .val t, .val (.ref a7), .val (.int (1 : Int32)), .val (.ref p10), .val (.int (1 : Int32)), .val (.ref rr), .val (.ref p13), .val (.int (1 : Int32))]) (st' := [(.int (1 : Int32))]) rfl rfl (pc' := 174) rfl ?_
    refine oIfF W14 (cd := .eq) (o := 12) (by decide +kernel) (XT.i0_eq_f (by decide)) (pc' := 177) rfl ?_
    refine oGo W14 [.iload 18] (by decide +kernel) (ls' := #[.val (.int i0), .val (.int i1), .val (.int i2), .val (.int i3), .val (.int i4), .val (.int i5), .val (.null), .val d, .val i, .val u, .val j, .val t, .val (.ref a7), .val (.int (1 : Int32)), .val (.ref p10), .val (.int (1 : Int32)), .val (.ref rr), .val (.ref p13), .val (.int (1 : Int32))]) (st' := [(.int (1 : Int32))]) rfl rfl (pc' := 179) rfl ?_
    refine oIfF W14 (cd := .eq) (o := 7) (by decide +kernel) (XT.i0_eq_f (by decide)) (pc' := 182) rfl ?_
    refine oGo W14 [.iconst 1, .goto 4] (by decide +kernel) (ls' := #[.val (.int i0), .val (.int i1), .val (.int i2), .val (.int i3), .val (.int i4), .val (.int i5), .val (.null), .val d, .val i, .val u, .val j, .val t, .val (.ref a7), .val (.int (1 : Int32)), .val (.ref p10), .val (.int (1 : Int32)), .val (.ref rr), .val (.ref p13), .val (.int (1 : Int32))]) (st' := [(.int (1 : Int32))]) rfl rfl (pc' := 187) rfl ?_
    exact oRetN (by simp) W14 rfl (by decide +kernel) (lb rfl) (lb rfl) (fun vm' hv => rfl)
  · refine oNnT W9 (o := 7) (by decide +kernel) (pc' := 97) (by decide) (by decide) ?_
    rw [if_neg (by simp)]
    refine oGo W9 [.iconst 0] (by decide +kernel) (ls' := #[.val (.int i0), .val (.int i1), .val (.int i2), .val (.int i3), .val (.int i4), .val (.int i5), .val (.ref ra), .val d, .val i, .val u, .val j, .val t, .val (.ref a7), .unset, .unset, .unset, .unset, .unset, .unset]) (st' := [(.int (0 : Int32)), (.int (0 : Int32))]) rfl rfl (pc' := 98) rfl ?_
    refine oIcF W9 (cd := .ne) (o := 7) (by decide +kernel) (XT.ii_ne_f (by decide)) (pc' := 101) rfl ?_
    refine oGo W9 [.iconst 1, .goto 4, .istore 13, .aload 8, .aload 9, .aload 10, .aload 11] (by decide +kernel) (ls' := #[.val (.int i0), .val (.int i1), .val (.int i2), .val (.int i3), .val (.int i4), .val (.int i5), .val (.ref ra), .val d, .val i, .val u, .val j, .val t, .val (.ref a7), .val (.int (1 : Int32)), .unset, .unset, .unset, .unset, .unset]) (st' := [t, j, u, i]) rfl (by simp [oOne, own_isR, own_isN, own_caR, own_caN, own_caI, h_i, refCat h_i, h_j, refCat h_j, h_t, refCat h_t, h_u, refCat h_u]) (pc' := 116) rfl ?_
    obtain ⟨v15, T15, L15, h15, vm15, W15, ⟨p15, rfl, E15, X15, F15⟩, C15, st15⟩ := oCallS W9 (idx := 92) (pc := 116) (ls := #[.val (.int i0), .val (.int i1), .val (.int i2), .val (.int i3), .val (.int i4), .val (.int i5), .val (.ref ra), .val d, .val i, .val u, .val j, .val t, .val (.ref a7), .val (.int (1 : Int32)), .unset, .unset, .unset, .unset, .unset]) (st := []) (argsL := [i, u, j, t]) (c_accepted K h_i h_u h_j h_t) (fun x hx => nomatch hx) (hw _ (List.mem_of_getElem? (i := 59) rfl)) (hw _ (List.mem_of_getElem? (i := 60) rfl)) (hw _ (List.mem_of_getElem? (i := 32) rfl)) (hw _ (List.mem_of_getElem? (i := 61) rfl)) (by decide) (na := 4) rfl (by decide +kernel) rfl (stk := [t, j, u, i]) rfl (by decide +kernel) (V := 0) (lb rfl) (lb rfl) (lb rfl) (lb rfl) (lb rfl)
    refine oLift st15 ?_
    refine oGo W15 [.astore 14, .aload 14] (by decide +kernel) (ls' := #[.val (.int i0), .val (.int i1), .val (.int i2), .val (.int i3), .val (.int i4), .val (.int i5), .val (.ref ra), .val d, .val i, .val u, .val j, .val t, .val (.ref a7), .val (.int (1 : Int32)), .val (.ref p15), .unset, .unset, .unset, .unset]) (st' := [(.ref p15)]) rfl rfl (pc' := 123) rfl ?_
    obtain ⟨v16, T16, L16, h16, vm16, W16, ⟨rfl, e16⟩, C16, st16⟩ := oCallV W15 (idx := 88) (pc := 123) (ls := #[.val (.int i0), .val (.int i1), .val (.int i2), .val (.int i3), .val (.int i4), .val (.int i5), .val (.ref ra), .val d, .val i, .val u, .val j, .val t, .val (.ref a7), .val (.int (1 : Int32)), .val (.ref p15), .unset, .unset, .unset, .unset]) (st := []) (argsL := []) X15 (c_acc K rfl F15) (fun x hx => nomatch hx) (hw _ (List.mem_of_getElem? (i := 54) rfl)) (hw _ (List.mem_of_getElem? (i := 55) rfl)) (notFace_of_selects (args := #[]) (mvT W15.warm (hw _ (List.mem_of_getElem? (i := 57) rfl)))) (hw _ (List.mem_of_getElem? (i := 57) rfl)) (hw _ (List.mem_of_getElem? (i := 56) rfl)) (hw _ (List.mem_of_getElem? (i := 32) rfl)) (hw _ (List.mem_of_getElem? (i := 58) rfl)) (by decide) (na := 0) rfl (by decide +kernel) rfl (stk := [(.ref p15)]) rfl (by decide +kernel) (V := 0) (lb rfl) (lb rfl) (lb rfl) (lb rfl) (lb rfl)
    refine oLift st16 ?_
    rw [e16] at W16 C16
    show OG _ _ _ _ _ _ _ _ _ _ _ (mkF m 126 #[.val (.int i0), .val (.int i1), .val (.int i2), .val (.int i3), .val (.int i4), .val (.int i5), .val (.ref ra), .val d, .val i, .val u, .val j, .val t, .val (.ref a7), .val (.int (1 : Int32)), .val (.ref p15), .unset, .unset, .unset, .unset] [(.int (1 : Int32))])
    refine oGo W16 [.istore 15, .aload 6] (by decide +kernel) (ls' := #[.val (.int i0), .val (.int i1), .val (.int i2), .val (.int i3), .val (.int i4), .val (.int i5), .val (.ref ra), .val d, .val i, .val u, .val j, .val t, .val (.ref a7), .val (.int (1 : Int32)), .val (.ref p15), .val (.int (1 : Int32)), .unset, .unset, .unset]) (st' := [(.ref ra)]) rfl rfl (pc' := 130) rfl ?_
    refine oNnT W16 (o := 9) (by decide +kernel) (pc' := 139) (by decide) (by decide) ?_
    refine oGo W16 [.aload 6, .astore 16, .aload 16, .aload 7] (by decide +kernel) (ls' := #[.val (.int i0), .val (.int i1), .val (.int i2), .val (.int i3), .val (.int i4), .val (.int i5), .val (.ref ra), .val d, .val i, .val u, .val j, .val t, .val (.ref a7), .val (.int (1 : Int32)), .val (.ref p15), .val (.int (1 : Int32)), .val (.ref ra), .unset, .unset]) (st' := [d, (.ref ra)]) rfl (by simp [oOne, own_isR, own_isN, own_caR, own_caN, own_caI, h_d, refCat h_d]) (pc' := 147) rfl ?_
    obtain ⟨v17, T17, L17, h17, vm17, W17, ⟨p17, rfl, E17, X17, F17⟩, C17, st17⟩ := oCallS W16 (idx := 96) (pc := 147) (ls := #[.val (.int i0), .val (.int i1), .val (.int i2), .val (.int i3), .val (.int i4), .val (.int i5), .val (.ref ra), .val d, .val i, .val u, .val j, .val t, .val (.ref a7), .val (.int (1 : Int32)), .val (.ref p15), .val (.int (1 : Int32)), .val (.ref ra), .unset, .unset]) (st := []) (argsL := [(.ref ra), d]) (c_rejected K h_d) (fun x hx => nomatch hx) (hw _ (List.mem_of_getElem? (i := 67) rfl)) (hw _ (List.mem_of_getElem? (i := 68) rfl)) (hw _ (List.mem_of_getElem? (i := 32) rfl)) (hw _ (List.mem_of_getElem? (i := 69) rfl)) (by decide) (na := 2) rfl (by decide +kernel) rfl (stk := [d, (.ref ra)]) rfl (by decide +kernel) (V := 0) (lb rfl) (lb rfl) (lb rfl) (lb rfl) (lb rfl)
    refine oLift st17 ?_
    refine oGo W17 [.astore 17, .aload 17] (by decide +kernel) (ls' := #[.val (.int i0), .val (.int i1), .val (.int i2), .val (.int i3), .val (.int i4), .val (.int i5), .val (.ref ra), .val d, .val i, .val u, .val j, .val t, .val (.ref a7), .val (.int (1 : Int32)), .val (.ref p15), .val (.int (1 : Int32)), .val (.ref ra), .val (.ref p17), .unset]) (st' := [(.ref p17)]) rfl rfl (pc' := 154) rfl ?_
    obtain ⟨v18, T18, L18, h18, vm18, W18, ⟨rfl, e18⟩, C18, st18⟩ := oCallV W17 (idx := 88) (pc := 154) (ls := #[.val (.int i0), .val (.int i1), .val (.int i2), .val (.int i3), .val (.int i4), .val (.int i5), .val (.ref ra), .val d, .val i, .val u, .val j, .val t, .val (.ref a7), .val (.int (1 : Int32)), .val (.ref p15), .val (.int (1 : Int32)), .val (.ref ra), .val (.ref p17), .unset]) (st := []) (argsL := []) X17 (c_acc K rfl F17) (fun x hx => nomatch hx) (hw _ (List.mem_of_getElem? (i := 54) rfl)) (hw _ (List.mem_of_getElem? (i := 55) rfl)) (notFace_of_selects (args := #[]) (mvT W17.warm (hw _ (List.mem_of_getElem? (i := 57) rfl)))) (hw _ (List.mem_of_getElem? (i := 57) rfl)) (hw _ (List.mem_of_getElem? (i := 56) rfl)) (hw _ (List.mem_of_getElem? (i := 32) rfl)) (hw _ (List.mem_of_getElem? (i := 58) rfl)) (by decide) (na := 0) rfl (by decide +kernel) rfl (stk := [(.ref p17)]) rfl (by decide +kernel) (V := 0) (lb rfl) (lb rfl) (lb rfl) (lb rfl) (lb rfl)
    refine oLift st18 ?_
    rw [e18] at W18 C18
    show OG _ _ _ _ _ _ _ _ _ _ _ (mkF m 157 #[.val (.int i0), .val (.int i1), .val (.int i2), .val (.int i3), .val (.int i4), .val (.int i5), .val (.ref ra), .val d, .val i, .val u, .val j, .val t, .val (.ref a7), .val (.int (1 : Int32)), .val (.ref p15), .val (.int (1 : Int32)), .val (.ref ra), .val (.ref p17), .unset] [(.int (if (Value.ref ra) = .null then 1 else 0))])
    rw [if_neg (by simp)]
    refine oIfF W18 (cd := .ne) (o := 7) (by decide +kernel) (XT.i0_ne_f (by decide)) (pc' := 160) rfl ?_
    refine oGo W18 [.iconst 1, .goto 4, .istore 18, .iload 13] (by decide +kernel) (ls' := #[.val (.int i0), .val (.int i1), .val (.int i2), .val (.int i3), .val (.int i4), .val (.int i5), .val (.ref ra), .val d, .val i, .val u, .val j, .val t, .val (.ref a7), .val (.int (1 : Int32)), .val (.ref p15), .val (.int (1 : Int32)), .val (.ref ra), .val (.ref p17), .val (.int (1 : Int32))]) (st' := [(.int (1 : Int32))]) rfl rfl (pc' := 169) rfl ?_
    refine oIfF W18 (cd := .eq) (o := 17) (by decide +kernel) (XT.i0_eq_f (by decide)) (pc' := 172) rfl ?_
    refine oGo W18 [.iload 15] (by decide +kernel) (ls' := #[.val (.int i0), .val (.int i1), .val (.int i2), .val (.int i3), .val (.int i4), .val (.int i5), .val (.ref ra), .val d, .val i, .val u, .val j, .val t, .val (.ref a7), .val (.int (1 : Int32)), .val (.ref p15), .val (.int (1 : Int32)), .val (.ref ra), .val (.ref p17), .val (.int (1 : Int32))]) (st' := [(.int (1 : Int32))]) rfl rfl (pc' := 174) rfl ?_
    refine oIfF W18 (cd := .eq) (o := 12) (by decide +kernel) (XT.i0_eq_f (by decide)) (pc' := 177) rfl ?_
    refine oGo W18 [.iload 18] (by decide +kernel) (ls' := #[.val (.int i0), .val (.int i1), .val (.int i2), .val (.int i3), .val (.int i4), .val (.int i5), .val (.ref ra), .val d, .val i, .val u, .val j, .val t, .val (.ref a7), .val (.int (1 : Int32)), .val (.ref p15), .val (.int (1 : Int32)), .val (.ref ra), .val (.ref p17), .val (.int (1 : Int32))]) (st' := [(.int (1 : Int32))]) rfl rfl (pc' := 179) rfl ?_
    refine oIfF W18 (cd := .eq) (o := 7) (by decide +kernel) (XT.i0_eq_f (by decide)) (pc' := 182) rfl ?_
    refine oGo W18 [.iconst 1, .goto 4] (by decide +kernel) (ls' := #[.val (.int i0), .val (.int i1), .val (.int i2), .val (.int i3), .val (.int i4), .val (.int i5), .val (.ref ra), .val d, .val i, .val u, .val j, .val t, .val (.ref a7), .val (.int (1 : Int32)), .val (.ref p15), .val (.int (1 : Int32)), .val (.ref ra), .val (.ref p17), .val (.int (1 : Int32))]) (st' := [(.int (1 : Int32))]) rfl rfl (pc' := 187) rfl ?_
    exact oRetN (by simp) W18 rfl (by decide +kernel) (lb rfl) (lb rfl) (fun vm' hv => rfl)
set_option maxRecDepth 65536 in
set_option maxHeartbeats 40000000 in
theorem comes_1 {Post : Tables → Env → Array Value → State → Outcome → State → Prop} (hpost : ∀ tb e args s v u, (limb_1_1.after args s (.returned v) u = true ∧ limb_1_2.after args s (.returned v) u = true ∧ True) → ReturnedEndW s (.returned v) u (Jvm.fieldLocs frame_1_writes args s ++ Jvm.arrayLocs frame_1_arrays args s ++ Jvm.staticLocs frame_1_statics s) 48 1216 → Post tb e args s (.returned v) u) :
    ArmFor flags0 classFile x code maxLocals ret World_1 tables_1 room_1 Calls_1 rest_1 Pre_1 Post := by
  intro l hfl _ _ p e ha hc hk s m args below hf hA hF happ hP
  obtain ⟨hcalls, hrest, hpre⟩ := hP
  obtain ⟨-, -, -, hnamed, -, -, -, hat⟩ := (Spec.applies_iff hf).mp happ
  obtain ⟨hg, hn⟩ := and_e (Cond.before_iff.mp (show (Jvm.Cond.and given_1 narrow_1).before args s = true from hpre))
  obtain ⟨hcnt, t0⟩ := and_e hg
  obtain ⟨g0, t1⟩ := and_e t0
  obtain ⟨g1, t2⟩ := and_e t1
  obtain ⟨g2, t3⟩ := and_e t2
  obtain ⟨g3, t4⟩ := and_e t3
  obtain ⟨g4, t5⟩ := and_e t4
  obtain ⟨w0, w1, w2, w3, w4, w5, rfl⟩ : ∃ w0 w1 w2 w3 w4 w5 : Value, args = #[w0, w1, w2, w3, w4, w5] := by
    have hs : args.size = 6 := by simpa [Cond.value, given_1] using hcnt
    obtain ⟨L⟩ := args
    match L, hs with
    | [w0, w1, w2, w3, w4, w5], _ => exact ⟨w0, w1, w2, w3, w4, w5, rfl⟩
  have hw := fun d (hd : d ∈ tables_1) => atoms_spec (ws := Jvm.Cond.code x code maxLocals ret :: tables_1) hat d (List.mem_cons_of_mem _ hd)
  obtain ⟨hsets, hown0⟩ := atoms_of _ (rest_1_c_eq ▸ (show rest_1_c.before _ s = true from hrest))
  obtain ⟨i0, e0⟩ := is_v g0
  obtain rfl : w0 = (.int i0) := Option.some.inj e0
  obtain ⟨i1, e1⟩ := is_v g1
  obtain rfl : w1 = (.int i1) := Option.some.inj e1
  obtain ⟨i2, e2⟩ := is_v g2
  obtain rfl : w2 = (.int i2) := Option.some.inj e2
  obtain ⟨i3, e3⟩ := is_v g3
  obtain rfl : w3 = (.int i3) := Option.some.inj e3
  obtain ⟨i4, e4⟩ := is_v g4
  obtain rfl : w4 = (.int i4) := Option.some.inj e4
  obtain ⟨i5, e5⟩ := is_v t5
  obtain rfl : w5 = (.int i5) := Option.some.inj e5
  have n5 := not_v (Cond.before_iff.mp (hsets _ (List.mem_of_getElem? (i := 2) rfl)))
  obtain ⟨z, ez⟩ := is_v (Cond.before_iff.mp (hsets _ (List.mem_of_getElem? (i := 1) rfl)))
  have Sz : Sta s s.heap "java/lang/String" "COMPACT_STRINGS" "Z" (.int z) := Sta.start ez (Or.inl (hsets _ (List.mem_of_getElem? (i := 0) rfl)))
  have cz : ¬ (z = (0 : Int32)) := gotF (Cond.eq_ints ez (Term.int_eval (0))) n5
  obtain ⟨c0, u1⟩ := and_e hn
  obtain ⟨c1, u2⟩ := and_e u1
  obtain ⟨c2, u3⟩ := and_e u2
  obtain ⟨c3, u4⟩ := and_e u3
  obtain ⟨c4, u5⟩ := and_e u4
  obtain ⟨c5, u6⟩ := and_e u5
  obtain ⟨c6, u7⟩ := and_e u6
  obtain ⟨c7, u8⟩ := and_e u7
  obtain ⟨c8, u9⟩ := and_e u8
  obtain ⟨c9, u10⟩ := and_e u9
  obtain ⟨c10, u11⟩ := and_e u10
  obtain ⟨c11, u12⟩ := and_e u11
  obtain ⟨c12, u13⟩ := and_e u12
  obtain ⟨c13, u14⟩ := and_e u13
  obtain ⟨c14, u15⟩ := and_e u14
  obtain ⟨c15, u16⟩ := and_e u15
  obtain ⟨c16, u17⟩ := and_e u16
  obtain ⟨c17, u18⟩ := and_e u17
  have c18 := u18
  have hR : ∀ n ∈ rsn, ∃ a, Sta s s.heap "attestant/service/Reason" n "Lattestant/service/Reason;" (.ref a) := by
    intro n hn
    simp only [rsn, List.mem_cons, List.not_mem_nil, or_false] at hn
    rcases hn with rfl | rfl | rfl | rfl | rfl | rfl | rfl | rfl | rfl | rfl | rfl | rfl | rfl | rfl | rfl | rfl | rfl | rfl | rfl
    · obtain ⟨x, ex⟩ := exa_v c0
      exact ⟨x, Sta.start ex (Or.inr ⟨(hw _ (List.mem_of_getElem? (i := 65) rfl)), (hw _ (List.mem_of_getElem? (i := 66) rfl))⟩)⟩
    · obtain ⟨x, ex⟩ := exa_v c1
      exact ⟨x, Sta.start ex (Or.inr ⟨(hw _ (List.mem_of_getElem? (i := 65) rfl)), (hw _ (List.mem_of_getElem? (i := 71) rfl))⟩)⟩
    · obtain ⟨x, ex⟩ := exa_v c2
      exact ⟨x, Sta.start ex (Or.inr ⟨(hw _ (List.mem_of_getElem? (i := 65) rfl)), (hw _ (List.mem_of_getElem? (i := 73) rfl))⟩)⟩
    · obtain ⟨x, ex⟩ := exa_v c3
      exact ⟨x, Sta.start ex (Or.inr ⟨(hw _ (List.mem_of_getElem? (i := 65) rfl)), (hw _ (List.mem_of_getElem? (i := 75) rfl))⟩)⟩
    · obtain ⟨x, ex⟩ := exa_v c4
      exact ⟨x, Sta.start ex (Or.inr ⟨(hw _ (List.mem_of_getElem? (i := 65) rfl)), (hw _ (List.mem_of_getElem? (i := 88) rfl))⟩)⟩
    · obtain ⟨x, ex⟩ := exa_v c5
      exact ⟨x, Sta.start ex (Or.inr ⟨(hw _ (List.mem_of_getElem? (i := 65) rfl)), (hw _ (List.mem_of_getElem? (i := 90) rfl))⟩)⟩
    · obtain ⟨x, ex⟩ := exa_v c6
      exact ⟨x, Sta.start ex (Or.inr ⟨(hw _ (List.mem_of_getElem? (i := 65) rfl)), (hw _ (List.mem_of_getElem? (i := 92) rfl))⟩)⟩
    · obtain ⟨x, ex⟩ := exa_v c7
      exact ⟨x, Sta.start ex (Or.inr ⟨(hw _ (List.mem_of_getElem? (i := 65) rfl)), (hw _ (List.mem_of_getElem? (i := 94) rfl))⟩)⟩
    · obtain ⟨x, ex⟩ := exa_v c8
      exact ⟨x, Sta.start ex (Or.inr ⟨(hw _ (List.mem_of_getElem? (i := 65) rfl)), (hw _ (List.mem_of_getElem? (i := 96) rfl))⟩)⟩
    · obtain ⟨x, ex⟩ := exa_v c9
      exact ⟨x, Sta.start ex (Or.inr ⟨(hw _ (List.mem_of_getElem? (i := 65) rfl)), (hw _ (List.mem_of_getElem? (i := 98) rfl))⟩)⟩
    · obtain ⟨x, ex⟩ := exa_v c10
      exact ⟨x, Sta.start ex (Or.inr ⟨(hw _ (List.mem_of_getElem? (i := 65) rfl)), (hw _ (List.mem_of_getElem? (i := 100) rfl))⟩)⟩
    · obtain ⟨x, ex⟩ := exa_v c11
      exact ⟨x, Sta.start ex (Or.inr ⟨(hw _ (List.mem_of_getElem? (i := 65) rfl)), (hw _ (List.mem_of_getElem? (i := 102) rfl))⟩)⟩
    · obtain ⟨x, ex⟩ := exa_v c12
      exact ⟨x, Sta.start ex (Or.inr ⟨(hw _ (List.mem_of_getElem? (i := 65) rfl)), (hw _ (List.mem_of_getElem? (i := 104) rfl))⟩)⟩
    · obtain ⟨x, ex⟩ := exa_v c13
      exact ⟨x, Sta.start ex (Or.inr ⟨(hw _ (List.mem_of_getElem? (i := 65) rfl)), (hw _ (List.mem_of_getElem? (i := 106) rfl))⟩)⟩
    · obtain ⟨x, ex⟩ := exa_v c14
      exact ⟨x, Sta.start ex (Or.inr ⟨(hw _ (List.mem_of_getElem? (i := 65) rfl)), (hw _ (List.mem_of_getElem? (i := 108) rfl))⟩)⟩
    · obtain ⟨x, ex⟩ := exa_v c15
      exact ⟨x, Sta.start ex (Or.inr ⟨(hw _ (List.mem_of_getElem? (i := 65) rfl)), (hw _ (List.mem_of_getElem? (i := 110) rfl))⟩)⟩
    · obtain ⟨x, ex⟩ := exa_v c16
      exact ⟨x, Sta.start ex (Or.inr ⟨(hw _ (List.mem_of_getElem? (i := 65) rfl)), (hw _ (List.mem_of_getElem? (i := 112) rfl))⟩)⟩
    · obtain ⟨x, ex⟩ := exa_v c17
      exact ⟨x, Sta.start ex (Or.inr ⟨(hw _ (List.mem_of_getElem? (i := 65) rfl)), (hw _ (List.mem_of_getElem? (i := 114) rfl))⟩)⟩
    · obtain ⟨x, ex⟩ := exa_v c18
      exact ⟨x, Sta.start ex (Or.inr ⟨(hw _ (List.mem_of_getElem? (i := 65) rfl)), (hw _ (List.mem_of_getElem? (i := 116) rfl))⟩)⟩
  have hEW : EW s #[.int i0, .int i1, .int i2, .int i3, .int i4, .int i5] EL := EW.cons (hw _ (List.mem_of_getElem? (i := 22) rfl)) (by decide) EW.nil
  have hCH : CHv s EL s.vm s.heap := CHv.start hEW (fun p hp => hcalls.1 p hp) (hsets _ (List.mem_of_getElem? (i := 2) rfl)) (hw _ (List.mem_of_getElem? (i := 23) rfl)) (hw _ (List.mem_of_getElem? (i := 9) rfl))
  have K : Ctx s #[.int i0, .int i1, .int i2, .int i3, .int i4, .int i5] := ⟨hw, ⟨fun d hd => hw d (sW_in d hd), hEW, z, Sz, cz⟩, fun d hd => hw d (sA_in d hd), hR⟩
  obtain ⟨n, o, q1, q2, q3, v, L, rfl, ⟨rfl, N, -⟩, hnb, -, r1, r2, r3, r4⟩ := c_law (l := l) K i0 i1 i2 i3 i4 i5 s.heap p e ha hc hk s m _ below hf ((Spec.applies_iff_loose hf).mp happ).1 ⟨rfl, State.Warmed39.refl s, rfl, hCH, exR _, fun _ hp => nomatch hp⟩ trivial
  exact ⟨n, _, q1, q2, q3, hpost _ _ _ _ _ _ ⟨Cond.after_iff.mpr rfl, Cond.after_iff.mpr (eq_i res_at (Term.int_eval (1)) rfl), trivial⟩ ⟨r1, r2, r3, (r4.sift fun y hy => Or.inr (N y hy)).mono (by decide) (by decide)⟩⟩
theorem main_1_1 : Claimed_1_1 := comes_1 fun _ _ _ _ _ _ h hF => ⟨h.1, hF⟩
theorem main_1_2 : Claimed_1_2 := comes_1 fun _ _ _ _ _ _ h hF => ⟨h.2.1, hF⟩
end Jvm.Pilot.@@N@@
namespace Jvm.Pilot.@@N@@
open Jvm Jvm.ClassFile Sem Op Lib Jvm.Free Jvm.Stand Jvm.Pilot.@@N@@.Jvm.D
/-! MADE BY PROGRAM (witnessworld.py) out of the Statement's table words and the real class files: 23 classes; the members and pool entries that the words name. The judged class is class 1, her method 3. -/
namespace start1
open Jvm.ClassFile
def u (s : String) : CpInfo := .utf8 (stringToUtf16 s)
/-- a pool by its gaps: so many unusable entries, then the entry; so many at the end -/
def gap : Nat → List CpInfo → List CpInfo
  | 0, r => r
  | n + 1, r => .unusable :: gap n r
def poolList (es : List (Nat × CpInfo)) (last : Nat) : List CpInfo := es.foldr (fun e r => gap e.1 (e.2 :: r)) (gap last [])
def pool (es : List (Nat × CpInfo)) (last : Nat) : Array CpInfo := ⟨poolList es last⟩
def fileOf (pool : Array CpInfo) (this : Nat) (attrs : Array Attribute := #[]) (ms : Array MethodInfo := #[]) (fl : Nat := 33) (sup : Nat := 0) (ifs : Array Nat := #[]) (fds : Array FieldInfo := #[]) : ClassFile where
  minorVersion := 0
  majorVersion := 65
  constantPool := pool
  accessFlags := fl
  thisClass := this
  superClass := sup
  interfaces := ifs
  fields := fds
  methods := ms
  attributes := attrs
def plain (name : String) (sup : Option ClassId) : Class where
  name := name
  kind := .ordinary
  loader := none
  accessFlags := 33
  super := sup
  interfaces := #[]
  cf := none
  fields := #[]
  methods := #[]
  instanceTypes := #[]
  staticTypes := #[]
  resolved := #[]
  callSites := []
  init := .initialized
  statics := none
  mirror := none

def pool0 : Array CpInfo := pool [(5, u "<init>"), (0, u "()V"), (1, .class_ 10), (1, u "java/lang/Object")] 113

def k0c0 : Code := { maxStack := 0, maxLocals := 1, code := object_method_1_code, exceptionTable := #[], attributes := #[] }
def k0m0 : Method := { name := "<init>", desc := "()V", sig := { parameters := [], returnType := none }, accessFlags := 1, code := some k0c0 }
/-- java/lang/Object -/
def k0 : Class := { plain "java/lang/Object" none with
  accessFlags := 33
  interfaces := #[]
  cf := some (fileOf pool0 8 #[] #[{ accessFlags := 1, nameIndex := 5, descriptorIndex := 6, attributes := #[] }] 33 0 #[] #[])
  fields := #[]
  methods := #[k0m0]
  instanceTypes := #[]
  staticTypes := #[]
  resolved := Array.replicate 124 none
  statics := none }

def pool1 : Array CpInfo := pool [(2, .class_ 4), (1, u "java/lang/Object"), (0, u "<init>"), (0, u "()V"), (0, .integer 2147483647), (0, .fieldref 9 10), (0, .class_ 11), (0, .nameAndType 12 13), (0, u "attestant/service/Reason"), (0, u "MALFORMED_ARTIFACT"), (0, u "Lattestant/service/Reason;"), (0, .fieldref 9 15), (0, .nameAndType 16 13), (0, u "UNKNOWN_SOURCE"), (0, .fieldref 9 18), (0, .nameAndType 19 13), (0, u "RESPONDER_REFUSED"), (0, .fieldref 9 21), (0, .nameAndType 22 13), (0, u "RESPONDER_ERROR"), (0, .fieldref 9 24), (0, .nameAndType 25 13), (0, u "MALFORMED"), (0, .fieldref 9 27), (0, .nameAndType 28 13), (0, u "NOT_SIGNED"), (0, .fieldref 9 30), (0, .nameAndType 31 13), (0, u "ALGORITHM_NOT_ALLOWED"), (0, .fieldref 9 33), (0, .nameAndType 34 13), (0, u "SIGNATURE_INVALID"), (0, .fieldref 9 36), (0, .nameAndType 37 13), (0, u "STATUS_NOT_SUCCESS"), (0, .fieldref 9 39), (0, .nameAndType 40 13), (0, u "RECIPIENT_MISMATCH"), (0, .fieldref 9 42), (0, .nameAndType 43 13), (0, u "ASSERTION_COUNT"), (0, .fieldref 9 45), (0, .nameAndType 46 13), (0, u "NO_SSO_ASSERTION"), (0, .fieldref 9 48), (0, .nameAndType 49 13), (0, u "ISSUER_MISMATCH"), (0, .fieldref 9 51), (0, .nameAndType 52 13), (0, u "WRONG_CONFIRMATION"), (0, .fieldref 9 54), (0, .nameAndType 55 13), (0, u "AUDIENCE_MISMATCH"), (0, .fieldref 9 57), (0, .nameAndType 58 13), (0, u "CONDITION_NOT_UNDERSTOOD"), (0, .fieldref 9 60), (0, .nameAndType 61 13), (0, u "NOT_YET_VALID"), (0, .fieldref 9 63), (0, .nameAndType 64 13), (0, u "EXPIRED"), (0, .fieldref 9 66), (0, .nameAndType 67 13), (0, u "REPLAYED"), (0, .class_ 69), (0, u "java/lang/String"), (0, .methodref 68 71), (0, .nameAndType 5 72), (0, u "([C)V"), (0, .methodref 74 75), (0, .class_ 76), (0, .nameAndType 77 78), (0, u "attestant/service/PostDecisionIsAcceptedPinLaw"), (0, u "reasonOf"), (0, u "(I)Lattestant/service/Reason;"), (0, .methodref 74 80), (0, .nameAndType 81 82), (0, u "str"), (0, u "(II)Ljava/lang/String;"), (0, .class_ 84), (0, u "attestant/service/PostDecision"), (0, .methodref 83 86), (0, .nameAndType 5 87), (0, u "(Lattestant/service/Reason;Ljava/lang/String;Ljava/lang/String;Ljava/lang/String;Ljava/lang/String;Ljava/lang/String;)V"), (0, .methodref 83 89), (0, .nameAndType 90 91), (0, u "isAccepted"), (0, u "()Z"), (0, .methodref 83 93), (0, .nameAndType 94 95), (0, u "accepted"), (0, u "(Ljava/lang/String;Ljava/lang/String;Ljava/lang/String;Ljava/lang/String;)Lattestant/service/PostDecision;"), (0, .methodref 83 97), (0, .nameAndType 98 99), (0, u "rejected"), (0, u "(Lattestant/service/Reason;Ljava/lang/String;)Lattestant/service/PostDecision;"), (3, u "law"), (0, u "(IIIIII)Z")] 2

def k1m0 : Method := { name := "<init>", desc := "()V", sig := { parameters := [], returnType := none }, accessFlags := 2, code := none }
def k1c1 : Code := { maxStack := 2, maxLocals := 2, code := method_2_code, exceptionTable := #[], attributes := #[] }
def k1m1 : Method := { name := "reasonOf", desc := "(I)Lattestant/service/Reason;", sig := { parameters := [.int], returnType := some (.object "attestant/service/Reason") }, accessFlags := 10, code := some k1c1 }
def k1c2 : Code := { maxStack := 6, maxLocals := 6, code := method_3_code, exceptionTable := #[], attributes := #[] }
def k1m2 : Method := { name := "str", desc := "(II)Ljava/lang/String;", sig := { parameters := [.int, .int], returnType := some (.object "java/lang/String") }, accessFlags := 10, code := some k1c2 }
def k1c3 : Code := { maxStack := 8, maxLocals := 19, code := code, exceptionTable := #[], attributes := #[] }
def k1m3 : Method := { name := "law", desc := "(IIIIII)Z", sig := { parameters := [.int, .int, .int, .int, .int, .int], returnType := some .boolean }, accessFlags := 9, code := some k1c3 }
/-- attestant/service/PostDecisionIsAcceptedPinLaw -/
def k1 : Class := { plain "attestant/service/PostDecisionIsAcceptedPinLaw" (some 0) with
  accessFlags := 49
  interfaces := #[]
  cf := some (fileOf pool1 74 #[] #[{ accessFlags := 2, nameIndex := 5, descriptorIndex := 6, attributes := #[] }, { accessFlags := 10, nameIndex := 77, descriptorIndex := 78, attributes := #[] }, { accessFlags := 10, nameIndex := 81, descriptorIndex := 82, attributes := #[] }, { accessFlags := 9, nameIndex := 103, descriptorIndex := 104, attributes := #[] }] 49 2 #[] #[])
  fields := #[]
  methods := #[k1m0, k1m1, k1m2, k1m3]
  instanceTypes := #[]
  staticTypes := #[]
  resolved := Array.replicate 107 none
  statics := none }

def pool2 : Array CpInfo := pool [(1, .class_ 2), (0, u "java/io/Serializable"), (0, .class_ 4), (0, u "java/lang/Object")] 2

/-- java/io/Serializable -/
def k2 : Class := { plain "java/io/Serializable" (some 0) with
  accessFlags := 1537
  interfaces := #[]
  cf := some (fileOf pool2 1 #[] #[] 1537 3 #[] #[])
  fields := #[]
  methods := #[]
  instanceTypes := #[]
  staticTypes := #[]
  resolved := Array.replicate 7 none
  statics := none }

def pool3 : Array CpInfo := pool [(1, .class_ 2), (0, u "java/lang/Comparable"), (0, .class_ 4), (0, u "java/lang/Object")] 7

/-- java/lang/Comparable -/
def k3 : Class := { plain "java/lang/Comparable" (some 0) with
  accessFlags := 1537
  interfaces := #[]
  cf := some (fileOf pool3 1 #[] #[] 1537 3 #[] #[])
  fields := #[]
  methods := #[]
  instanceTypes := #[]
  staticTypes := #[]
  resolved := Array.replicate 12 none
  statics := none }

def pool4 : Array CpInfo := pool [(2, .class_ 4), (1, u "java/lang/CharSequence"), (42, .class_ 48), (0, u "java/lang/CharSequence$1CodePointIterator"), (10, .class_ 60), (0, u "java/lang/CharSequence$1CharIterator"), (5, .class_ 67), (0, u "java/lang/Object")] 63

/-- java/lang/CharSequence -/
def k4 : Class := { plain "java/lang/CharSequence" (some 0) with
  accessFlags := 1537
  interfaces := #[]
  cf := some (fileOf pool4 2 #[.nestMembers #[47, 59]] #[] 1537 66 #[] #[])
  fields := #[]
  methods := #[]
  instanceTypes := #[]
  staticTypes := #[]
  resolved := Array.replicate 131 none
  statics := none }

def pool5 : Array CpInfo := pool [(1, .class_ 2), (0, u "java/lang/constant/Constable"), (0, .class_ 4), (0, u "java/lang/Object")] 6

/-- java/lang/constant/Constable -/
def k5 : Class := { plain "java/lang/constant/Constable" (some 0) with
  accessFlags := 1537
  interfaces := #[]
  cf := some (fileOf pool5 1 #[] #[] 1537 3 #[] #[])
  fields := #[]
  methods := #[]
  instanceTypes := #[]
  staticTypes := #[]
  resolved := Array.replicate 11 none
  statics := none }

def pool6 : Array CpInfo := pool [(1, .class_ 2), (0, u "java/lang/constant/ConstantDesc"), (0, .class_ 4), (0, u "java/lang/Object")] 32

/-- java/lang/constant/ConstantDesc -/
def k6 : Class := { plain "java/lang/constant/ConstantDesc" (some 0) with
  accessFlags := 1537
  interfaces := #[]
  cf := some (fileOf pool6 1 #[] #[] 1537 3 #[] #[])
  fields := #[]
  methods := #[]
  instanceTypes := #[]
  staticTypes := #[]
  resolved := Array.replicate 37 none
  statics := none }

def pool7 : Array CpInfo := pool [(1, .methodref 2 3), (0, .class_ 4), (0, .nameAndType 5 6), (0, u "java/lang/Object"), (0, u "<init>"), (0, u "()V"), (0, .string 8), (0, u ""), (0, .fieldref 10 11), (0, .class_ 12), (0, .nameAndType 13 14), (0, u "java/lang/String"), (0, u "value"), (0, u "[B"), (0, .fieldref 10 16), (0, .nameAndType 17 18), (0, u "coder"), (0, u "B"), (2, u "hash"), (0, u "I"), (2, u "hashIsZero"), (0, u "Z"), (0, .methodref 10 28), (0, .nameAndType 5 29), (0, u "([CIILjava/lang/Void;)V"), (8, .fieldref 10 39), (0, .nameAndType 40 26), (0, u "COMPACT_STRINGS"), (1, .class_ 44), (1, u "java/lang/StringUTF16"), (0, u "compress"), (1, .methodref 42 48), (0, .nameAndType 49 50), (0, u "coderFromArrayLen"), (0, u "([BI)B"), (126, .methodref 42 178), (0, .nameAndType 45 179), (0, u "([CII)[B"), (395, .class_ 576), (0, u "java/lang/CharSequence"), (22, u "CASE_INSENSITIVE_ORDER"), (0, u "Ljava/util/Comparator;"), (409, u "([C)V"), (90, u "serialPersistentFields"), (0, u "[Ljava/io/ObjectStreamField;"), (0, .class_ 1104), (0, u "java/lang/String$CaseInsensitiveComparator"), (1, .class_ 1107), (0, u "java/io/Serializable"), (0, .class_ 1109), (0, u "java/lang/Comparable"), (0, .class_ 1111), (0, u "java/lang/constant/Constable"), (0, .class_ 1113), (0, u "java/lang/constant/ConstantDesc"), (2, u "serialVersionUID"), (0, u "J"), (3, u "REPL"), (0, u "C"), (2, u "LATIN1"), (1, u "UTF16")] 323

def k7m0 : Method := { name := "<init>", desc := "()V", sig := { parameters := [], returnType := none }, accessFlags := 1, code := none }
def k7c1 : Code := { maxStack := 5, maxLocals := 2, code := jdk_42_method_3_code, exceptionTable := #[], attributes := #[] }
def k7m1 : Method := { name := "<init>", desc := "([C)V", sig := { parameters := [(.array .char)], returnType := none }, accessFlags := 1, code := some k7c1 }
def k7c2 : Code := { maxStack := 4, maxLocals := 6, code := jdk_42_method_149_code, exceptionTable := #[], attributes := #[] }
def k7m2 : Method := { name := "<init>", desc := "([CIILjava/lang/Void;)V", sig := { parameters := [(.array .char), .int, .int, (.object "java/lang/Void")], returnType := none }, accessFlags := 2, code := some k7c2 }
/-- java/lang/String -/
def k7 : Class := { plain "java/lang/String" (some 0) with
  accessFlags := 49
  interfaces := #[2, 3, 4, 5, 6]
  cf := some (fileOf pool7 10 #[.nestMembers #[1103]] #[{ accessFlags := 1, nameIndex := 5, descriptorIndex := 6, attributes := #[] }, { accessFlags := 1, nameIndex := 5, descriptorIndex := 1010, attributes := #[] }, { accessFlags := 2, nameIndex := 5, descriptorIndex := 29, attributes := #[] }] 49 2 #[1106, 1108, 575, 1110, 1112] #[{ accessFlags := 18, nameIndex := 13, descriptorIndex := 14, attributes := #[] }, { accessFlags := 18, nameIndex := 17, descriptorIndex := 18, attributes := #[] }, { accessFlags := 2, nameIndex := 21, descriptorIndex := 22, attributes := #[] }, { accessFlags := 2, nameIndex := 25, descriptorIndex := 26, attributes := #[] }, { accessFlags := 26, nameIndex := 1116, descriptorIndex := 1117, attributes := #[] }, { accessFlags := 24, nameIndex := 40, descriptorIndex := 26, attributes := #[] }, { accessFlags := 26, nameIndex := 1101, descriptorIndex := 1102, attributes := #[] }, { accessFlags := 26, nameIndex := 1121, descriptorIndex := 1122, attributes := #[] }, { accessFlags := 25, nameIndex := 599, descriptorIndex := 600, attributes := #[] }, { accessFlags := 24, nameIndex := 1125, descriptorIndex := 18, attributes := #[] }, { accessFlags := 24, nameIndex := 1127, descriptorIndex := 18, attributes := #[] }])
  fields := #[{ name := "value", type := (.array .byte), accessFlags := 18, slot := 0, constantValue := 0 }, { name := "coder", type := .byte, accessFlags := 18, slot := 1, constantValue := 0 }, { name := "hash", type := .int, accessFlags := 2, slot := 2, constantValue := 0 }, { name := "hashIsZero", type := .boolean, accessFlags := 2, slot := 3, constantValue := 0 }, { name := "serialVersionUID", type := .long, accessFlags := 26, slot := 0, constantValue := 0 }, { name := "COMPACT_STRINGS", type := .boolean, accessFlags := 24, slot := 1, constantValue := 0 }, { name := "serialPersistentFields", type := (.array (.object "java/io/ObjectStreamField")), accessFlags := 26, slot := 2, constantValue := 0 }, { name := "REPL", type := .char, accessFlags := 26, slot := 3, constantValue := 0 }, { name := "CASE_INSENSITIVE_ORDER", type := (.object "java/util/Comparator"), accessFlags := 25, slot := 4, constantValue := 0 }, { name := "LATIN1", type := .byte, accessFlags := 24, slot := 5, constantValue := 0 }, { name := "UTF16", type := .byte, accessFlags := 24, slot := 6, constantValue := 0 }]
  methods := #[k7m0, k7m1, k7m2]
  instanceTypes := #[(.array .byte), .byte, .int, .boolean]
  staticTypes := #[.long, .boolean, (.array (.object "java/io/ObjectStreamField")), .char, (.object "java/util/Comparator"), .byte, .byte]
  resolved := Array.replicate 1451 none
  statics := some 0 }

def pool8 : Array CpInfo := pool [(1, .methodref 2 3), (0, .class_ 4), (0, .nameAndType 5 6), (0, u "java/lang/Object"), (0, u "<init>"), (0, u "()V"), (0, .class_ 8), (0, u "java/lang/Record")] 13

def k8c0 : Code := { maxStack := 1, maxLocals := 1, code := jdk_30_method_1_code, exceptionTable := #[], attributes := #[] }
def k8m0 : Method := { name := "<init>", desc := "()V", sig := { parameters := [], returnType := none }, accessFlags := 4, code := some k8c0 }
/-- java/lang/Record -/
def k8 : Class := { plain "java/lang/Record" (some 0) with
  accessFlags := 1057
  interfaces := #[]
  cf := some (fileOf pool8 7 #[] #[{ accessFlags := 4, nameIndex := 5, descriptorIndex := 6, attributes := #[] }] 1057 2 #[] #[])
  fields := #[]
  methods := #[k8m0]
  instanceTypes := #[]
  staticTypes := #[]
  resolved := Array.replicate 22 none
  statics := none }

def pool9 : Array CpInfo := pool [(1, .methodref 2 3), (0, .class_ 4), (0, .nameAndType 5 6), (0, u "java/lang/Record"), (0, u "<init>"), (0, u "()V"), (0, .fieldref 8 9), (0, .class_ 10), (0, .nameAndType 11 12), (0, u "attestant/service/PostDecision"), (0, u "reason"), (0, u "Lattestant/service/Reason;"), (0, .fieldref 8 14), (0, .nameAndType 15 16), (0, u "detail"), (0, u "Ljava/lang/String;"), (0, .fieldref 8 18), (0, .nameAndType 19 16), (0, u "issuer"), (0, .fieldref 8 21), (0, .nameAndType 22 16), (0, u "subject"), (0, .fieldref 8 24), (0, .nameAndType 25 16), (0, u "assertionId"), (0, .fieldref 8 27), (0, .nameAndType 28 16), (0, u "target"), (0, .methodref 8 30), (0, .nameAndType 5 31), (0, u "(Lattestant/service/Reason;Ljava/lang/String;Ljava/lang/String;Ljava/lang/String;Ljava/lang/String;Ljava/lang/String;)V"), (10, u "rejected"), (0, u "(Lattestant/service/Reason;Ljava/lang/String;)Lattestant/service/PostDecision;"), (15, u "accepted"), (0, u "(Ljava/lang/String;Ljava/lang/String;Ljava/lang/String;Ljava/lang/String;)Lattestant/service/PostDecision;"), (1, u "isAccepted"), (0, u "()Z")] 28

def k9c0 : Code := { maxStack := 2, maxLocals := 7, code := prog_65_method_1_code, exceptionTable := #[], attributes := #[] }
def k9m0 : Method := { name := "<init>", desc := "(Lattestant/service/Reason;Ljava/lang/String;Ljava/lang/String;Ljava/lang/String;Ljava/lang/String;Ljava/lang/String;)V", sig := { parameters := [(.object "attestant/service/Reason"), (.object "java/lang/String"), (.object "java/lang/String"), (.object "java/lang/String"), (.object "java/lang/String"), (.object "java/lang/String")], returnType := none }, accessFlags := 1, code := some k9c0 }
def k9c1 : Code := { maxStack := 8, maxLocals := 4, code := prog_65_method_2_code, exceptionTable := #[], attributes := #[] }
def k9m1 : Method := { name := "accepted", desc := "(Ljava/lang/String;Ljava/lang/String;Ljava/lang/String;Ljava/lang/String;)Lattestant/service/PostDecision;", sig := { parameters := [(.object "java/lang/String"), (.object "java/lang/String"), (.object "java/lang/String"), (.object "java/lang/String")], returnType := some (.object "attestant/service/PostDecision") }, accessFlags := 8, code := some k9c1 }
def k9c2 : Code := { maxStack := 8, maxLocals := 2, code := prog_65_method_3_code, exceptionTable := #[], attributes := #[] }
def k9m2 : Method := { name := "rejected", desc := "(Lattestant/service/Reason;Ljava/lang/String;)Lattestant/service/PostDecision;", sig := { parameters := [(.object "attestant/service/Reason"), (.object "java/lang/String")], returnType := some (.object "attestant/service/PostDecision") }, accessFlags := 8, code := some k9c2 }
def k9c3 : Code := { maxStack := 1, maxLocals := 1, code := prog_65_method_5_code, exceptionTable := #[], attributes := #[] }
def k9m3 : Method := { name := "isAccepted", desc := "()Z", sig := { parameters := [], returnType := some .boolean }, accessFlags := 1, code := some k9c3 }
/-- attestant/service/PostDecision -/
def k9 : Class := { plain "attestant/service/PostDecision" (some 8) with
  accessFlags := 49
  interfaces := #[]
  cf := some (fileOf pool9 8 #[] #[{ accessFlags := 1, nameIndex := 5, descriptorIndex := 31, attributes := #[] }, { accessFlags := 8, nameIndex := 59, descriptorIndex := 60, attributes := #[] }, { accessFlags := 8, nameIndex := 42, descriptorIndex := 43, attributes := #[] }, { accessFlags := 1, nameIndex := 62, descriptorIndex := 63, attributes := #[] }] 49 2 #[] #[{ accessFlags := 18, nameIndex := 11, descriptorIndex := 12, attributes := #[] }, { accessFlags := 18, nameIndex := 15, descriptorIndex := 16, attributes := #[] }, { accessFlags := 18, nameIndex := 19, descriptorIndex := 16, attributes := #[] }, { accessFlags := 18, nameIndex := 22, descriptorIndex := 16, attributes := #[] }, { accessFlags := 18, nameIndex := 25, descriptorIndex := 16, attributes := #[] }, { accessFlags := 18, nameIndex := 28, descriptorIndex := 16, attributes := #[] }])
  fields := #[{ name := "reason", type := (.object "attestant/service/Reason"), accessFlags := 18, slot := 0, constantValue := 0 }, { name := "detail", type := (.object "java/lang/String"), accessFlags := 18, slot := 1, constantValue := 0 }, { name := "issuer", type := (.object "java/lang/String"), accessFlags := 18, slot := 2, constantValue := 0 }, { name := "subject", type := (.object "java/lang/String"), accessFlags := 18, slot := 3, constantValue := 0 }, { name := "assertionId", type := (.object "java/lang/String"), accessFlags := 18, slot := 4, constantValue := 0 }, { name := "target", type := (.object "java/lang/String"), accessFlags := 18, slot := 5, constantValue := 0 }]
  methods := #[k9m0, k9m1, k9m2, k9m3]
  instanceTypes := #[(.object "attestant/service/Reason"), (.object "java/lang/String"), (.object "java/lang/String"), (.object "java/lang/String"), (.object "java/lang/String"), (.object "java/lang/String")]
  staticTypes := #[]
  resolved := Array.replicate 92 none
  statics := none }

def pool10 : Array CpInfo := pool [(2, .class_ 4), (1, u "java/lang/Enum"), (0, u "name"), (0, u "Ljava/lang/String;"), (2, u "ordinal"), (0, u "I"), (1, .class_ 14), (1, u "java/lang/Object"), (4, u "hash"), (86, .class_ 108), (1, u "java/lang/Enum$EnumDesc"), (2, .class_ 112), (0, u "java/lang/constant/Constable"), (0, .class_ 114), (0, u "java/lang/Comparable"), (0, .class_ 116), (0, u "java/io/Serializable")] 87

/-- java/lang/Enum -/
def k10 : Class := { plain "java/lang/Enum" (some 0) with
  accessFlags := 1057
  interfaces := #[5, 3, 2]
  cf := some (fileOf pool10 2 #[.nestMembers #[106]] #[] 1057 12 #[111, 113, 115] #[{ accessFlags := 18, nameIndex := 5, descriptorIndex := 6, attributes := #[] }, { accessFlags := 18, nameIndex := 9, descriptorIndex := 10, attributes := #[] }, { accessFlags := 2, nameIndex := 19, descriptorIndex := 10, attributes := #[] }])
  fields := #[{ name := "name", type := (.object "java/lang/String"), accessFlags := 18, slot := 0, constantValue := 0 }, { name := "ordinal", type := .int, accessFlags := 18, slot := 1, constantValue := 0 }, { name := "hash", type := .int, accessFlags := 2, slot := 2, constantValue := 0 }]
  methods := #[]
  instanceTypes := #[(.object "java/lang/String"), .int, .int]
  staticTypes := #[]
  resolved := Array.replicate 204 none
  statics := none }

def pool11 : Array CpInfo := pool [(1, .class_ 2), (0, u "attestant/service/Reason"), (2, u "MALFORMED_ARTIFACT"), (0, u "Lattestant/service/Reason;"), (2, u "UNKNOWN_SOURCE"), (2, u "RESPONDER_REFUSED"), (2, u "RESPONDER_ERROR"), (2, u "MALFORMED"), (2, u "NOT_SIGNED"), (2, u "ALGORITHM_NOT_ALLOWED"), (2, u "SIGNATURE_INVALID"), (2, u "STATUS_NOT_SUCCESS"), (2, u "RECIPIENT_MISMATCH"), (2, u "ASSERTION_COUNT"), (2, u "NO_SSO_ASSERTION"), (2, u "ISSUER_MISMATCH"), (2, u "WRONG_CONFIRMATION"), (2, u "AUDIENCE_MISMATCH"), (2, u "CONDITION_NOT_UNDERSTOOD"), (2, u "NOT_YET_VALID"), (2, u "EXPIRED"), (2, u "REPLAYED"), (2, u "$VALUES"), (0, u "[Lattestant/service/Reason;"), (6, .class_ 73), (1, u "java/lang/Enum"), (7, .class_ 83), (1, u "attestant/service/Reason$1")] 79

/-- attestant/service/Reason -/
def k11 : Class := { plain "attestant/service/Reason" (some 10) with
  accessFlags := 16433
  interfaces := #[]
  cf := some (fileOf pool11 1 #[.nestMembers #[81]] #[] 16433 71 #[] #[{ accessFlags := 16409, nameIndex := 5, descriptorIndex := 6, attributes := #[] }, { accessFlags := 16409, nameIndex := 9, descriptorIndex := 6, attributes := #[] }, { accessFlags := 16409, nameIndex := 12, descriptorIndex := 6, attributes := #[] }, { accessFlags := 16409, nameIndex := 15, descriptorIndex := 6, attributes := #[] }, { accessFlags := 16409, nameIndex := 18, descriptorIndex := 6, attributes := #[] }, { accessFlags := 16409, nameIndex := 21, descriptorIndex := 6, attributes := #[] }, { accessFlags := 16409, nameIndex := 24, descriptorIndex := 6, attributes := #[] }, { accessFlags := 16409, nameIndex := 27, descriptorIndex := 6, attributes := #[] }, { accessFlags := 16409, nameIndex := 30, descriptorIndex := 6, attributes := #[] }, { accessFlags := 16409, nameIndex := 33, descriptorIndex := 6, attributes := #[] }, { accessFlags := 16409, nameIndex := 36, descriptorIndex := 6, attributes := #[] }, { accessFlags := 16409, nameIndex := 39, descriptorIndex := 6, attributes := #[] }, { accessFlags := 16409, nameIndex := 42, descriptorIndex := 6, attributes := #[] }, { accessFlags := 16409, nameIndex := 45, descriptorIndex := 6, attributes := #[] }, { accessFlags := 16409, nameIndex := 48, descriptorIndex := 6, attributes := #[] }, { accessFlags := 16409, nameIndex := 51, descriptorIndex := 6, attributes := #[] }, { accessFlags := 16409, nameIndex := 54, descriptorIndex := 6, attributes := #[] }, { accessFlags := 16409, nameIndex := 57, descriptorIndex := 6, attributes := #[] }, { accessFlags := 16409, nameIndex := 60, descriptorIndex := 6, attributes := #[] }, { accessFlags := 4122, nameIndex := 63, descriptorIndex := 64, attributes := #[] }])
  fields := #[{ name := "MALFORMED_ARTIFACT", type := (.object "attestant/service/Reason"), accessFlags := 16409, slot := 0, constantValue := 0 }, { name := "UNKNOWN_SOURCE", type := (.object "attestant/service/Reason"), accessFlags := 16409, slot := 1, constantValue := 0 }, { name := "RESPONDER_REFUSED", type := (.object "attestant/service/Reason"), accessFlags := 16409, slot := 2, constantValue := 0 }, { name := "RESPONDER_ERROR", type := (.object "attestant/service/Reason"), accessFlags := 16409, slot := 3, constantValue := 0 }, { name := "MALFORMED", type := (.object "attestant/service/Reason"), accessFlags := 16409, slot := 4, constantValue := 0 }, { name := "NOT_SIGNED", type := (.object "attestant/service/Reason"), accessFlags := 16409, slot := 5, constantValue := 0 }, { name := "ALGORITHM_NOT_ALLOWED", type := (.object "attestant/service/Reason"), accessFlags := 16409, slot := 6, constantValue := 0 }, { name := "SIGNATURE_INVALID", type := (.object "attestant/service/Reason"), accessFlags := 16409, slot := 7, constantValue := 0 }, { name := "STATUS_NOT_SUCCESS", type := (.object "attestant/service/Reason"), accessFlags := 16409, slot := 8, constantValue := 0 }, { name := "RECIPIENT_MISMATCH", type := (.object "attestant/service/Reason"), accessFlags := 16409, slot := 9, constantValue := 0 }, { name := "ASSERTION_COUNT", type := (.object "attestant/service/Reason"), accessFlags := 16409, slot := 10, constantValue := 0 }, { name := "NO_SSO_ASSERTION", type := (.object "attestant/service/Reason"), accessFlags := 16409, slot := 11, constantValue := 0 }, { name := "ISSUER_MISMATCH", type := (.object "attestant/service/Reason"), accessFlags := 16409, slot := 12, constantValue := 0 }, { name := "WRONG_CONFIRMATION", type := (.object "attestant/service/Reason"), accessFlags := 16409, slot := 13, constantValue := 0 }, { name := "AUDIENCE_MISMATCH", type := (.object "attestant/service/Reason"), accessFlags := 16409, slot := 14, constantValue := 0 }, { name := "CONDITION_NOT_UNDERSTOOD", type := (.object "attestant/service/Reason"), accessFlags := 16409, slot := 15, constantValue := 0 }, { name := "NOT_YET_VALID", type := (.object "attestant/service/Reason"), accessFlags := 16409, slot := 16, constantValue := 0 }, { name := "EXPIRED", type := (.object "attestant/service/Reason"), accessFlags := 16409, slot := 17, constantValue := 0 }, { name := "REPLAYED", type := (.object "attestant/service/Reason"), accessFlags := 16409, slot := 18, constantValue := 0 }, { name := "$VALUES", type := (.array (.object "attestant/service/Reason")), accessFlags := 4122, slot := 19, constantValue := 0 }]
  methods := #[]
  instanceTypes := #[(.object "java/lang/String"), .int, .int]
  staticTypes := #[(.object "attestant/service/Reason"), (.object "attestant/service/Reason"), (.object "attestant/service/Reason"), (.object "attestant/service/Reason"), (.object "attestant/service/Reason"), (.object "attestant/service/Reason"), (.object "attestant/service/Reason"), (.object "attestant/service/Reason"), (.object "attestant/service/Reason"), (.object "attestant/service/Reason"), (.object "attestant/service/Reason"), (.object "attestant/service/Reason"), (.object "attestant/service/Reason"), (.object "attestant/service/Reason"), (.object "attestant/service/Reason"), (.object "attestant/service/Reason"), (.object "attestant/service/Reason"), (.object "attestant/service/Reason"), (.object "attestant/service/Reason"), (.array (.object "attestant/service/Reason"))]
  resolved := Array.replicate 163 none
  statics := some 1 }

def pool12 : Array CpInfo := pool [(6, .class_ 8), (1, u "java/lang/Object"), (0, u "<init>"), (0, u "()V"), (1, .class_ 14), (1, u "java/lang/StringUTF16"), (31, u "$assertionsDisabled"), (0, u "Z"), (13, u "HI_BYTE_SHIFT"), (0, u "I"), (2, u "LO_BYTE_SHIFT"), (49, .methodref 12 116), (0, .nameAndType 117 118), (0, u "compress"), (0, u "([CI[BII)I"), (3, u "([CII)[B"), (138, u "coderFromArrayLen"), (0, u "([BI)B"), (106, .class_ 371), (1, u "java/lang/StringUTF16$LinesSpliterator"), (58, u "MAX_LENGTH"), (196, .class_ 628), (0, u "java/lang/StringUTF16$CodePointsSpliterator"), (0, .class_ 630), (0, u "java/lang/StringUTF16$CharsSpliterator")] 4

def k12m0 : Method := { name := "<init>", desc := "()V", sig := { parameters := [], returnType := none }, accessFlags := 0, code := none }
def k12c1 : Code := { maxStack := 2, maxLocals := 2, code := jdk_52_method_15_code, exceptionTable := #[], attributes := #[] }
def k12m1 : Method := { name := "coderFromArrayLen", desc := "([BI)B", sig := { parameters := [(.array .byte), .int], returnType := some .byte }, accessFlags := 8, code := some k12c1 }
def k12c2 : Code := { maxStack := 5, maxLocals := 6, code := jdk_52_method_16_code, exceptionTable := #[], attributes := #[] }
def k12m2 : Method := { name := "compress", desc := "([CII)[B", sig := { parameters := [(.array .char), .int, .int], returnType := some (.array .byte) }, accessFlags := 9, code := some k12c2 }
def k12c3 : Code := { maxStack := 3, maxLocals := 7, code := jdk_52_method_21_code, exceptionTable := #[], attributes := #[] }
def k12m3 : Method := { name := "compress", desc := "([CI[BII)I", sig := { parameters := [(.array .char), .int, (.array .byte), .int, .int], returnType := some .int }, accessFlags := 9, code := some k12c3 }
/-- java/lang/StringUTF16 -/
def k12 : Class := { plain "java/lang/StringUTF16" (some 0) with
  accessFlags := 48
  interfaces := #[]
  cf := some (fileOf pool12 12 #[.nestMembers #[627, 629, 369]] #[{ accessFlags := 0, nameIndex := 9, descriptorIndex := 10, attributes := #[] }, { accessFlags := 8, nameIndex := 261, descriptorIndex := 262, attributes := #[] }, { accessFlags := 9, nameIndex := 117, descriptorIndex := 122, attributes := #[] }, { accessFlags := 9, nameIndex := 117, descriptorIndex := 118, attributes := #[] }] 48 6 #[] #[{ accessFlags := 26, nameIndex := 61, descriptorIndex := 62, attributes := #[] }, { accessFlags := 26, nameIndex := 65, descriptorIndex := 62, attributes := #[] }, { accessFlags := 24, nameIndex := 430, descriptorIndex := 62, attributes := #[] }, { accessFlags := 4120, nameIndex := 46, descriptorIndex := 47, attributes := #[] }])
  fields := #[{ name := "HI_BYTE_SHIFT", type := .int, accessFlags := 26, slot := 0, constantValue := 0 }, { name := "LO_BYTE_SHIFT", type := .int, accessFlags := 26, slot := 1, constantValue := 0 }, { name := "MAX_LENGTH", type := .int, accessFlags := 24, slot := 2, constantValue := 0 }, { name := "$assertionsDisabled", type := .boolean, accessFlags := 4120, slot := 3, constantValue := 0 }]
  methods := #[k12m0, k12m1, k12m2, k12m3]
  instanceTypes := #[]
  staticTypes := #[.int, .int, .int, .boolean]
  resolved := Array.replicate 635 none
  statics := none }

def pool13 : Array CpInfo := pool [(4, .class_ 6), (1, u "java/lang/Object"), (0, u "<init>"), (0, u "()V"), (5, .class_ 16), (1, u "java/lang/StringLatin1"), (104, u "$assertionsDisabled"), (0, u "Z"), (98, .class_ 223), (1, u "java/lang/StringLatin1$LinesSpliterator"), (166, .class_ 391), (0, u "java/lang/StringLatin1$CharsSpliterator")] 3

def k13m0 : Method := { name := "<init>", desc := "()V", sig := { parameters := [], returnType := none }, accessFlags := 0, code := none }
/-- java/lang/StringLatin1 -/
def k13 : Class := { plain "java/lang/StringLatin1" (some 0) with
  accessFlags := 48
  interfaces := #[]
  cf := some (fileOf pool13 14 #[.nestMembers #[390, 221]] #[{ accessFlags := 0, nameIndex := 7, descriptorIndex := 8, attributes := #[] }] 48 4 #[] #[{ accessFlags := 4120, nameIndex := 121, descriptorIndex := 122, attributes := #[] }])
  fields := #[{ name := "$assertionsDisabled", type := .boolean, accessFlags := 4120, slot := 0, constantValue := 0 }]
  methods := #[k13m0]
  instanceTypes := #[]
  staticTypes := #[.boolean]
  resolved := Array.replicate 395 none
  statics := none }

def pool14 : Array CpInfo := pool [(2, .class_ 4), (1, u "java/lang/Object"), (0, u "<init>"), (0, u "()V"), (17, .class_ 26), (1, u "jdk/internal/util/Preconditions"), (28, .class_ 56), (0, u "jdk/internal/util/Preconditions$4"), (57, .class_ 115), (0, u "jdk/internal/util/Preconditions$1"), (7, u "SIOOBE_FORMATTER"), (0, u "Ljava/util/function/BiFunction;"), (0, .class_ 126), (0, u "jdk/internal/util/Preconditions$2"), (3, u "AIOOBE_FORMATTER"), (0, .class_ 132), (0, u "jdk/internal/util/Preconditions$3"), (3, u "IOOBE_FORMATTER")] 57

def k14m0 : Method := { name := "<init>", desc := "()V", sig := { parameters := [], returnType := none }, accessFlags := 1, code := none }
/-- jdk/internal/util/Preconditions -/
def k14 : Class := { plain "jdk/internal/util/Preconditions" (some 0) with
  accessFlags := 33
  interfaces := #[]
  cf := some (fileOf pool14 24 #[.nestMembers #[55, 131, 125, 114]] #[{ accessFlags := 1, nameIndex := 5, descriptorIndex := 6, attributes := #[] }] 33 2 #[] #[{ accessFlags := 25, nameIndex := 123, descriptorIndex := 124, attributes := #[] }, { accessFlags := 25, nameIndex := 130, descriptorIndex := 124, attributes := #[] }, { accessFlags := 25, nameIndex := 136, descriptorIndex := 124, attributes := #[] }])
  fields := #[{ name := "SIOOBE_FORMATTER", type := (.object "java/util/function/BiFunction"), accessFlags := 25, slot := 0, constantValue := 0 }, { name := "AIOOBE_FORMATTER", type := (.object "java/util/function/BiFunction"), accessFlags := 25, slot := 1, constantValue := 0 }, { name := "IOOBE_FORMATTER", type := (.object "java/util/function/BiFunction"), accessFlags := 25, slot := 2, constantValue := 0 }]
  methods := #[k14m0]
  instanceTypes := #[]
  staticTypes := #[(.object "java/util/function/BiFunction"), (.object "java/util/function/BiFunction"), (.object "java/util/function/BiFunction")]
  resolved := Array.replicate 194 none
  statics := some 2 }

def pool15 : Array CpInfo := pool [(9, u "<init>"), (6, .class_ 18), (1, u "java/lang/Object"), (0, u "()V"), (1, .class_ 23), (1, u "jdk/internal/util/ArraysSupport"), (0, u "LOG2_ARRAY_LONG_INDEX_SCALE"), (0, u "I"), (2, u "U"), (0, u "Ljdk/internal/misc/Unsafe;"), (8, u "BIG_ENDIAN"), (0, u "Z"), (8, u "LOG2_BYTE_BIT_SIZE"), (4, u "LOG2_ARRAY_INT_INDEX_SCALE"), (54, u "JLA"), (0, u "Ljdk/internal/access/JavaLangAccess;"), (11, u "LOG2_ARRAY_BOOLEAN_INDEX_SCALE"), (9, u "LOG2_ARRAY_BYTE_INDEX_SCALE"), (5, u "LOG2_ARRAY_CHAR_INDEX_SCALE"), (5, u "LOG2_ARRAY_SHORT_INDEX_SCALE"), (18, u "LOG2_ARRAY_FLOAT_INDEX_SCALE"), (24, u "LOG2_ARRAY_DOUBLE_INDEX_SCALE"), (89, u "T_BOOLEAN"), (2, u "T_CHAR"), (1, u "T_FLOAT"), (1, u "T_DOUBLE"), (1, u "T_BYTE"), (1, u "T_SHORT"), (1, u "T_INT"), (1, u "T_LONG"), (1, u "SOFT_MAX_ARRAY_LENGTH")] 83

def k15m0 : Method := { name := "<init>", desc := "()V", sig := { parameters := [], returnType := none }, accessFlags := 2, code := none }
/-- jdk/internal/util/ArraysSupport -/
def k15 : Class := { plain "jdk/internal/util/ArraysSupport" (some 0) with
  accessFlags := 33
  interfaces := #[]
  cf := some (fileOf pool15 21 #[] #[{ accessFlags := 2, nameIndex := 9, descriptorIndex := 19, attributes := #[] }] 33 16 #[] #[{ accessFlags := 24, nameIndex := 28, descriptorIndex := 29, attributes := #[] }, { accessFlags := 26, nameIndex := 38, descriptorIndex := 39, attributes := #[] }, { accessFlags := 25, nameIndex := 121, descriptorIndex := 25, attributes := #[] }, { accessFlags := 25, nameIndex := 131, descriptorIndex := 25, attributes := #[] }, { accessFlags := 25, nameIndex := 137, descriptorIndex := 25, attributes := #[] }, { accessFlags := 25, nameIndex := 143, descriptorIndex := 25, attributes := #[] }, { accessFlags := 25, nameIndex := 53, descriptorIndex := 25, attributes := #[] }, { accessFlags := 25, nameIndex := 24, descriptorIndex := 25, attributes := #[] }, { accessFlags := 25, nameIndex := 162, descriptorIndex := 25, attributes := #[] }, { accessFlags := 25, nameIndex := 187, descriptorIndex := 25, attributes := #[] }, { accessFlags := 26, nameIndex := 48, descriptorIndex := 25, attributes := #[] }, { accessFlags := 25, nameIndex := 277, descriptorIndex := 25, attributes := #[] }, { accessFlags := 25, nameIndex := 280, descriptorIndex := 25, attributes := #[] }, { accessFlags := 25, nameIndex := 282, descriptorIndex := 25, attributes := #[] }, { accessFlags := 25, nameIndex := 284, descriptorIndex := 25, attributes := #[] }, { accessFlags := 25, nameIndex := 286, descriptorIndex := 25, attributes := #[] }, { accessFlags := 25, nameIndex := 288, descriptorIndex := 25, attributes := #[] }, { accessFlags := 25, nameIndex := 290, descriptorIndex := 25, attributes := #[] }, { accessFlags := 25, nameIndex := 292, descriptorIndex := 25, attributes := #[] }, { accessFlags := 26, nameIndex := 108, descriptorIndex := 109, attributes := #[] }, { accessFlags := 25, nameIndex := 294, descriptorIndex := 25, attributes := #[] }])
  fields := #[{ name := "U", type := (.object "jdk/internal/misc/Unsafe"), accessFlags := 24, slot := 0, constantValue := 0 }, { name := "BIG_ENDIAN", type := .boolean, accessFlags := 26, slot := 1, constantValue := 0 }, { name := "LOG2_ARRAY_BOOLEAN_INDEX_SCALE", type := .int, accessFlags := 25, slot := 2, constantValue := 0 }, { name := "LOG2_ARRAY_BYTE_INDEX_SCALE", type := .int, accessFlags := 25, slot := 3, constantValue := 0 }, { name := "LOG2_ARRAY_CHAR_INDEX_SCALE", type := .int, accessFlags := 25, slot := 4, constantValue := 0 }, { name := "LOG2_ARRAY_SHORT_INDEX_SCALE", type := .int, accessFlags := 25, slot := 5, constantValue := 0 }, { name := "LOG2_ARRAY_INT_INDEX_SCALE", type := .int, accessFlags := 25, slot := 6, constantValue := 0 }, { name := "LOG2_ARRAY_LONG_INDEX_SCALE", type := .int, accessFlags := 25, slot := 7, constantValue := 0 }, { name := "LOG2_ARRAY_FLOAT_INDEX_SCALE", type := .int, accessFlags := 25, slot := 8, constantValue := 0 }, { name := "LOG2_ARRAY_DOUBLE_INDEX_SCALE", type := .int, accessFlags := 25, slot := 9, constantValue := 0 }, { name := "LOG2_BYTE_BIT_SIZE", type := .int, accessFlags := 26, slot := 10, constantValue := 0 }, { name := "T_BOOLEAN", type := .int, accessFlags := 25, slot := 11, constantValue := 0 }, { name := "T_CHAR", type := .int, accessFlags := 25, slot := 12, constantValue := 0 }, { name := "T_FLOAT", type := .int, accessFlags := 25, slot := 13, constantValue := 0 }, { name := "T_DOUBLE", type := .int, accessFlags := 25, slot := 14, constantValue := 0 }, { name := "T_BYTE", type := .int, accessFlags := 25, slot := 15, constantValue := 0 }, { name := "T_SHORT", type := .int, accessFlags := 25, slot := 16, constantValue := 0 }, { name := "T_INT", type := .int, accessFlags := 25, slot := 17, constantValue := 0 }, { name := "T_LONG", type := .int, accessFlags := 25, slot := 18, constantValue := 0 }, { name := "JLA", type := (.object "jdk/internal/access/JavaLangAccess"), accessFlags := 26, slot := 19, constantValue := 0 }, { name := "SOFT_MAX_ARRAY_LENGTH", type := .int, accessFlags := 25, slot := 20, constantValue := 0 }]
  methods := #[k15m0]
  instanceTypes := #[]
  staticTypes := #[(.object "jdk/internal/misc/Unsafe"), .boolean, .int, .int, .int, .int, .int, .int, .int, .int, .int, .int, .int, .int, .int, .int, .int, .int, .int, (.object "jdk/internal/access/JavaLangAccess"), .int]
  resolved := Array.replicate 378 none
  statics := none }

def pool16 : Array CpInfo := pool [(1, u "java/lang/Cloneable"), (0, .class_ 1), (0, u "java/lang/Object"), (0, .class_ 3)] 3

/-- java/lang/Cloneable -/
def k16 : Class := { plain "java/lang/Cloneable" (some 0) with
  accessFlags := 1537
  interfaces := #[]
  cf := some (fileOf pool16 2 #[] #[] 1537 4 #[] #[])
  fields := #[]
  methods := #[]
  instanceTypes := #[]
  staticTypes := #[]
  resolved := Array.replicate 8 none
  statics := none }

/-- the primitive byte -/
def k17 : Class := { plain "byte" none with kind := .primitive 'B', accessFlags := 0x411 }
/-- [B -/
def k18 : Class := { plain "[B" (some 0) with kind := .array 17 .byte, interfaces := #[16, 2], accessFlags := 1041 }

/-- the primitive char -/
def k19 : Class := { plain "char" none with kind := .primitive 'C', accessFlags := 0x411 }
/-- [C -/
def k20 : Class := { plain "[C" (some 0) with kind := .array 19 .char, interfaces := #[16, 2], accessFlags := 1041 }

/-- the primitive int -/
def k21 : Class := { plain "int" none with kind := .primitive 'I', accessFlags := 0x411 }
/-- [I -/
def k22 : Class := { plain "[I" (some 0) with kind := .array 21 .int, interfaces := #[16, 2], accessFlags := 1041 }

def heap : Heap := #[{ cls := 7, slots := #[.long 0, .int 1, .null, .int 0, .null, .int 0, .int 0], vm := .statics 7 },
  { cls := 11, slots := #[.ref 3, .ref 3, .ref 3, .ref 3, .ref 3, .ref 3, .ref 3, .ref 3, .ref 3, .ref 3, .ref 3, .ref 3, .ref 3, .ref 3, .ref 3, .ref 3, .ref 3, .ref 3, .ref 3, .null], vm := .statics 11 },
  { cls := 14, slots := #[.null, .null, .null], vm := .statics 14 },
  { cls := 11, slots := #[.null, .int 0, .int 0], vm := .none }]
def classes : Array Class := #[k0, k1, k2, k3, k4, k5, k6, k7, k8, k9, k10, k11, k12, k13, k14, k15, k16, k17, k18, k19, k20, k21, k22]
def interned : List (Array UInt16 × Addr) := []
def slotsUsed : Nat := 33
def theMethod : MethodId := ⟨1, 3⟩
def args0 : Array Value := #[.int 1, .int 2, .int 3, .int 4, .int 5, .int 6]
def aboutOver (below : List Frame) : State where
  vm := { classes := classes, interned := interned.toArray }
  heap := heap
  slotsUsed := slotsUsed
  threads := #[{ frames := .invoking theMethod args0 :: below }]
def below0 : List Frame := [.native { method := ⟨0, 0⟩, args := #[] }]
def about1 : State := aboutOver below0
def p0 : Program := .bare "" "" ""
def e0 : Env := launch0.env 0 0 0
theorem w_frames : about1.frames = Frame.invoking theMethod args0 :: below0 := rfl
set_option maxRecDepth 65536 in
theorem w_args : argsFit about1.vm theMethod args0 = true := by decide +kernel
set_option maxRecDepth 65536 in
theorem w_heap : heapFits about1 = true := by decide +kernel
set_option maxRecDepth 65536 in
theorem w_runnable : about1.curStatus? = some .runnable := by decide +kernel
set_option maxRecDepth 65536 in
theorem w_alone : about1.alone = true := by decide +kernel
set_option maxRecDepth 65536 in
theorem w_named : about1.methodNamed? x = some theMethod := by decide +kernel
set_option maxRecDepth 65536 in
theorem w_hears : about1.hears theMethod below0 = true := by decide +kernel
set_option maxRecDepth 65536 in
theorem w_ripe : about1.ripe theMethod args0 below0 = true := by decide +kernel
theorem w_running : about1.status = .running := rfl
set_option maxRecDepth 65536 in
theorem w_room : about1.hasRoom e0.platform room_1 = true :=
  launch0.hasRoom_least _ room_1 (by decide +kernel) (by decide +kernel) (by decide +kernel) (by decide +kernel) (by decide +kernel) (by decide +kernel)
theorem allAtoms_all (ts : List Jvm.Cond) (a : Array Jvm.Value) (st : Jvm.State) : (allAtoms ts).before a st = ts.all (fun c => c.before a st) := by
  induction ts with
  | nil => rfl
  | cons c t ih =>
    show (Jvm.Cond.and c (allAtoms t)).before a st = _
    rw [Jvm.Cond.before_and, ih, List.all_cons]
def words1 : List Jvm.Cond := Jvm.Cond.code x code maxLocals ret :: tables_1
/-- a 'code' word, met by the world's own term for the bytes: nothing is compared byte by byte -/
theorem code_word {y : MethodName} {bytes : ByteArray} {mx : Nat} {rt : Option FieldType} {a : Array Value} {s : State} {m : MethodId} {meth : Method} {c : Code} (h1 : s.methodNamed? y = some m) (h2 : s.vm.method? m = some meth) (h3 : meth.code = some c) (h4 : c.code = bytes)
    (h5 : (c.maxLocals == mx && c.exceptionTable.isEmpty && decide (c.maxStack ≤ mostOperands) && decide (meth.sig.returnType = rt) && !meth.locks && decide (parseMethodDescriptor y.desc = some meth.sig)) = true) : (Jvm.Cond.code y bytes mx rt).before a s = true := by
  simp only [Bool.and_eq_true, beq_iff_eq, Bool.not_eq_true', decide_eq_true_eq] at h5
  obtain ⟨⟨⟨⟨⟨g1, g2⟩, g3⟩, g4⟩, g5⟩, g6⟩ := h5
  simp [Cond.before, Cond.holds, Cond.value, h1, h2, h3, h4, g1, g2, g3, g4, g5, g6]
def isCode : Jvm.Cond → Bool
  | .code _ _ _ _ => true
  | _ => false
theorem all_split {L : List Jvm.Cond} {P : Jvm.Cond → Bool} (h1 : L.all (fun c => isCode c || P c) = true) (h2 : ∀ c ∈ L.filter isCode, P c = true) : L.all P = true := by
  refine List.all_eq_true.mpr fun c hc => ?_
  have h := List.all_eq_true.mp h1 c hc
  rcases Bool.eq_false_or_eq_true (isCode c) with hi | hi
  · exact h2 c (List.mem_filter.mpr ⟨hc, hi⟩)
  · simpa [hi] using h
set_option maxRecDepth 65536 in
theorem w_c0 : (Jvm.Cond.code x code maxLocals ret).before args0 about1 = true := code_word (m := ⟨1, 3⟩) (meth := k1m3) (c := k1c3) (by decide +kernel) rfl rfl rfl (by decide +kernel)
set_option maxRecDepth 65536 in
theorem w_c1 : (Jvm.Cond.code ({ cls := "attestant/service/PostDecisionIsAcceptedPinLaw", name := "reasonOf", desc := "(I)Lattestant/service/Reason;" } : Jvm.MethodName) method_2_code (2 : Nat) (Option.some (Jvm.ClassFile.FieldType.object "attestant/service/Reason"))).before args0 about1 = true := code_word (m := ⟨1, 1⟩) (meth := k1m1) (c := k1c1) (by decide +kernel) rfl rfl rfl (by decide +kernel)
set_option maxRecDepth 65536 in
theorem w_c2 : (Jvm.Cond.code ({ cls := "attestant/service/PostDecisionIsAcceptedPinLaw", name := "str", desc := "(II)Ljava/lang/String;" } : Jvm.MethodName) method_3_code (6 : Nat) (Option.some (Jvm.ClassFile.FieldType.object "java/lang/String"))).before args0 about1 = true := code_word (m := ⟨1, 2⟩) (meth := k1m2) (c := k1c2) (by decide +kernel) rfl rfl rfl (by decide +kernel)
set_option maxRecDepth 65536 in
theorem w_c3 : (Jvm.Cond.code ({ cls := "java/lang/String", name := "<init>", desc := "([C)V" } : Jvm.MethodName) jdk_42_method_3_code (2 : Nat) (Option.none : Option Jvm.ClassFile.FieldType)).before args0 about1 = true := code_word (m := ⟨7, 1⟩) (meth := k7m1) (c := k7c1) (by decide +kernel) rfl rfl rfl (by decide +kernel)
set_option maxRecDepth 65536 in
theorem w_c4 : (Jvm.Cond.code ({ cls := "java/lang/String", name := "<init>", desc := "([CIILjava/lang/Void;)V" } : Jvm.MethodName) jdk_42_method_149_code (6 : Nat) (Option.none : Option Jvm.ClassFile.FieldType)).before args0 about1 = true := code_word (m := ⟨7, 2⟩) (meth := k7m2) (c := k7c2) (by decide +kernel) rfl rfl rfl (by decide +kernel)
set_option maxRecDepth 65536 in
theorem w_c5 : (Jvm.Cond.code ({ cls := "java/lang/Object", name := "<init>", desc := "()V" } : Jvm.MethodName) object_method_1_code (1 : Nat) (Option.none : Option Jvm.ClassFile.FieldType)).before args0 about1 = true := code_word (m := ⟨0, 0⟩) (meth := k0m0) (c := k0c0) (by decide +kernel) rfl rfl rfl (by decide +kernel)
set_option maxRecDepth 65536 in
theorem w_c6 : (Jvm.Cond.code ({ cls := "attestant/service/PostDecision", name := "<init>", desc := "(Lattestant/service/Reason;Ljava/lang/String;Ljava/lang/String;Ljava/lang/String;Ljava/lang/String;Ljava/lang/String;)V" } : Jvm.MethodName) prog_65_method_1_code (7 : Nat) (Option.none : Option Jvm.ClassFile.FieldType)).before args0 about1 = true := code_word (m := ⟨9, 0⟩) (meth := k9m0) (c := k9c0) (by decide +kernel) rfl rfl rfl (by decide +kernel)
set_option maxRecDepth 65536 in
theorem w_c7 : (Jvm.Cond.code ({ cls := "java/lang/Record", name := "<init>", desc := "()V" } : Jvm.MethodName) jdk_30_method_1_code (1 : Nat) (Option.none : Option Jvm.ClassFile.FieldType)).before args0 about1 = true := code_word (m := ⟨8, 0⟩) (meth := k8m0) (c := k8c0) (by decide +kernel) rfl rfl rfl (by decide +kernel)
set_option maxRecDepth 65536 in
theorem w_c8 : (Jvm.Cond.code ({ cls := "attestant/service/PostDecision", name := "isAccepted", desc := "()Z" } : Jvm.MethodName) prog_65_method_5_code (1 : Nat) (Option.some Jvm.ClassFile.FieldType.boolean)).before args0 about1 = true := code_word (m := ⟨9, 3⟩) (meth := k9m3) (c := k9c3) (by decide +kernel) rfl rfl rfl (by decide +kernel)
set_option maxRecDepth 65536 in
theorem w_c9 : (Jvm.Cond.code ({ cls := "attestant/service/PostDecision", name := "accepted", desc := "(Ljava/lang/String;Ljava/lang/String;Ljava/lang/String;Ljava/lang/String;)Lattestant/service/PostDecision;" } : Jvm.MethodName) prog_65_method_2_code (4 : Nat) (Option.some (Jvm.ClassFile.FieldType.object "attestant/service/PostDecision"))).before args0 about1 = true := code_word (m := ⟨9, 1⟩) (meth := k9m1) (c := k9c1) (by decide +kernel) rfl rfl rfl (by decide +kernel)
set_option maxRecDepth 65536 in
theorem w_c10 : (Jvm.Cond.code ({ cls := "attestant/service/PostDecision", name := "rejected", desc := "(Lattestant/service/Reason;Ljava/lang/String;)Lattestant/service/PostDecision;" } : Jvm.MethodName) prog_65_method_3_code (2 : Nat) (Option.some (Jvm.ClassFile.FieldType.object "attestant/service/PostDecision"))).before args0 about1 = true := code_word (m := ⟨9, 2⟩) (meth := k9m2) (c := k9c2) (by decide +kernel) rfl rfl rfl (by decide +kernel)
set_option maxRecDepth 65536 in
theorem w_c11 : (Jvm.Cond.code ({ cls := "java/lang/StringUTF16", name := "compress", desc := "([CII)[B" } : Jvm.MethodName) jdk_52_method_16_code (6 : Nat) (Option.some (Jvm.ClassFile.FieldType.array Jvm.ClassFile.FieldType.byte))).before args0 about1 = true := code_word (m := ⟨12, 2⟩) (meth := k12m2) (c := k12c2) (by decide +kernel) rfl rfl rfl (by decide +kernel)
set_option maxRecDepth 65536 in
theorem w_c12 : (Jvm.Cond.code ({ cls := "java/lang/StringUTF16", name := "compress", desc := "([CI[BII)I" } : Jvm.MethodName) jdk_52_method_21_code (7 : Nat) (Option.some Jvm.ClassFile.FieldType.int)).before args0 about1 = true := code_word (m := ⟨12, 3⟩) (meth := k12m3) (c := k12c3) (by decide +kernel) rfl rfl rfl (by decide +kernel)
set_option maxRecDepth 65536 in
theorem w_c13 : (Jvm.Cond.code ({ cls := "java/lang/StringUTF16", name := "coderFromArrayLen", desc := "([BI)B" } : Jvm.MethodName) jdk_52_method_15_code (2 : Nat) (Option.some Jvm.ClassFile.FieldType.byte)).before args0 about1 = true := code_word (m := ⟨12, 1⟩) (meth := k12m1) (c := k12c1) (by decide +kernel) rfl rfl rfl (by decide +kernel)
def codes1 : List Jvm.Cond := [Jvm.Cond.code x code maxLocals ret, Jvm.Cond.code ({ cls := "attestant/service/PostDecisionIsAcceptedPinLaw", name := "reasonOf", desc := "(I)Lattestant/service/Reason;" } : Jvm.MethodName) method_2_code (2 : Nat) (Option.some (Jvm.ClassFile.FieldType.object "attestant/service/Reason")), Jvm.Cond.code ({ cls := "attestant/service/PostDecisionIsAcceptedPinLaw", name := "str", desc := "(II)Ljava/lang/String;" } : Jvm.MethodName) method_3_code (6 : Nat) (Option.some (Jvm.ClassFile.FieldType.object "java/lang/String")), Jvm.Cond.code ({ cls := "java/lang/String", name := "<init>", desc := "([C)V" } : Jvm.MethodName) jdk_42_method_3_code (2 : Nat) (Option.none : Option Jvm.ClassFile.FieldType), Jvm.Cond.code ({ cls := "java/lang/String", name := "<init>", desc := "([CIILjava/lang/Void;)V" } : Jvm.MethodName) jdk_42_method_149_code (6 : Nat) (Option.none : Option Jvm.ClassFile.FieldType), Jvm.Cond.code ({ cls := "java/lang/Object", name := "<init>", desc := "()V" } : Jvm.MethodName) object_method_1_code (1 : Nat) (Option.none : Option Jvm.ClassFile.FieldType), Jvm.Cond.code ({ cls := "attestant/service/PostDecision", name := "<init>", desc := "(Lattestant/service/Reason;Ljava/lang/String;Ljava/lang/String;Ljava/lang/String;Ljava/lang/String;Ljava/lang/String;)V" } : Jvm.MethodName) prog_65_method_1_code (7 : Nat) (Option.none : Option Jvm.ClassFile.FieldType), Jvm.Cond.code ({ cls := "java/lang/Record", name := "<init>", desc := "()V" } : Jvm.MethodName) jdk_30_method_1_code (1 : Nat) (Option.none : Option Jvm.ClassFile.FieldType), Jvm.Cond.code ({ cls := "attestant/service/PostDecision", name := "isAccepted", desc := "()Z" } : Jvm.MethodName) prog_65_method_5_code (1 : Nat) (Option.some Jvm.ClassFile.FieldType.boolean), Jvm.Cond.code ({ cls := "attestant/service/PostDecision", name := "accepted", desc := "(Ljava/lang/String;Ljava/lang/String;Ljava/lang/String;Ljava/lang/String;)Lattestant/service/PostDecision;" } : Jvm.MethodName) prog_65_method_2_code (4 : Nat) (Option.some (Jvm.ClassFile.FieldType.object "attestant/service/PostDecision")), Jvm.Cond.code ({ cls := "attestant/service/PostDecision", name := "rejected", desc := "(Lattestant/service/Reason;Ljava/lang/String;)Lattestant/service/PostDecision;" } : Jvm.MethodName) prog_65_method_3_code (2 : Nat) (Option.some (Jvm.ClassFile.FieldType.object "attestant/service/PostDecision")), Jvm.Cond.code ({ cls := "java/lang/StringUTF16", name := "compress", desc := "([CII)[B" } : Jvm.MethodName) jdk_52_method_16_code (6 : Nat) (Option.some (Jvm.ClassFile.FieldType.array Jvm.ClassFile.FieldType.byte)), Jvm.Cond.code ({ cls := "java/lang/StringUTF16", name := "compress", desc := "([CI[BII)I" } : Jvm.MethodName) jdk_52_method_21_code (7 : Nat) (Option.some Jvm.ClassFile.FieldType.int), Jvm.Cond.code ({ cls := "java/lang/StringUTF16", name := "coderFromArrayLen", desc := "([BI)B" } : Jvm.MethodName) jdk_52_method_15_code (2 : Nat) (Option.some Jvm.ClassFile.FieldType.byte)]
set_option maxRecDepth 65536 in
theorem codes_eq : words1.filter isCode = codes1 := rfl
theorem w_codes : ∀ c ∈ words1.filter isCode, c.before args0 about1 = true := by
  rw [codes_eq]
  intro c hc
  simp only [codes1, List.mem_cons, List.not_mem_nil, or_false] at hc
  rcases hc with rfl | rfl | rfl | rfl | rfl | rfl | rfl | rfl | rfl | rfl | rfl | rfl | rfl | rfl
  · exact w_c0
  · exact w_c1
  · exact w_c2
  · exact w_c3
  · exact w_c4
  · exact w_c5
  · exact w_c6
  · exact w_c7
  · exact w_c8
  · exact w_c9
  · exact w_c10
  · exact w_c11
  · exact w_c12
  · exact w_c13
set_option maxRecDepth 65536 in
theorem w_t1 : (words1.take 24).all (fun c => isCode c || c.before args0 about1) = true := by decide +kernel
set_option maxRecDepth 65536 in
theorem w_t2 : ((words1.drop 24).take 24).all (fun c => isCode c || c.before args0 about1) = true := by decide +kernel
set_option maxRecDepth 65536 in
theorem w_t3 : (((words1.drop 24).drop 24).take 24).all (fun c => isCode c || c.before args0 about1) = true := by decide +kernel
set_option maxRecDepth 65536 in
theorem w_t4 : ((((words1.drop 24).drop 24).drop 24).take 24).all (fun c => isCode c || c.before args0 about1) = true := by decide +kernel
set_option maxRecDepth 65536 in
theorem w_t5 : ((((words1.drop 24).drop 24).drop 24).drop 24).all (fun c => isCode c || c.before args0 about1) = true := by decide +kernel
theorem w_tables : (allAtoms (Jvm.Cond.code x code maxLocals ret :: tables_1)).before args0 about1 = true := by
  rw [allAtoms_all]
  show words1.all (fun c => c.before args0 about1) = true
  refine all_split ?_ w_codes
  rw [← List.take_append_drop 24 words1, List.all_append, w_t1, ← List.take_append_drop 24 (words1.drop 24), List.all_append, w_t2, ← List.take_append_drop 24 ((words1.drop 24).drop 24), List.all_append, w_t3, ← List.take_append_drop 24 (((words1.drop 24).drop 24).drop 24), List.all_append, w_t4, w_t5]
  rfl
set_option maxRecDepth 65536 in
theorem w_rest : rest_1_c.before args0 about1 = true := by decide +kernel
set_option maxRecDepth 65536 in
theorem w_case : (Jvm.Cond.and given_1 narrow_1).before args0 about1 = true := by decide +kernel
set_option maxRecDepth 65536 in
theorem w_consts : constsHeld consts_1 about1 := Jvm.Lit.constsHeldB_iff.mp (by decide +kernel)
theorem w_applies : (headSpec (Jvm.Cond.code x code maxLocals ret :: tables_1) room_1).applies x e0.platform about1 = true :=
  (Spec.applies_iff w_frames).mpr ⟨w_running, w_runnable, w_alone, w_named, w_hears, w_ripe, w_room, w_tables⟩
theorem atStart : AtStart classFile x code maxLocals ret World_1 tables_1 room_1 Calls_1 rest_1 Pre_1 launch0 p0 e0 about1 theMethod args0 below0 :=
  ⟨lists_1, trivial, launch0.admits_env _ _ _, launch0.least_env, fairChoices_fair.cas, fairChoices_fair.clock, w_frames, w_args, w_heap, w_applies, ⟨w_consts, trivial⟩, w_rest, w_case⟩
end start1
theorem witness_1 : WitnessClaimed_1 := ⟨start1.p0, start1.e0, start1.about1, start1.theMethod, start1.args0, start1.below0, start1.atStart⟩
end Jvm.Pilot.@@N@@
