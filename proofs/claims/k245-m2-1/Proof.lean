import JvmDerived
import JvmDerived.Pilot.@@N@@Statement
import JvmDerived.Pilot.@@N@@Code
set_option linter.unusedVariables false
set_option linter.unusedSimpArgs false
namespace Jvm.OwnK
open Jvm Sem ClassFile Op Lib Jvm.Stand Jvm.Free Jvm.LawKit Jvm.RoadKit Bundle
section Base
variable {p : Program} {l : Launch} {e : Env} {R : Room} {s : State} {m : MethodId} {args : Array Value} {below : List Frame} {meth : Method} {c : Code} {Z : State} {a0 : Array Value} {EL : List (String × Nat)} {nb : Bool} {own : String} {code : ByteArray} {ml : Nat} {ret : Option FieldType} {nm : String} {vm : Vm} {T : State} {locs : List Loc} {ce sl : Nat} {h : Heap} {Q : Option Value → Vm → Heap → Prop} {ck sk : Nat}
theorem lb {n m : Nat} (h : Nat.ble n m = true) : n ≤ m := Nat.le_of_ble_eq_true h
/-- where a walk stands: the method's own facts; the Stand over the start with the tables at hand; what the heap is; what is booked -/
def OW (p : Program) (l : Launch) (e : Env) (R : Room) (s : State) (m : MethodId) (args : Array Value) (below : List Frame) (meth : Method) (c : Code) (Z : State) (a0 : Array Value) (EL : List (String × Nat)) (nb : Bool) (own : String) (code : ByteArray) (ml : Nat) (ret : Option FieldType) (nm : String)
    (vm : Vm) (T : State) (locs : List Loc) (ce sl : Nat) (h : Heap) : Prop :=
  (p.tables.exec = Jvm.exec ∧ c.code = code ∧ c.maxLocals = ml ∧ meth.sig.returnType = ret ∧ meth.locks = false ∧ meth.name = nm) ∧
  Stand p l e R (s.setVm vm) m args below meth c T locs ce sl ∧ T.heap = h ∧ (∃ k0, s.Since vm k0 ∧ k0 ≤ h.size) ∧ Z.Warmed39 vm ∧ vm.findClass own = some m.cls ∧
  CHr Z EL s.vm s.heap vm h ∧ Fr Z.heap.size locs ∧ Ext Z.heap h ∧ (nb = true → s.WarmedH vm) ∧ EW Z a0 EL
/-- the body comes to its end from here -/
def OG (p : Program) (e : Env) (below : List Frame) (s : State) (Z : State) (EL : List (String × Nat)) (nb : Bool) (Q : Option Value → Vm → Heap → Prop) (ck sk : Nat) (T : State) (g : JFrame) : Prop :=
  ∃ s₂ o, Steps p.tables e below (T.setTop g) s₂ ∧ s₂.status = .running ∧ Ended s₂ below o ∧ ∃ v L, o = .returned v ∧ (Q v s₂.vm s₂.heap ∧ Fr Z.heap.size L ∧ Ext Z.heap s₂.heap) ∧ (nb = true → s.WarmedH s₂.vm) ∧ CHr Z EL s.vm s.heap s₂.vm s₂.heap ∧ ReturnedEndW s o s₂ L ck sk
/-- a method's contract -/
def OC (l : Launch) (Z : State) (EL : List (String × Nat)) (nb : Bool) (ws : List Jvm.Cond) (y : MethodName) (bytes : ByteArray) (ml : Nat) (ret : Option FieldType) (rm : Room) (as' : Array Value) (h : Heap) (sf : List Addr) (Q : Option Value → Vm → Heap → Prop) : Prop :=
  MetFree l y (head1 (Jvm.Cond.code y bytes ml ret :: ws) rm) (fun a U => a = as' ∧ Z.Warmed39 U.vm ∧ U.heap = h ∧ CHv Z EL U.vm h ∧ Ext Z.heap h ∧ ∀ x ∈ sf, Safe Z EL U.vm h x) (fun _ _ _ _ _ => True)
    (fun _ U o U' => ∃ v L, o = .returned v ∧ (Q v U'.vm U'.heap ∧ Fr Z.heap.size L ∧ Ext Z.heap U'.heap) ∧ (nb = true → U.WarmedH U'.vm) ∧ CHr Z EL U.vm U.heap U'.vm U'.heap ∧ ReturnedEndW U o U' L rm.cells rm.slots)
/-- one step of the walk -/
abbrev Lt (p : Program) (e : Env) (below : List Frame) (T : State) (g : JFrame) (T' : State) (g' : JFrame) : Prop := ∀ t, Steps p.tables e below (T'.setTop g') t → Steps p.tables e below (T.setTop g) t
theorem oLift {g g' : JFrame} {T' : State} (st : Lt p e below T g T' g') (k : OG p e below s Z EL nb Q ck sk T' g') : OG p e below s Z EL nb Q ck sk T g := by
  obtain ⟨s₂, o, h1, r⟩ := k
  exact ⟨s₂, o, st _ h1, r⟩
theorem oEq {g g' : JFrame} (q : g = g') (k : OG p e below s Z EL nb Q ck sk T g') : OG p e below s Z EL nb Q ck sk T g := q ▸ k
theorem oEnter {ws : List Jvm.Cond} {y : MethodName} {bytes : ByteArray} {rm : Room} {as' : Array Value} {sf : List Addr} (hp : plainFor y = true) (hEW : EW Z a0 EL)
    (body : ∀ (p : Program) (e : Env) (s : State) (m : MethodId) (below : List Frame) (meth : Method) (c : Code) (T : State), OW p l e rm s m as' below meth c Z a0 EL nb y.cls bytes ml ret y.name s.vm T [] 0 0 h → (∀ x ∈ sf, Safe Z EL s.vm h x) → OG p e below s Z EL nb Q rm.cells rm.slots T (entryFrame m as' ml)) :
    OC l Z EL nb ws y bytes ml ret rm as' h sf Q := by
  refine MetFree.of_bodySF hp hisR ?_
  intro p e s m args below meth c s₁ Bd hml hP hK
  obtain ⟨rfl, hZ, hh, hC, hE, hSf⟩ := hP
  have X0 : Stand p l e rm s m _ below meth c s₁ [] 0 0 := Stand.of_body Bd
  have e0 : s₁.heap = h := by rw [← hh, Bd.state]; rfl
  obtain ⟨s₂, o, h1, h2, h3, v, L, h4, h5, h6, h7, h8⟩ := body p e s m below meth c s₁
    ⟨⟨Bd.exec, Bd.bytes, hml, Bd.returns, BodyLoose.notSynchronized Bd, (name_of_methodNamed Bd.named Bd.method).1⟩, X0, e0, ⟨0, (State.WarmedH.refl s).since _, Nat.zero_le _⟩, hZ, findClass_of_methodNamed Bd.named, by subst hh; exact CHr.refl hC, Fr.nil _, hE, fun _ => State.WarmedH.refl s, hEW⟩ hSf
  exact ⟨s₂, o, h1, h2, h3, v, L, h4, h5, h6, h7, h8⟩
/-! ### the plain steps, by evaluation -/
def oIl : Instr → Nat
  | .bipush _ => 2 | .sipush _ => 3 | .aload _ => 2 | .iload _ => 2 | .istore _ => 2 | .astore _ => 2 | .iinc _ _ => 3 | .goto _ => 3 | _ => 1
def oNx (pc : Nat) : Instr → Nat
  | .goto o => ((pc : Int) + o).toNat
  | i => pc + oIl i
def oOkG (pc : Nat) : Instr → Bool
  | .goto o => decide (0 ≤ (pc : Int) + o)
  | _ => true
def oSeg (code : ByteArray) : Nat → List Instr → Bool
  | _, [] => true
  | pc, i :: is => decide (decode code pc = .ok (i, oIl i)) && (oOkG pc i && oSeg code (oNx pc i) is)
def oOne : Slot → Bool
  | .unset => true
  | .val w => decide (w.category = 1)
  | .second => false
theorem oOne_ok {o : Slot} (h : oOne o = true) : o = .unset ∨ ∃ w, o = .val w ∧ w.category = 1 := by
  cases o with
  | unset => exact Or.inl rfl
  | second => cases h
  | val w => exact Or.inr ⟨w, rfl, of_decide_eq_true h⟩
theorem oCat {v : Value} (h : v.isRef = true) : v.category = 1 := by cases v <;> simp_all [Value.isRef, Value.category]
def oS1 (i : Instr) (ls : Array Slot) (st : List Value) : Option (Array Slot × List Value × Bool) :=
  match i with
  | .aload_n k => match ls[k.val]? with | some (.val v) => some (ls, v :: st, v.isRef) | _ => none
  | .aload k => match ls[k]? with | some (.val v) => some (ls, v :: st, v.isRef) | _ => none
  | .iload_n k => match ls[k.val]? with | some (.val (.int x)) => some (ls, .int x :: st, true) | _ => none
  | .iload k => match ls[k]? with | some (.val (.int x)) => some (ls, .int x :: st, true) | _ => none
  | .iconst i => some (ls, .int (Int32.ofInt i) :: st, true)
  | .bipush i => some (ls, .int (Int8.ofInt i).toInt32 :: st, true)
  | .sipush i => some (ls, .int (Int16.ofInt i).toInt32 :: st, true)
  | .aconst_null => some (ls, .null :: st, true)
  | .goto _ => some (ls, st, true)
  | .istore_n k => match st with | .int x :: rest => (match storeLocals ls k.val (.int x) with | some l' => some (l', rest, true) | none => none) | _ => none
  | .istore k => match st with | .int x :: rest => (match storeLocals ls k (.int x) with | some l' => some (l', rest, true) | none => none) | _ => none
  | .astore_n k => match st with | x :: rest => (match ls[k.val]? with | some o => some (ls.setIfInBounds k.val (.val x), rest, x.isRef && oOne o) | none => none) | _ => none
  | .astore k => match st with | x :: rest => (match ls[k]? with | some o => some (ls.setIfInBounds k (.val x), rest, x.isRef && oOne o) | none => none) | _ => none
  | .iinc k cst => match ls[k]? with | some (.val (.int x)) => (match storeLocals ls k (.int (x + Int32.ofInt cst)) with | some l' => some (l', st, true) | none => none) | _ => none
  | .dup => match st with | x :: rest => some (ls, x :: x :: rest, decide (x.category = 1)) | _ => none
  | .pop => match st with | x :: rest => some (ls, rest, decide (x.category = 1)) | _ => none
  | .dup_x1 => match st with | x :: y :: rest => some (ls, x :: y :: x :: rest, decide (x.category = 1) && decide (y.category = 1)) | _ => none
  | .dup2 => match st with | x :: y :: rest => some (ls, x :: y :: x :: y :: rest, decide (x.category = 1) && decide (y.category = 1)) | _ => none
  | .iadd => match st with | .int y :: .int x :: rest => some (ls, .int (x + y) :: rest, true) | _ => none
  | .isub => match st with | .int y :: .int x :: rest => some (ls, .int (x - y) :: rest, true) | _ => none
  | .imul => match st with | .int y :: .int x :: rest => some (ls, .int (x * y) :: rest, true) | _ => none
  | .idiv => match st with | .int y :: .int x :: rest => some (ls, .int (x / y) :: rest, decide (y ≠ 0)) | _ => none
  | .irem => match st with | .int y :: .int x :: rest => some (ls, .int (x % y) :: rest, decide (y ≠ 0)) | _ => none
  | .iand => match st with | .int y :: .int x :: rest => some (ls, .int (x &&& y) :: rest, true) | _ => none
  | .ior => match st with | .int y :: .int x :: rest => some (ls, .int (x ||| y) :: rest, true) | _ => none
  | .ixor => match st with | .int y :: .int x :: rest => some (ls, .int (x ^^^ y) :: rest, true) | _ => none
  | .ishl => match st with | .int y :: .int x :: rest => some (ls, .int (x <<< (y &&& 31)) :: rest, true) | _ => none
  | .ishr => match st with | .int y :: .int x :: rest => some (ls, .int (x >>> (y &&& 31)) :: rest, true) | _ => none
  | .iushr => match st with | .int y :: .int x :: rest => some (ls, .int (XT.ushr x y) :: rest, true) | _ => none
  | .ineg => match st with | .int x :: rest => some (ls, .int (-x) :: rest, true) | _ => none
  | .i2b => match st with | .int x :: rest => some (ls, .int (x.toInt8.toInt32) :: rest, true) | _ => none
  | .i2c => match st with | .int x :: rest => some (ls, .int (x.toUInt32.toUInt16.toUInt32.toInt32) :: rest, true) | _ => none
  | .i2s => match st with | .int x :: rest => some (ls, .int (x.toInt16.toInt32) :: rest, true) | _ => none
  | _ => none
def oRun : List Instr → Array Slot → List Value → Option (Array Slot × List Value × Bool)
  | [], ls, st => some (ls, st, true)
  | i :: is, ls, st => match oS1 i ls st with
    | some (ls1, st1, b1) => (match oRun is ls1 st1 with | some (ls2, st2, b2) => some (ls2, st2, b1 && b2) | none => none)
    | none => none
def oNxs : Nat → List Instr → Nat
  | pc, [] => pc
  | pc, i :: is => oNxs (oNx pc i) is
theorem oS1_ok (H : At T m c below) (hx : p.tables.exec = Jvm.exec) {i : Instr} {pc : Nat} {ls ls' : Array Slot} {st st' : List Value} {b : Bool} {t : State} (hd : decode c.code pc = .ok (i, oIl i)) (hg : oOkG pc i = true) (hs : oS1 i ls st = some (ls', st', b)) (hb : b = true)
    (hr : Steps p.tables e below (T.setTop (mkF m (oNx pc i) ls' st')) t) : Steps p.tables e below (T.setTop (mkF m pc ls st)) t := by
  subst hb
  cases i
  case aload_n k =>
    simp only [oS1] at hs
    split at hs
    · rename_i v hv
      simp only [Option.some.injEq, Prod.mk.injEq] at hs
      obtain ⟨rfl, rfl, h3⟩ := hs
      exact XS.aloadN (g := mkF m pc ls _) H hx rfl hd hv h3 hr
    · cases hs
  case aload k =>
    simp only [oS1] at hs
    split at hs
    · rename_i v hv
      simp only [Option.some.injEq, Prod.mk.injEq] at hs
      obtain ⟨rfl, rfl, h3⟩ := hs
      exact XS.aload (g := mkF m pc ls _) H hx rfl hd hv h3 hr
    · cases hs
  case iload_n k =>
    simp only [oS1] at hs
    split at hs
    · rename_i x hv
      simp only [Option.some.injEq, Prod.mk.injEq] at hs
      obtain ⟨rfl, rfl, -⟩ := hs
      exact XS.iloadN (g := mkF m pc ls _) H hx rfl hd hv hr
    · cases hs
  case iload k =>
    simp only [oS1] at hs
    split at hs
    · rename_i x hv
      simp only [Option.some.injEq, Prod.mk.injEq] at hs
      obtain ⟨rfl, rfl, -⟩ := hs
      exact XS.iload (g := mkF m pc ls _) H hx rfl hd hv hr
    · cases hs
  case iconst z =>
    simp only [oS1, Option.some.injEq, Prod.mk.injEq] at hs
    obtain ⟨rfl, rfl, -⟩ := hs
    exact XS.iconst (g := mkF m pc ls _) H hx rfl hd hr
  case bipush z =>
    simp only [oS1, Option.some.injEq, Prod.mk.injEq] at hs
    obtain ⟨rfl, rfl, -⟩ := hs
    exact XS.bipush (g := mkF m pc ls _) H hx rfl hd hr
  case sipush z =>
    simp only [oS1, Option.some.injEq, Prod.mk.injEq] at hs
    obtain ⟨rfl, rfl, -⟩ := hs
    exact XS.sipush (g := mkF m pc ls _) H hx rfl hd hr
  case aconst_null =>
    simp only [oS1, Option.some.injEq, Prod.mk.injEq] at hs
    obtain ⟨rfl, rfl, -⟩ := hs
    exact XS.aconstNull (g := mkF m pc ls _) H hx rfl hd hr
  case goto o =>
    simp only [oS1, Option.some.injEq, Prod.mk.injEq] at hs
    obtain ⟨rfl, rfl, -⟩ := hs
    exact XS.goto (g := mkF m pc ls _) H hx rfl (pc0 := pc) rfl hd (of_decide_eq_true hg) rfl hr
  case astore_n k =>
    simp only [oS1] at hs
    split at hs
    · split at hs
      · rename_i o ho
        simp only [Option.some.injEq, Prod.mk.injEq] at hs
        obtain ⟨rfl, rfl, h3⟩ := hs
        rw [Bool.and_eq_true] at h3
        exact XS.astoreN (g := mkF m pc ls _) H hx rfl hd rfl h3.1 (XS.store1 ho (oOne_ok h3.2) (oCat h3.1)) hr
      · cases hs
    · cases hs
  case astore k =>
    simp only [oS1] at hs
    split at hs
    · split at hs
      · rename_i o ho
        simp only [Option.some.injEq, Prod.mk.injEq] at hs
        obtain ⟨rfl, rfl, h3⟩ := hs
        rw [Bool.and_eq_true] at h3
        exact XS.astore (g := mkF m pc ls _) H hx rfl hd rfl h3.1 (XS.store1 ho (oOne_ok h3.2) (oCat h3.1)) hr
      · cases hs
    · cases hs
  case istore_n k =>
    simp only [oS1] at hs
    split at hs
    · split at hs
      · rename_i l2 hl
        simp only [Option.some.injEq, Prod.mk.injEq] at hs
        obtain ⟨rfl, rfl, h3⟩ := hs
        exact XS.istoreN (g := mkF m pc ls _) H hx rfl hd rfl hl hr
      · cases hs
    · cases hs
  case istore k =>
    simp only [oS1] at hs
    split at hs
    · split at hs
      · rename_i l2 hl
        simp only [Option.some.injEq, Prod.mk.injEq] at hs
        obtain ⟨rfl, rfl, h3⟩ := hs
        exact XS.istore (g := mkF m pc ls _) H hx rfl hd rfl hl hr
      · cases hs
    · cases hs
  case iinc k z =>
    simp only [oS1] at hs
    split at hs
    · rename_i x hv
      split at hs
      · rename_i l2 hl
        simp only [Option.some.injEq, Prod.mk.injEq] at hs
        obtain ⟨rfl, rfl, -⟩ := hs
        exact XS.iinc (g := mkF m pc ls _) H hx rfl hd hv hl hr
      · cases hs
    · cases hs
  case dup =>
    simp only [oS1] at hs
    split at hs
    · simp only [Option.some.injEq, Prod.mk.injEq] at hs
      obtain ⟨rfl, rfl, h3⟩ := hs
      exact XS.dup (g := mkF m pc ls _) H hx rfl hd rfl (of_decide_eq_true h3) hr
    · cases hs
  case pop =>
    simp only [oS1] at hs
    split at hs
    · simp only [Option.some.injEq, Prod.mk.injEq] at hs
      obtain ⟨rfl, rfl, h3⟩ := hs
      exact XT.pop (g := mkF m pc ls _) H hx rfl hd rfl (of_decide_eq_true h3) hr
    · cases hs
  case dup_x1 =>
    simp only [oS1] at hs
    split at hs
    · simp only [Option.some.injEq, Prod.mk.injEq] at hs
      obtain ⟨rfl, rfl, h3⟩ := hs
      rw [Bool.and_eq_true] at h3
      exact XT.dupX1 (g := mkF m pc ls _) H hx rfl hd rfl (of_decide_eq_true h3.1) (of_decide_eq_true h3.2) hr
    · cases hs
  case dup2 =>
    simp only [oS1] at hs
    split at hs
    · simp only [Option.some.injEq, Prod.mk.injEq] at hs
      obtain ⟨rfl, rfl, h3⟩ := hs
      rw [Bool.and_eq_true] at h3
      exact XT.dup2 (g := mkF m pc ls _) H hx rfl hd rfl (of_decide_eq_true h3.1) (of_decide_eq_true h3.2) hr
    · cases hs
  case iadd =>
    simp only [oS1] at hs
    split at hs
    · simp only [Option.some.injEq, Prod.mk.injEq] at hs
      obtain ⟨rfl, rfl, -⟩ := hs
      exact XS.iadd (g := mkF m pc ls _) H hx rfl hd rfl hr
    · cases hs
  case isub =>
    simp only [oS1] at hs
    split at hs
    · simp only [Option.some.injEq, Prod.mk.injEq] at hs
      obtain ⟨rfl, rfl, -⟩ := hs
      exact XS.isub (g := mkF m pc ls _) H hx rfl hd rfl hr
    · cases hs
  case imul =>
    simp only [oS1] at hs
    split at hs
    · simp only [Option.some.injEq, Prod.mk.injEq] at hs
      obtain ⟨rfl, rfl, -⟩ := hs
      exact XS.imul (g := mkF m pc ls _) H hx rfl hd rfl hr
    · cases hs
  case iand =>
    simp only [oS1] at hs
    split at hs
    · simp only [Option.some.injEq, Prod.mk.injEq] at hs
      obtain ⟨rfl, rfl, -⟩ := hs
      exact XS.iand (g := mkF m pc ls _) H hx rfl hd rfl hr
    · cases hs
  case ior =>
    simp only [oS1] at hs
    split at hs
    · simp only [Option.some.injEq, Prod.mk.injEq] at hs
      obtain ⟨rfl, rfl, -⟩ := hs
      exact XT.ior (g := mkF m pc ls _) H hx rfl hd rfl hr
    · cases hs
  case ixor =>
    simp only [oS1] at hs
    split at hs
    · simp only [Option.some.injEq, Prod.mk.injEq] at hs
      obtain ⟨rfl, rfl, -⟩ := hs
      exact XT.ixor (g := mkF m pc ls _) H hx rfl hd rfl hr
    · cases hs
  case ishl =>
    simp only [oS1] at hs
    split at hs
    · simp only [Option.some.injEq, Prod.mk.injEq] at hs
      obtain ⟨rfl, rfl, -⟩ := hs
      exact XT.ishl (g := mkF m pc ls _) H hx rfl hd rfl hr
    · cases hs
  case ishr =>
    simp only [oS1] at hs
    split at hs
    · simp only [Option.some.injEq, Prod.mk.injEq] at hs
      obtain ⟨rfl, rfl, -⟩ := hs
      exact XT.ishr (g := mkF m pc ls _) H hx rfl hd rfl hr
    · cases hs
  case iushr =>
    simp only [oS1] at hs
    split at hs
    · simp only [Option.some.injEq, Prod.mk.injEq] at hs
      obtain ⟨rfl, rfl, -⟩ := hs
      exact XT.iushr (g := mkF m pc ls _) H hx rfl hd rfl hr
    · cases hs
  case ineg =>
    simp only [oS1] at hs
    split at hs
    · simp only [Option.some.injEq, Prod.mk.injEq] at hs
      obtain ⟨rfl, rfl, -⟩ := hs
      exact XS.ineg (g := mkF m pc ls _) H hx rfl hd rfl hr
    · cases hs
  case i2b =>
    simp only [oS1] at hs
    split at hs
    · simp only [Option.some.injEq, Prod.mk.injEq] at hs
      obtain ⟨rfl, rfl, -⟩ := hs
      exact XT.i2b (g := mkF m pc ls _) H hx rfl hd rfl hr
    · cases hs
  case i2c =>
    simp only [oS1] at hs
    split at hs
    · simp only [Option.some.injEq, Prod.mk.injEq] at hs
      obtain ⟨rfl, rfl, -⟩ := hs
      exact XT.i2c (g := mkF m pc ls _) H hx rfl hd rfl hr
    · cases hs
  case i2s =>
    simp only [oS1] at hs
    split at hs
    · simp only [Option.some.injEq, Prod.mk.injEq] at hs
      obtain ⟨rfl, rfl, -⟩ := hs
      exact XT.i2s (g := mkF m pc ls _) H hx rfl hd rfl hr
    · cases hs
  case idiv =>
    simp only [oS1] at hs
    split at hs
    · simp only [Option.some.injEq, Prod.mk.injEq] at hs
      obtain ⟨rfl, rfl, h3⟩ := hs
      exact XS.idiv (g := mkF m pc ls _) H hx rfl hd rfl (of_decide_eq_true h3) hr
    · cases hs
  case irem =>
    simp only [oS1] at hs
    split at hs
    · rename_i y x rest
      simp only [Option.some.injEq, Prod.mk.injEq] at hs
      obtain ⟨rfl, rfl, h3⟩ := hs
      refine XS.irem (g := mkF m pc ls _) H hx rfl hd rfl (of_decide_eq_true h3) ?_
      rw [irem_eq_mod x y]
      exact hr
    · cases hs
  all_goals (simp [oS1] at hs)
theorem oGo (W : OW p l e R s m args below meth c Z a0 EL nb own code ml ret nm vm T locs ce sl h) : ∀ (is : List Instr) {pc : Nat} {ls ls' : Array Slot} {st st' : List Value} {b : Bool}, oSeg code pc is = true → oRun is ls st = some (ls', st', b) → b = true → ∀ {pc' : Nat}, oNxs pc is = pc' → OG p e below s Z EL nb Q ck sk T (mkF m pc' ls' st') → OG p e below s Z EL nb Q ck sk T (mkF m pc ls st)
  | [], pc, ls, ls', st, st', b, _, hr, _, pc', hp, k => by
    simp only [oRun, Option.some.injEq, Prod.mk.injEq] at hr
    obtain ⟨rfl, rfl, -⟩ := hr
    subst hp
    exact k
  | i :: is, pc, ls, ls', st, st', b, hg, hr, hb, pc', hp, k => by
    simp only [oRun] at hr
    split at hr
    · rename_i ls1 st1 b1 h1
      split at hr
      · rename_i ls2 st2 b2 h2
        simp only [Option.some.injEq, Prod.mk.injEq] at hr
        obtain ⟨rfl, rfl, rfl⟩ := hr
        rw [Bool.and_eq_true] at hb
        simp only [oSeg, Bool.and_eq_true] at hg
        have hd : decode c.code pc = .ok (i, oIl i) := by rw [W.1.2.1]; exact of_decide_eq_true hg.1
        exact oLift (fun t q => oS1_ok W.2.1.here W.1.1 hd hg.2.1 h1 hb.1 q) (oGo W is hg.2.2 h2 hb.2 hp k)
      · cases hr
    · cases hr
theorem oDec (W : OW p l e R s m args below meth c Z a0 EL nb own code ml ret nm vm T locs ce sl h) {pc : Nat} {r : Except DecodeError (Instr × Nat)} (hd : decode code pc = r) : decode c.code pc = r := by rw [W.1.2.1]; exact hd
/-! ### branches -/
theorem oIfT (W : OW p l e R s m args below meth c Z a0 EL nb own code ml ret nm vm T locs ce sl h) {cd : ClassFile.Cond} {o : Int} {x : Int32} {pc : Nat} {ls : Array Slot} {st : List Value} (hd : decode code pc = .ok (.ifCond cd o, 3)) (hc : ifCond.holds cd x = true) {pc' : Nat} (ho : 0 ≤ (pc : Int) + o) (hp : ((pc : Int) + o).toNat = pc') (k : OG p e below s Z EL nb Q ck sk T (mkF m pc' ls st)) : OG p e below s Z EL nb Q ck sk T (mkF m pc ls (.int x :: st)) :=
  oLift (fun t q => XS.ifYes (g := mkF m pc ls (.int x :: st)) W.2.1.here W.1.1 rfl (pc0 := pc) rfl (oDec W hd) rfl hc ho hp q) k
theorem oIfF (W : OW p l e R s m args below meth c Z a0 EL nb own code ml ret nm vm T locs ce sl h) {cd : ClassFile.Cond} {o : Int} {x : Int32} {pc : Nat} {ls : Array Slot} {st : List Value} (hd : decode code pc = .ok (.ifCond cd o, 3)) (hc : ifCond.holds cd x = false) {pc' : Nat} (hp : pc + 3 = pc') (k : OG p e below s Z EL nb Q ck sk T (mkF m pc' ls st)) : OG p e below s Z EL nb Q ck sk T (mkF m pc ls (.int x :: st)) := by
  subst hp
  exact oLift (fun t q => XS.ifNo (g := mkF m pc ls (.int x :: st)) W.2.1.here W.1.1 rfl (oDec W hd) rfl hc q) k
theorem oIcT (W : OW p l e R s m args below meth c Z a0 EL nb own code ml ret nm vm T locs ce sl h) {cd : ClassFile.Cond} {o : Int} {x y : Int32} {pc : Nat} {ls : Array Slot} {st : List Value} (hd : decode code pc = .ok (.if_icmp cd o, 3)) (hc : if_icmp.holds cd x y = true) {pc' : Nat} (ho : 0 ≤ (pc : Int) + o) (hp : ((pc : Int) + o).toNat = pc') (k : OG p e below s Z EL nb Q ck sk T (mkF m pc' ls st)) : OG p e below s Z EL nb Q ck sk T (mkF m pc ls (.int y :: .int x :: st)) :=
  oLift (fun t q => XS.icmpYes (g := mkF m pc ls (.int y :: .int x :: st)) W.2.1.here W.1.1 rfl (pc0 := pc) rfl (oDec W hd) rfl hc ho hp q) k
theorem oIcF (W : OW p l e R s m args below meth c Z a0 EL nb own code ml ret nm vm T locs ce sl h) {cd : ClassFile.Cond} {o : Int} {x y : Int32} {pc : Nat} {ls : Array Slot} {st : List Value} (hd : decode code pc = .ok (.if_icmp cd o, 3)) (hc : if_icmp.holds cd x y = false) {pc' : Nat} (hp : pc + 3 = pc') (k : OG p e below s Z EL nb Q ck sk T (mkF m pc' ls st)) : OG p e below s Z EL nb Q ck sk T (mkF m pc ls (.int y :: .int x :: st)) := by
  subst hp
  exact oLift (fun t q => XS.icmpNo (g := mkF m pc ls (.int y :: .int x :: st)) W.2.1.here W.1.1 rfl (oDec W hd) rfl hc q) k
theorem oNuT (W : OW p l e R s m args below meth c Z a0 EL nb own code ml ret nm vm T locs ce sl h) {o : Int} {pc : Nat} {ls : Array Slot} {st : List Value} (hd : decode code pc = .ok (.ifnull o, 3)) {pc' : Nat} (ho : 0 ≤ (pc : Int) + o) (hp : ((pc : Int) + o).toNat = pc') (k : OG p e below s Z EL nb Q ck sk T (mkF m pc' ls st)) : OG p e below s Z EL nb Q ck sk T (mkF m pc ls (.null :: st)) :=
  oLift (fun t q => XS.ifnullYes (g := mkF m pc ls (.null :: st)) W.2.1.here W.1.1 rfl (pc0 := pc) rfl (oDec W hd) rfl ho hp q) k
theorem oNuF (W : OW p l e R s m args below meth c Z a0 EL nb own code ml ret nm vm T locs ce sl h) {o : Int} {a : Addr} {pc : Nat} {ls : Array Slot} {st : List Value} (hd : decode code pc = .ok (.ifnull o, 3)) {pc' : Nat} (hp : pc + 3 = pc') (k : OG p e below s Z EL nb Q ck sk T (mkF m pc' ls st)) : OG p e below s Z EL nb Q ck sk T (mkF m pc ls (.ref a :: st)) := by
  subst hp
  exact oLift (fun t q => XS.ifnullNo (g := mkF m pc ls (.ref a :: st)) W.2.1.here W.1.1 rfl (oDec W hd) rfl q) k
theorem oNnT (W : OW p l e R s m args below meth c Z a0 EL nb own code ml ret nm vm T locs ce sl h) {o : Int} {a : Addr} {pc : Nat} {ls : Array Slot} {st : List Value} (hd : decode code pc = .ok (.ifnonnull o, 3)) {pc' : Nat} (ho : 0 ≤ (pc : Int) + o) (hp : ((pc : Int) + o).toNat = pc') (k : OG p e below s Z EL nb Q ck sk T (mkF m pc' ls st)) : OG p e below s Z EL nb Q ck sk T (mkF m pc ls (.ref a :: st)) :=
  oLift (fun t q => XT.ifnonnullYes (g := mkF m pc ls (.ref a :: st)) W.2.1.here W.1.1 rfl (pc0 := pc) rfl (oDec W hd) rfl ho hp q) k
theorem oNnF (W : OW p l e R s m args below meth c Z a0 EL nb own code ml ret nm vm T locs ce sl h) {o : Int} {pc : Nat} {ls : Array Slot} {st : List Value} (hd : decode code pc = .ok (.ifnonnull o, 3)) {pc' : Nat} (hp : pc + 3 = pc') (k : OG p e below s Z EL nb Q ck sk T (mkF m pc' ls st)) : OG p e below s Z EL nb Q ck sk T (mkF m pc ls (.null :: st)) := by
  subst hp
  exact oLift (fun t q => XT.ifnonnullNo (g := mkF m pc ls (.null :: st)) W.2.1.here W.1.1 rfl (oDec W hd) rfl q) k
theorem oAcT (W : OW p l e R s m args below meth c Z a0 EL nb own code ml ret nm vm T locs ce sl h) {cd : ACond} {o : Int} {x y : Value} {pc : Nat} {ls : Array Slot} {st : List Value} (hd : decode code pc = .ok (.if_acmp cd o, 3)) (h1 : x.isRef = true) (h2 : y.isRef = true) (hc : XT.acmp cd x y = true) {pc' : Nat} (ho : 0 ≤ (pc : Int) + o) (hp : ((pc : Int) + o).toNat = pc') (k : OG p e below s Z EL nb Q ck sk T (mkF m pc' ls st)) : OG p e below s Z EL nb Q ck sk T (mkF m pc ls (y :: x :: st)) :=
  oLift (fun t q => XT.acmpYes (g := mkF m pc ls (y :: x :: st)) W.2.1.here W.1.1 rfl (pc0 := pc) rfl (oDec W hd) rfl h1 h2 hc ho hp q) k
theorem oAcF (W : OW p l e R s m args below meth c Z a0 EL nb own code ml ret nm vm T locs ce sl h) {cd : ACond} {o : Int} {x y : Value} {pc : Nat} {ls : Array Slot} {st : List Value} (hd : decode code pc = .ok (.if_acmp cd o, 3)) (h1 : x.isRef = true) (h2 : y.isRef = true) (hc : XT.acmp cd x y = false) {pc' : Nat} (hp : pc + 3 = pc') (k : OG p e below s Z EL nb Q ck sk T (mkF m pc' ls st)) : OG p e below s Z EL nb Q ck sk T (mkF m pc ls (y :: x :: st)) := by
  subst hp
  exact oLift (fun t q => XT.acmpNo (g := mkF m pc ls (y :: x :: st)) W.2.1.here W.1.1 rfl (oDec W hd) rfl h1 h2 hc q) k
/-! ### the end -/
theorem oFin (W : OW p l e R s m args below meth c Z a0 EL nb own code ml ret nm vm T locs ce sl h) {v : Option Value} {g : JFrame} (hv : ret = none → v = none)
    (hstep : ∀ fs, (∀ (f : JFrame) (acts : List Action), f.method = m → f.locked = none → f.entered = [] → (doReturn e (T.setTop f) acts v).1 = T.setFrames fs) → Steps p.tables e below (T.setTop g) (T.setFrames fs)) (hc : ce ≤ ck) (hs : sl ≤ sk) (hq : ∀ vm', CHr Z EL vm h vm' h → Q v vm' h) : OG p e below s Z EL nb Q ck sk T g := by
  obtain ⟨⟨h1, h2, h3, h4, h5, h6⟩, X, eT, ⟨k0, hS, hk⟩, hZ, ho, hC, hF, hE, hn, hEW⟩ := W
  obtain ⟨fs, hr, hrun, hended, r1, r2, r3, r4⟩ := X.leaveW hS (by rw [eT]; exact hk) (v := v) (fun q => hv (by rw [← h4]; exact q)) h5
  refine ⟨T.setFrames fs, _, hstep fs hr, hrun, hended, v, locs, rfl, ⟨?_, hF, ?_⟩, fun q => ?_, ?_, r1, r2, r3, r4.mono hc hs⟩
  · show Q v T.vm T.heap
    rw [eT]; exact hq _ (CHv.at X hZ hEW hC.1)
  · show Ext Z.heap T.heap
    rw [eT]; exact hE
  · exact State.WarmedH.trans (t := s.setVm vm) (hn q) X.warmed
  · show CHr Z EL s.vm s.heap T.vm T.heap
    rw [eT]
    exact hC.trans (CHv.at X hZ hEW hC.1)
theorem oRet0 (W : OW p l e R s m args below meth c Z a0 EL nb own code ml none nm vm T locs ce sl h) {pc : Nat} {ls : Array Slot} (hd : decode code pc = .ok (.return_, 1)) (hc : ce ≤ ck) (hs : sl ≤ sk) (hq : ∀ vm', CHr Z EL vm h vm' h → Q none vm' h) : OG p e below s Z EL nb Q ck sk T (mkF m pc ls []) :=
  oFin W (fun _ => rfl) (fun fs hr => W.2.1.returnOut W.1.1 W.1.2.2.2.1 (oDec W hd) hr) hc hs hq
theorem oRetI (W : OW p l e R s m args below meth c Z a0 EL nb own code ml (some .int) nm vm T locs ce sl h) {pc : Nat} {ls : Array Slot} {z : Int32} {rest : List Value} (hd : decode code pc = .ok (.ireturn, 1)) (hc : ce ≤ ck) (hs : sl ≤ sk) (hq : ∀ vm', CHr Z EL vm h vm' h → Q (some (.int z)) vm' h) : OG p e below s Z EL nb Q ck sk T (mkF m pc ls (.int z :: rest)) :=
  oFin W (fun q => by cases q) (fun fs hr => RoadKit.retOut W.2.1 W.1.1 W.1.2.2.2.1 rfl (Or.inl ⟨rfl, Or.inl rfl, _, rfl⟩) (oDec W hd) hr) hc hs hq
theorem oRetN {t : FieldType} (ht : t = .boolean ∨ t = .byte ∨ t = .char ∨ t = .short) (W : OW p l e R s m args below meth c Z a0 EL nb own code ml (some t) nm vm T locs ce sl h) {pc : Nat} {ls : Array Slot} {z : Int32} {rest : List Value} (hn : nar t z = z) (hd : decode code pc = .ok (.ireturn, 1)) (hc : ce ≤ ck) (hs : sl ≤ sk) (hq : ∀ vm', CHr Z EL vm h vm' h → Q (some (.int z)) vm' h) : OG p e below s Z EL nb Q ck sk T (mkF m pc ls (.int z :: rest)) :=
  oFin W (fun q => by cases q) (fun fs hr => RoadKit.retN W.2.1 W.1.1 W.1.2.2.2.1 ht (oDec W hd) (by rw [hn]; exact hr)) hc hs hq
theorem oRetA {t : FieldType} (ht : t.isReference = true) (W : OW p l e R s m args below meth c Z a0 EL nb own code ml (some t) nm vm T locs ce sl h) {pc : Nat} {ls : Array Slot} {w : Value} {rest : List Value} (hw : w.isRef = true) (hn : narrow t w = w) (hd : decode code pc = .ok (.areturn, 1)) (hc : ce ≤ ck) (hs : sl ≤ sk) (hq : ∀ vm', CHr Z EL vm h vm' h → Q (some w) vm' h) : OG p e below s Z EL nb Q ck sk T (mkF m pc ls (w :: rest)) :=
  oFin W (fun q => by cases q) (fun fs hr => RoadKit.retOut W.2.1 W.1.1 W.1.2.2.2.1 hn (Or.inr (Or.inr (Or.inr (Or.inr ⟨rfl, ht, hw⟩)))) (oDec W hd) hr) hc hs hq
end Base
end Jvm.OwnK
namespace Jvm.OwnK
open Jvm Sem ClassFile Op Lib Jvm.Stand Jvm.Free Jvm.LawKit Jvm.RoadKit Bundle
section Heaps
variable {p : Program} {l : Launch} {e : Env} {R : Room} {s : State} {m : MethodId} {args : Array Value} {below : List Frame} {meth : Method} {c : Code} {Z : State} {a0 : Array Value} {EL : List (String × Nat)} {nb : Bool} {own : String} {code : ByteArray} {ml : Nat} {ret : Option FieldType} {nm : String} {vm : Vm} {T : State} {locs : List Loc} {ce sl : Nat} {h h1 h2 : Heap} {Q : Option Value → Vm → Heap → Prop} {ck sk : Nat} {pc : Nat} {ls : Array Slot} {st : List Value}
theorem exR (h : Heap) : Ext h h := ⟨Nat.le_refl _, fun _ _ q => q⟩
theorem exT (A : Ext h h1) (B : Ext h1 h2) : Ext h h2 := ⟨Nat.le_trans A.1 B.1, fun a c q => B.2 a c (A.2 a c q)⟩
theorem exW {a : Addr} {i : Nat} {v : Value} (A : Ext h h1) (B : Wr h1 h2 a i v) (q : h.size ≤ a) : Ext h h2 := by
  have K := (Keep.refl h ([] : List Addr)).ext A |>.wr B (Or.inr q)
  exact ⟨K.1, fun x c hx => K.2.1 x c hx nin0⟩
theorem exK {ws : List Addr} (A : Ext h h1) (K : Keep h1 h2 ws) (q : ∀ x ∈ ws, h.size ≤ x) : Ext h h2 := by
  have K' := ((Keep.refl h ([] : List Addr)).ext A).trans K (fun x hx => Or.inr (q x hx))
  exact ⟨K'.1, fun x c hx => K'.2.1 x c hx nin0⟩
theorem OW.step (W : OW p l e R s m args below meth c Z a0 EL nb own code ml ret nm vm T locs ce sl h) {T' : State} {locs' : List Loc} {ce' sl' : Nat} {h' : Heap} (X' : Stand p l e R (s.setVm vm) m args below meth c T' locs' ce' sl') (eT : T'.heap = h') (hC : CHr Z EL vm h vm h') (hF : Fr Z.heap.size locs') (hE : Ext Z.heap h') :
    OW p l e R s m args below meth c Z a0 EL nb own code ml ret nm vm T' locs' ce' sl' h' := by
  obtain ⟨g1, X, e0, ⟨k0, hS, hk⟩, hZ, ho, hC0, hF0, hE0, hn, hEW⟩ := W
  exact ⟨g1, X', eT, ⟨k0, hS, Nat.le_trans hk hC.2.1⟩, hZ, ho, hC0.trans hC, hF, hE, hn, hEW⟩
theorem OW.chv (W : OW p l e R s m args below meth c Z a0 EL nb own code ml ret nm vm T locs ce sl h) : CHv Z EL vm h := W.2.2.2.2.2.2.1.1
theorem OW.ext (W : OW p l e R s m args below meth c Z a0 EL nb own code ml ret nm vm T locs ce sl h) : Ext Z.heap h := W.2.2.2.2.2.2.2.2.1
theorem OW.fr (W : OW p l e R s m args below meth c Z a0 EL nb own code ml ret nm vm T locs ce sl h) : Fr Z.heap.size locs := W.2.2.2.2.2.2.2.1
theorem OW.warm (W : OW p l e R s m args below meth c Z a0 EL nb own code ml ret nm vm T locs ce sl h) : Z.Warmed39 vm := W.2.2.2.2.1
theorem OW.owns (W : OW p l e R s m args below meth c Z a0 EL nb own code ml ret nm vm T locs ce sl h) : vm.findClass own = some m.cls := W.2.2.2.2.2.1
theorem OW.heap (W : OW p l e R s m args below meth c Z a0 EL nb own code ml ret nm vm T locs ce sl h) : T.heap = h := W.2.2.1
theorem frS {k : Nat} {L : List Loc} {a : Addr} {i : Nat} (N : Fr k L) (q : k ≤ a) : Fr k (L ++ [⟨a, i⟩]) := N.app fun y hy => by cases List.mem_singleton.mp hy; exact q
/-- new -/
theorem oNew (W : OW p l e R s m args below meth c Z a0 EL nb own code ml ret nm vm T locs ce sl h) {idx n : Nat} {C : String} (w : (Jvm.Cond.classLink own idx C).before a0 Z = true) (wi : (Jvm.Cond.instantiable C n).before a0 Z = true) (wz : (Jvm.Cond.initialized C).before a0 Z = true) (hd : decode code pc = .ok (.new idx, 3)) (hc : ce + 1 ≤ R.cells) (hl : sl + n ≤ R.slots) :
    ∃ T' h' a, OW p l e R s m args below meth c Z a0 EL nb own code ml ret nm vm T' locs (ce + 1) (sl + n) h' ∧ h.size ≤ a ∧ Ext h h' ∧ Exa Z h' a C ∧ (∀ {O nm d : String} {ty : FieldType}, Laid Z a0 C O nm d → parseFieldDescriptor d = some ty → Fld Z h' a O nm d (defaultValue ty)) ∧ Safe Z EL vm h' a ∧ CHr Z EL vm h vm h' ∧
      Lt p e below T (mkF m pc ls st) T' (mkF m (pc + 3) ls (.ref a :: st)) := by
  obtain ⟨T', h', X', eT, E, A, D, -, st'⟩ := RoadKit.newO W.2.1 W.1.1 W.warm W.owns w wi wz W.heap (g := mkF m pc ls st) rfl (oDec W hd) hc hl
  have hC : CHr Z EL vm h vm h' := CHr.ext E W.chv
  exact ⟨T', h', h.size, W.step X' eT hC W.fr (exT W.ext E), Nat.le_refl _, E, A, fun L q => D L q, (Safe.new (Nat.le_refl _)).ext E W.chv, hC, st'⟩
/-- an array with known contents -/
def OA (Z : State) (h : Heap) (a : Addr) (k : ClassId) (ty : FieldType) (vs : List Value) : Prop := ∃ n d, Arv Z h a k ty n vs d ∧ n.toNatClampNeg = vs.length
theorem OA.ext {a : Addr} {k : ClassId} {ty : FieldType} {vs : List Value} (A : OA Z h a k ty vs) (E : Ext h h1) : OA Z h1 a k ty vs := by obtain ⟨n, d, F, q⟩ := A; exact ⟨n, d, F.ext E, q⟩
theorem OA.other {a b : Addr} {k : ClassId} {ty : FieldType} {vs : List Value} {i : Nat} {v : Value} (A : OA Z h b k ty vs) (W : Wr h h1 a i v) (q : b ≠ a) : OA Z h1 b k ty vs := by obtain ⟨n, d, F, r⟩ := A; exact ⟨n, d, F.other W q, r⟩
theorem OA.keep {a : Addr} {k : ClassId} {ty : FieldType} {vs : List Value} {ws : List Addr} (A : OA Z h a k ty vs) (K : Keep h h1 ws) (q : a ∉ ws) : OA Z h1 a k ty vs := by obtain ⟨n, d, F, r⟩ := A; exact ⟨n, d, F.keep K q, r⟩
theorem OA.lt {a : Addr} {k : ClassId} {ty : FieldType} {vs : List Value} (A : OA Z h a k ty vs) : a < h.size := by obtain ⟨n, d, F, -⟩ := A; exact F.lt
theorem OA.get {a : Addr} {k : ClassId} {ty : FieldType} {vs : List Value} (A : OA Z h a k ty vs) {i : Nat} {v : Value} (hv : vs[i]? = some v) : fits ty v = true := by
  obtain ⟨n, d, ⟨cl, -, -, hs, -, -, G⟩, r⟩ := A
  have hi : i < vs.length := (List.getElem?_eq_some_iff.mp hv).1
  have := G i (by rw [hs, r]; exact hi)
  rwa [List.getD_eq_getElem?_getD, hv] at this
theorem OA.ne {a b : Addr} {k : ClassId} {ty : FieldType} {vs : List Value} {C : String} {n : Nat} (A : OA Z h b k ty vs) (E : Exa Z h a C) (w : (Jvm.Cond.instantiable C n).before a0 Z = true) : b ≠ a := by
  obtain ⟨q, d, F, -⟩ := A
  exact Ne.symm (E.neArv F w)
theorem OA.safe {vm : Vm} {a : Addr} {k : ClassId} {ty : FieldType} {vs : List Value} (A : OA Z h a k ty vs) (hal : Z.vm.Alike vm) (ht : ty ≠ .byte) : Safe Z EL vm h a := by
  obtain ⟨n, d, ⟨cl, A1, -⟩, -⟩ := A
  exact Safe.arr hal A1 ht
theorem oJn {g : JFrame} {α : Type} (P : α → Prop) (F : α → JFrame) (k : ∀ r, P r → OG p e below s Z EL nb Q ck sk T (F r)) (u : (∀ r, P r → OG p e below s Z EL nb Q ck sk T (F r)) → OG p e below s Z EL nb Q ck sk T g) : OG p e below s Z EL nb Q ck sk T g := u k
theorem oNewA (W : OW p l e R s m args below meth c Z a0 EL nb own code ml ret nm vm T locs ce sl h) {aty : ArrayType} (w : (Jvm.Cond.arrayClass (newarray.typeOf aty)).before a0 Z = true) (hd : decode code pc = .ok (.newarray aty, 2)) {n : Int32} (hn : ¬ n < 0) {cap : Nat} (hcap : n.toNatClampNeg ≤ cap) (hb : cap * 8 ≤ 536870912) (hc : ce + 1 ≤ R.cells) (hl : sl + cap ≤ R.slots) :
    ∃ T' h' a k, OW p l e R s m args below meth c Z a0 EL nb own code ml ret nm vm T' locs (ce + 1) (sl + cap) h' ∧ h.size ≤ a ∧ Ext h h' ∧ OA Z h' a k (newarray.typeOf aty) (List.replicate n.toNatClampNeg (defaultValue (newarray.typeOf aty))) ∧ Safe Z EL vm h' a ∧ CHr Z EL vm h vm h' ∧
      Lt p e below T (mkF m pc ls (.int n :: st)) T' (mkF m (pc + 2) ls (.ref a :: st)) := by
  obtain ⟨T', h', cA, X', eT, E, A, st'⟩ := RoadKit.newP W.2.1 W.1.1 W.warm w W.heap (g := mkF m pc ls (.int n :: st)) rfl (oDec W hd) rfl hn hcap hb hc hl
  have hC : CHr Z EL vm h vm h' := CHr.ext E W.chv
  have F := (Arv.new A hn).pad (vs' := [] ++ List.replicate n.toNatClampNeg (defaultValue (newarray.typeOf aty))) (pad_rep [] _ _)
  exact ⟨T', h', h.size, cA, W.step X' eT hC W.fr (exT W.ext E), Nat.le_refl _, E, ⟨n, _, F, by simp⟩, (Safe.new (Nat.le_refl _)).ext E W.chv, hC, st'⟩
/-- the array's length and its components -/
theorem oLen (W : OW p l e R s m args below meth c Z a0 EL nb own code ml ret nm vm T locs ce sl h) {a : Addr} {k : ClassId} {ty : FieldType} {vs : List Value} (A : OA Z h a k ty vs) (hd : decode code pc = .ok (.arraylength, 1)) (K : OG p e below s Z EL nb Q ck sk T (mkF m (pc + 1) ls (.int vs.length.toInt32 :: st))) : OG p e below s Z EL nb Q ck sk T (mkF m pc ls (.ref a :: st)) := by
  obtain ⟨n, d, ⟨cl, A1, -, hs, -, -, -⟩, r⟩ := A
  refine oLift (fun t q => W.2.1.arraylength W.1.1 (cell := cl) (by rw [W.heap]; exact A1.1) (State.isArrayOf_alike W.warm.alike A1.2.1) (g := mkF m pc ls (.ref a :: st)) rfl rfl (oDec W hd) t ?_) K
  rw [hs, r]; exact q
theorem oGet (W : OW p l e R s m args below meth c Z a0 EL nb own code ml ret nm vm T locs ce sl h) {a : Addr} {k : ClassId} {ty : FieldType} {vs : List Value} (A : OA Z h a k ty vs) {j : Int32} {v : Value} (hj : ¬ j < 0) (hv : vs[j.toNatClampNeg]? = some v) {i : Instr}
    (hi : (i = .caload ∧ ty = .char) ∨ (i = .baload ∧ ty = .byte) ∨ (i = .iaload ∧ ty = .int) ∨ (i = .aaload ∧ ty.isReference = true)) (hd : decode code pc = .ok (i, 1)) (K : OG p e below s Z EL nb Q ck sk T (mkF m (pc + 1) ls (v :: st))) : OG p e below s Z EL nb Q ck sk T (mkF m pc ls (.int j :: .ref a :: st)) := by
  obtain ⟨n, d, ⟨cl, A1, -, hs, -, H, -⟩, r⟩ := A
  have hlt : j.toNatClampNeg < vs.length := (List.getElem?_eq_some_iff.mp hv).1
  have hin : ¬ (j < 0 ∨ cl.slots.size ≤ j.toNatClampNeg) := fun q => q.elim hj (fun q => by rw [hs, r] at q; omega)
  have hcv : cl.slots[j.toNatClampNeg]? = some v := Has.at H hin (by rw [List.getD_eq_getElem?_getD, hv]; rfl)
  have hA : (s.setVm vm).isArrayOf cl ty := State.isArrayOf_alike W.warm.alike A1.2.1
  have hce : T.heap[a]? = some cl := by rw [W.heap]; exact A1.1
  rcases hi with ⟨rfl, rfl⟩ | ⟨rfl, rfl⟩ | ⟨rfl, rfl⟩ | ⟨rfl, ht⟩
  · exact oLift (fun t q => W.2.1.caload W.1.1 hce hA A1.2.2 hin hcv (g := mkF m pc ls (.int j :: .ref a :: st)) rfl rfl (oDec W hd) t q) K
  · exact oLift (fun t q => W.2.1.baloadBytes W.1.1 hce hA A1.2.2 hin hcv (g := mkF m pc ls (.int j :: .ref a :: st)) rfl rfl (oDec W hd) t q) K
  · exact oLift (fun t q => W.2.1.iaload W.1.1 hce hA A1.2.2 hin hcv (g := mkF m pc ls (.int j :: .ref a :: st)) rfl rfl (oDec W hd) t q) K
  · exact oLift (fun t q => W.2.1.aaload W.1.1 hce hA ht A1.2.2 hin hcv (g := mkF m pc ls (.int j :: .ref a :: st)) rfl rfl (oDec W hd) t q) K
/-- a store into a char[], a byte[], an int[] made since the law began -/
theorem oPut (W : OW p l e R s m args below meth c Z a0 EL nb own code ml ret nm vm T locs ce sl h) {a : Addr} {k : ClassId} {ty : FieldType} {vs : List Value} (A : OA Z h a k ty vs) {j x x' : Int32} (hj : ¬ j < 0) {i : Nat} (hji : j.toNatClampNeg = i) (hlt : i < vs.length) (hfr : Z.heap.size ≤ a) (hS : Safe Z EL vm h a) {ins : Instr}
    (hi : (ins = .castore ∧ ty = .char ∧ nar .char x = x') ∨ (ins = .bastore ∧ ty = .byte ∧ nar .byte x = x') ∨ (ins = .iastore ∧ ty = .int ∧ x = x')) (hd : decode code pc = .ok (ins, 1)) :
    ∃ T' h', OW p l e R s m args below meth c Z a0 EL nb own code ml ret nm vm T' (locs ++ [⟨a, i⟩]) ce sl h' ∧ Wr h h' a i (.int x') ∧ OA Z h' a k ty (vs.set i (.int x')) ∧ CHr Z EL vm h vm h' ∧ Lt p e below T (mkF m pc ls (.int x :: .int j :: .ref a :: st)) T' (mkF m (pc + 1) ls st) := by
  obtain ⟨n, d, ⟨cl, A1, hk, hs, hn, H, G⟩, r⟩ := A
  subst hji
  have hin : ¬ (j < 0 ∨ cl.slots.size ≤ j.toNatClampNeg) := fun q => q.elim hj (fun q => by rw [hs, r] at q; omega)
  have key : ∀ {T' h'}, Stand p l e R (s.setVm vm) m args below meth c T' (locs ++ [⟨a, j.toNatClampNeg⟩]) ce sl → T'.heap = h' → Wr h h' a j.toNatClampNeg (.int x') → fits ty (.int x') = true → Lt p e below T (mkF m pc ls (.int x :: .int j :: .ref a :: st)) T' (mkF m (pc + 1) ls st) →
      ∃ T' h', OW p l e R s m args below meth c Z a0 EL nb own code ml ret nm vm T' (locs ++ [⟨a, j.toNatClampNeg⟩]) ce sl h' ∧ Wr h h' a j.toNatClampNeg (.int x') ∧ OA Z h' a k ty (vs.set j.toNatClampNeg (.int x')) ∧ CHr Z EL vm h vm h' ∧ Lt p e below T (mkF m pc ls (.int x :: .int j :: .ref a :: st)) T' (mkF m (pc + 1) ls st) := by
    intro T' h' X' eT Wr' hf st'
    have hC : CHr Z EL vm h vm h' := CHr.wr Wr' hS W.chv
    exact ⟨T', h', W.step X' eT hC (frS W.fr hfr) (exW W.ext Wr' hfr), Wr', ⟨n, d, Arv.set A1 hk hs hn H G hf Wr' _ rfl hlt, by simpa using r⟩, hC, st'⟩
  rcases hi with ⟨rfl, rfl, rfl⟩ | ⟨rfl, rfl, rfl⟩ | ⟨rfl, rfl, rfl⟩
  · obtain ⟨T', h', X', eT, Wr', st'⟩ := RoadKit.stC W.2.1 W.1.1 W.warm W.heap A1 hin (g := mkF m pc ls (.int x :: .int j :: .ref a :: st)) rfl rfl (oDec W hd)
    exact key X' eT Wr' (fits_nar_char _) st'
  · obtain ⟨T', h', X', eT, Wr', st'⟩ := RoadKit.stB W.2.1 W.1.1 W.warm W.heap A1 hin (g := mkF m pc ls (.int x :: .int j :: .ref a :: st)) rfl rfl (oDec W hd)
    exact key X' eT Wr' (fits_nar_byte _) st'
  · obtain ⟨T', h', X', eT, Wr', st'⟩ := RoadKit.stI W.2.1 W.1.1 W.warm W.heap A1 hin (g := mkF m pc ls (.int x :: .int j :: .ref a :: st)) rfl rfl (oDec W hd)
    exact key X' eT Wr' rfl st'
/-- fields -/
theorem oGetF (W : OW p l e R s m args below meth c Z a0 EL nb own code ml ret nm vm T locs ce sl h) {idx : Nat} {R0 O n d : String} (w : (Jvm.Cond.fieldLink own idx R0 n d).before a0 Z = true) (via : Via Z R0 O n d) {a : Addr} {v : Value} (F : Fld Z h a O n d v) (hd : decode code pc = .ok (.getfield idx, 3)) :
    ∃ T', OW p l e R s m args below meth c Z a0 EL nb own code ml ret nm vm T' locs ce sl h ∧ Lt p e below T (mkF m pc ls (.ref a :: st)) T' (mkF m (pc + 3) ls (v :: st)) := by
  obtain ⟨T', X', eT, st'⟩ := RoadKit.getF W.2.1 W.1.1 W.warm W.owns (host := "") (Or.inl w) via W.heap F (g := mkF m pc ls (.ref a :: st)) rfl rfl (oDec W hd)
  exact ⟨T', W.step X' eT (CHr.refl W.chv) W.fr W.ext, st'⟩
theorem oGetS (W : OW p l e R s m args below meth c Z a0 EL nb own code ml ret nm vm T locs ce sl h) {idx : Nat} {R0 O n d : String} (w : (Jvm.Cond.fieldLink own idx R0 n d).before a0 Z = true) (via : Via Z R0 O n d) {v : Value} (F : Sta Z h O n d v) (hd : decode code pc = .ok (.getstatic idx, 3)) :
    ∃ T', OW p l e R s m args below meth c Z a0 EL nb own code ml ret nm vm T' locs ce sl h ∧ Lt p e below T (mkF m pc ls st) T' (mkF m (pc + 3) ls (v :: st)) := by
  obtain ⟨T', X', eT, st'⟩ := RoadKit.getS (host := "") W.2.1 W.1.1 W.warm W.owns w via W.heap F (g := mkF m pc ls st) rfl (oDec W hd)
  exact ⟨T', W.step X' eT (CHr.refl W.chv) W.fr W.ext, st'⟩
theorem oPutF (W : OW p l e R s m args below meth c Z a0 EL nb own code ml ret nm vm T locs ce sl h) {idx kk : Nat} {R0 O n d C : String} {ty : FieldType} (w : (Jvm.Cond.fieldLink own idx R0 n d).before a0 Z = true) (via : Via Z R0 O n d) {a : Addr} {v old : Value} (F : Fld Z h a O n d old) (E : Exa Z h a C)
    (L : (Jvm.Cond.lays C O n d).before a0 Z = true ∨ ((Jvm.Cond.laysFinal C O n d).before a0 Z = true ∧ own = O ∧ nm = "<init>")) (wi : (Jvm.Cond.instantiable C kk).before a0 Z = true) (hty : parseFieldDescriptor d = some ty) (hn : narrow ty v = v) (hf : fits ty v = true) (hfr : Z.heap.size ≤ a) (hS : Safe Z EL vm h a) (hd : decode code pc = .ok (.putfield idx, 3)) :
    ∃ T' h', OW p l e R s m args below meth c Z a0 EL nb own code ml ret nm vm T' (locs ++ [⟨a, RoadKit.slotOf Z O n d⟩]) ce sl h' ∧ Wr h h' a (RoadKit.slotOf Z O n d) v ∧ Fld Z h' a O n d v ∧ Exa Z h' a C ∧ CHr Z EL vm h vm h' ∧ Lt p e below T (mkF m pc ls (v :: .ref a :: st)) T' (mkF m (pc + 3) ls st) := by
  obtain ⟨T', h', X', eT, Wr', st'⟩ := RoadKit.putF W.2.1 W.1.1 W.warm W.owns (host := "") (Or.inl w) via W.heap F E (L.imp id fun q => ⟨q.1, q.2.1, W.1.2.2.2.2.2.trans q.2.2⟩) wi hty hn hf (g := mkF m pc ls (v :: .ref a :: st)) rfl rfl (oDec W hd)
  have hC : CHr Z EL vm h vm h' := CHr.wr Wr' hS W.chv
  exact ⟨T', h', W.step X' eT hC (frS W.fr hfr) (exW W.ext Wr' hfr), Wr', F.same Wr', E.wr Wr', hC, st'⟩
theorem oCast (W : OW p l e R s m args below meth c Z a0 EL nb own code ml ret nm vm T locs ce sl h) {idx : Nat} {K : String} (w : (Jvm.Cond.classLink own idx K).before a0 Z = true) {a : Addr} (F : Ins Z h a K true) (hd : decode code pc = .ok (.checkcast idx, 3)) :
    ∃ T', OW p l e R s m args below meth c Z a0 EL nb own code ml ret nm vm T' locs ce sl h ∧ Lt p e below T (mkF m pc ls (.ref a :: st)) T' (mkF m (pc + 3) ls (.ref a :: st)) := by
  obtain ⟨T', X', eT, st'⟩ := RoadKit.castY W.2.1 W.1.1 W.warm W.owns w W.heap F (g := mkF m pc ls (.ref a :: st)) rfl rfl (oDec W hd)
  exact ⟨T', W.step X' eT (CHr.refl W.chv) W.fr W.ext, st'⟩
theorem oInst (W : OW p l e R s m args below meth c Z a0 EL nb own code ml ret nm vm T locs ce sl h) {idx : Nat} {K : String} (w : (Jvm.Cond.classLink own idx K).before a0 Z = true) {a : Addr} (F : Ins Z h a K true) (hd : decode code pc = .ok (.instanceof idx, 3)) :
    ∃ T', OW p l e R s m args below meth c Z a0 EL nb own code ml ret nm vm T' locs ce sl h ∧ Lt p e below T (mkF m pc ls (.ref a :: st)) T' (mkF m (pc + 3) ls (.int 1 :: st)) := by
  obtain ⟨T', X', eT, st'⟩ := RoadKit.instY W.2.1 W.1.1 W.warm W.owns w W.heap F (g := mkF m pc ls (.ref a :: st)) rfl rfl (oDec W hd)
  exact ⟨T', W.step X' eT (CHr.refl W.chv) W.fr W.ext, st'⟩
/-- Object.<init> -/
theorem oInit (W : OW p l e R s m args below meth c Z a0 EL nb own code ml ret nm vm T locs ce sl h) {idx : Nat} (w1 : (Jvm.Cond.methodLink own idx Lib.objectInit).before a0 Z = true) (w2 : (Jvm.Cond.instanceMethod Lib.objectInit).before a0 Z = true) (w3 : (Jvm.Cond.code Lib.objectInit ⟨#[0xb1]⟩ 1 none).before a0 Z = true) {a : Addr} (hsz : ls.size = ml) (hd : decode code pc = .ok (.invokespecial idx, 3))
    (hf : 1 ≤ R.frames) {V : Nat} (hW : (st.map fun v => v.category).sum ≤ V) (hl : V + 12 ≤ R.locals) :
    ∃ T', OW p l e R s m args below meth c Z a0 EL nb own code ml ret nm vm T' locs ce sl h ∧ Lt p e below T (mkF m pc ls (.ref a :: st)) T' (mkF m (pc + 3) ls st) := by
  obtain ⟨T', X', eT, st'⟩ := RoadKit.initO W.2.1 W.1.1 W.warm W.owns w1 w2 w3 W.heap (g := mkF m pc ls (.ref a :: st)) rfl (hsz.trans W.1.2.2.1.symm) rfl (oDec W hd) hf (W := V) (by show 2 * 0 + _ ≤ _; omega) hl
  exact ⟨T', W.step X' eT (CHr.refl W.chv) W.fr W.ext, st'⟩
/-- clone() of an array -/
theorem oClone (W : OW p l e R s m args below meth c Z a0 EL nb own code ml ret nm vm T locs ce sl h) {idx : Nat} {ad : String} (w1 : (Jvm.Cond.methodLink own idx ⟨ad, "clone", "()Ljava/lang/Object;"⟩).before a0 Z = true) (w2 : (Jvm.Cond.sameMethod ad "java/lang/Object" "clone" "()Ljava/lang/Object;").before a0 Z = true) (w3 : (Jvm.Cond.native ⟨"java/lang/Object", "clone", "()Ljava/lang/Object;"⟩).before a0 Z = true)
    (w4 : (Jvm.Cond.instanceMethod ⟨"java/lang/Object", "clone", "()Ljava/lang/Object;"⟩).before a0 Z = true) (w5 : (Jvm.Cond.selects ad ⟨ad, "clone", "()Ljava/lang/Object;"⟩ ⟨"java/lang/Object", "clone", "()Ljava/lang/Object;"⟩).before a0 Z = true) (w6 : (Jvm.Cond.castable ad "java/lang/Cloneable").before a0 Z = true)
    {a : Addr} {k : ClassId} {ty : FieldType} {vs : List Value} (A : OA Z h a k ty vs) (E : Exa Z h a ad) (hsz : ls.size = ml) (hd : decode code pc = .ok (.invokevirtual idx, 3)) (hf : 1 ≤ R.frames) {V cap : Nat} (hV : (st.map fun v => v.category).sum ≤ V) (hl : V + 14 ≤ R.locals) (hcap : vs.length ≤ cap) (hc : ce + 1 ≤ R.cells) (hs : sl + cap ≤ R.slots) :
    ∃ T' h' b, OW p l e R s m args below meth c Z a0 EL nb own code ml ret nm vm T' locs (ce + 1) (sl + cap) h' ∧ h.size ≤ b ∧ Ext h h' ∧ OA Z h' b k ty vs ∧ Exa Z h' b ad ∧ CHr Z EL vm h vm h' ∧ Lt p e below T (mkF m pc ls (.ref a :: st)) T' (mkF m (pc + 3) ls (.ref b :: st)) := by
  obtain ⟨n, d, F, r⟩ := A
  obtain ⟨T', h', X', eT, Ex, A', E', st'⟩ := RoadKit.cloneH W.2.1 W.1.1 W.warm W.owns w1 w2 w3 w4 w5 w6 W.heap F.arh E (g := mkF m pc ls (.ref a :: st)) rfl (hsz.trans W.1.2.2.1.symm) rfl (oDec W hd) hf (W := V) (by show 2 * 0 + _ ≤ _; omega) hl (cap := cap) (by rw [r]; exact hcap) hc hs
  have hC : CHr Z EL vm h vm h' := CHr.ext Ex W.chv
  exact ⟨T', h', h.size, W.step X' eT hC W.fr (exT W.ext Ex), Nat.le_refl _, Ex, ⟨n, d, A', r⟩, E', hC, st'⟩
/-- checkcast of null -/
theorem oCastN (W : OW p l e R s m args below meth c Z a0 EL nb own code ml ret nm vm T locs ce sl h) {idx : Nat} (hd : decode code pc = .ok (.checkcast idx, 3)) (K : OG p e below s Z EL nb Q ck sk T (mkF m (pc + 3) ls (.null :: st))) : OG p e below s Z EL nb Q ck sk T (mkF m pc ls (.null :: st)) :=
  oLift (fun t q => W.2.1.checkcastNull W.1.1 (g := mkF m pc ls (.null :: st)) rfl rfl (oDec W hd) t q) K
/-- a component of an array of references, the cell at hand -/
theorem oGetC (W : OW p l e R s m args below meth c Z a0 EL nb own code ml ret nm vm T locs ce sl h) {a : Addr} {cl : Cell} {ty : FieldType} (A : Arr Z h a cl ty) {j : Int32} {v : Value} (hin : ¬ (j < 0 ∨ cl.slots.size ≤ j.toNatClampNeg)) (hv : cl.slots[j.toNatClampNeg]? = some v) (ht : ty.isReference = true) (hd : decode code pc = .ok (.aaload, 1)) (K : OG p e below s Z EL nb Q ck sk T (mkF m (pc + 1) ls (v :: st))) : OG p e below s Z EL nb Q ck sk T (mkF m pc ls (.int j :: .ref a :: st)) :=
  oLift (fun t q => W.2.1.aaload W.1.1 (by rw [W.heap]; exact A.1) (State.isArrayOf_alike W.warm.alike A.2.1) ht A.2.2 hin hv (g := mkF m pc ls (.int j :: .ref a :: st)) rfl rfl (oDec W hd) t q) K
/-- an int constant -/
theorem oLdcI (W : OW p l e R s m args below meth c Z a0 EL nb own code ml ret nm vm T locs ce sl h) {idx : Nat} {v : Int32} (w : (Jvm.Cond.constant own idx v).before a0 Z = true) (hd : decode code pc = .ok (.ldc idx, 2)) (K : OG p e below s Z EL nb Q ck sk T (mkF m (pc + 2) ls (.int v :: st))) : OG p e below s Z EL nb Q ck sk T (mkF m pc ls st) :=
  oLift (fun t q => W.2.1.ldcInt W.1.1 W.owns (mvT W.warm w) (g := mkF m pc ls st) rfl (oDec W hd) t q) K
/-- a String constant, opaque -/
theorem oLdc (W : OW p l e R s m args below meth c Z a0 EL false own code ml ret nm vm T locs ce sl h) {idx : Nat} {text : String} (w : (Jvm.Cond.stringLink own idx text).before a0 Z = true) (wS : ∀ a ∈ Bundle.stringAtoms, a.before a0 Z = true) (hd : decode code pc = .ok (.ldc idx, 2)) {n : Nat} (hn : 4 * text.toList.length ≤ n) (hbig : n ≤ 536870912) (hc : ce + 2 ≤ R.cells) (hl : sl + (n + 4) ≤ R.slots) :
    ∃ a T' h' vm', OW p l e R s m args below meth c Z a0 EL false own code ml ret nm vm' T' locs (ce + 2) (sl + (n + 4)) h' ∧ Ext h h' ∧ CHr Z EL vm h vm' h' ∧ Lt p e below T (mkF m pc ls st) T' (mkF m (pc + 2) ls (.ref a :: st)) := by
  obtain ⟨g1, X, e0, ⟨k0, hS, hk⟩, hZ, ho, hC0, hF0, hE0, hn0, hEW⟩ := id W
  obtain ⟨a, T', h', k1, X', eT, E, hS', hk', hZ', ho', hC, -, st'⟩ := RoadKit.ldcOH X W.1.1 hZ ho w wS e0 hS hk hEW W.chv (g := mkF m pc ls st) rfl (oDec W hd) hn hbig hc hl
  exact ⟨a, T', h', T'.vm, ⟨g1, X', eT, ⟨k1, hS', hk'⟩, hZ', ho', hC0.trans hC, hF0, exT hE0 E, (fun q => by cases q), hEW⟩, E, hC, st'⟩
/-- a String constant of EL, read -/
theorem oLdcC (W : OW p l e R s m args below meth c Z a0 EL false own code ml ret nm vm T locs ce sl h) {idx : Nat} {text : String} (w : (Jvm.Cond.stringLink own idx text).before a0 Z = true) (wS : ∀ a ∈ Bundle.stringAtoms, a.before a0 Z = true) (hm : (own, idx) ∈ EL) {vs : List Value} {z : Int32} (ht : (∀ c ∈ text.toList, c.toNat < 256) ∧ text.toList.map (fun c => Value.int (Jvm.Lit.byteI c.toNat.toUInt16)) = vs) (hz : ¬ z < 0) (hzl : z.toNatClampNeg = vs.length)
    (hd : decode code pc = .ok (.ldc idx, 2)) {n : Nat} (hn : 4 * text.toList.length ≤ n) (hbig : n ≤ 536870912) (hc : ce + 2 ≤ R.cells) (hl : sl + (n + 4) ≤ R.slots) :
    ∃ a b k T' h' vm', OW p l e R s m args below meth c Z a0 EL false own code ml ret nm vm' T' locs (ce + 2) (sl + (n + 4)) h' ∧ Ext h h' ∧ CHr Z EL vm h vm' h' ∧ Exa Z h' a "java/lang/String" ∧ Fld Z h' a "java/lang/String" "coder" "B" (.int 0) ∧ Fld Z h' a "java/lang/String" "value" "[B" (.ref b) ∧ OA Z h' b k .byte vs ∧
      Lt p e below T (mkF m pc ls st) T' (mkF m (pc + 2) ls (.ref a :: st)) := by
  obtain ⟨g1, X, e0, ⟨k0, hS, hk⟩, hZ, ho, hC0, hF0, hE0, hn0, hEW⟩ := id W
  obtain ⟨a, T', h', k1, b, k, X', eT, E, hS', hk', hZ', ho', q1, q2, q3, q4, -, -, hC, -, -, st'⟩ := RoadKit.ldcCH X W.1.1 hZ ho w wS e0 hS hk hEW hm W.chv ht hz hzl (g := mkF m pc ls st) rfl (oDec W hd) hn hbig hc hl
  exact ⟨a, b, k, T', h', T'.vm, ⟨g1, X', eT, ⟨k1, hS', hk'⟩, hZ', ho', hC0.trans hC, hF0, exT hE0 E, (fun q => by cases q), hEW⟩, E, hC, q1, q2, q3, ⟨z, _, q4, hzl⟩, st'⟩
end Heaps
section Calls
variable {p : Program} {l : Launch} {e : Env} {R : Room} {s : State} {m : MethodId} {args : Array Value} {below : List Frame} {meth : Method} {c : Code} {Z : State} {a0 : Array Value} {EL : List (String × Nat)} {nb : Bool} {own : String} {code : ByteArray} {ml : Nat} {ret : Option FieldType} {nm : String} {vm : Vm} {T : State} {locs : List Loc} {ce sl : Nat} {h : Heap} {pc : Nat} {ls : Array Slot} {st : List Value}
  {y : MethodName} {bytes : ByteArray} {maxL : Nat} {ret' : Option FieldType} {rm : Room} {as' : Array Value} {sf : List Addr} {Q' : Option Value → Vm → Heap → Prop}
theorem oBack (W : OW p l e R s m args below meth c Z a0 EL nb own code ml ret nm vm T locs ce sl h) (hM : OC l Z EL nb [] y bytes maxL ret' rm as' h sf Q') (hsf : ∀ x ∈ sf, x < h.size ∧ Safe Z EL vm h x) (wc : (Jvm.Cond.code y bytes maxL ret').before a0 Z = true) (wz : (Jvm.Cond.initialized y.cls).before a0 Z = true) {len V : Nat} (hf : rm.frames + 1 ≤ R.frames) (hl : V + (maxL + 11) + rm.locals ≤ R.locals) :
    BackS l R p e below (s.setVm vm) args y len V (fun A a => a = as' ∧ A.U.heap = h ∧ A.cells + rm.cells ≤ R.cells ∧ A.slots + rm.slots ≤ R.slots)
      (fun A _ v B => ∃ L, (Q' v B.U.vm B.U.heap ∧ Fr Z.heap.size L ∧ Ext Z.heap B.U.heap) ∧ B.locs = A.locs ++ L ∧ B.cells = A.cells + rm.cells ∧ B.slots = A.slots + rm.slots ∧ CHr Z EL vm h B.U.vm B.U.heap ∧ (nb = true → A.U.WarmedH B.U.vm)) :=
  have hZ := W.warm
  have hEL : EW Z a0 EL := W.2.2.2.2.2.2.2.2.2.2
  have H := W.chv
  BackS.of_freeW (bytes := bytes) (maxL := maxL) (ret := ret') (E := fun _ first o t L k n => k = rm.cells ∧ n = rm.slots ∧ (∃ v, o = .returned v ∧ (Q' v t.vm t.heap ∧ Fr Z.heap.size L ∧ Ext Z.heap t.heap)) ∧ CHr Z EL first.vm first.heap t.vm t.heap ∧ (nb = true → first.WarmedH t.vm)) hM hf hl
    (fun m meth c A a Y hp => have hU : Z.Warmed39 A.U.vm := wtrans (s := s.setVm vm) hZ Y.warmed
      ⟨by show (Jvm.Cond.and _ .tt).before a A.U = true; rw [Cond.before_and, mv hU wc]; rfl, mv hU wc, mv hU wz, hp.2.2.1, hp.2.2.2⟩)
    (fun m meth c A a g mk Y hp => ⟨hp.1, wtrans (s := s.setVm vm) hZ Y.warmed, hp.2.1, (CHv.at Y hZ hEL H).1, W.ext, fun x hx => (CHv.at Y hZ hEL H).safe (hsf x hx).1 (hsf x hx).2⟩) (fun _ _ _ _ _ _ _ _ _ => trivial)
    (fun _ _ _ _ ⟨v, L, h1, h2, h2', h3, h4⟩ => ⟨L, _, _, h4, rfl, rfl, ⟨v, h1, h2⟩, h3, h2'⟩)
    (fun m meth c A a g mk v t L k n Y hp _ _ ⟨e1, e2, ⟨v', e3, e4⟩, e5, e6⟩ => by
      cases e3; subst e1 e2
      refine ⟨L, e4, rfl, rfl, rfl, (CHv.at Y hZ hEL H).trans ?_, e6⟩
      rw [← hp.2.1]; exact e5)
theorem oCalled (W : OW p l e R s m args below meth c Z a0 EL nb own code ml ret nm vm T locs ce sl h) {vm₁ : Vm} {B : Pt} {v : Option Value} {g g' : JFrame} (hW : (s.setVm vm).WarmedH vm₁) (X' : Stand p l e R ((s.setVm vm).setVm B.U.vm) m args below meth c B.U B.locs B.cells B.slots) (hS : (s.setVm vm).Since B.U.vm B.U.heap.size)
    (hP : ∃ L, (Q' v B.U.vm B.U.heap ∧ Fr Z.heap.size L ∧ Ext Z.heap B.U.heap) ∧ B.locs = locs ++ L ∧ B.cells = ce + rm.cells ∧ B.slots = sl + rm.slots ∧ CHr Z EL vm h B.U.vm B.U.heap ∧ (nb = true → (T.setVm vm₁).WarmedH B.U.vm)) (st' : Steps p.tables e below (T.setTop g) (B.U.setTop g')) :
    ∃ T' L h' vm', OW p l e R s m args below meth c Z a0 EL nb own code ml ret nm vm' T' (locs ++ L) (ce + rm.cells) (sl + rm.slots) h' ∧ Q' v vm' h' ∧ CHr Z EL vm h vm' h' ∧ Lt p e below T g T' g' := by
  obtain ⟨U, Lc, cc, ss⟩ := B
  obtain ⟨L, ⟨q1, q2, q3⟩, q4, q5, q6, q7, q8⟩ := hP
  dsimp only [Pt.U, Pt.locs, Pt.cells, Pt.slots] at *
  subst q4 q5 q6
  obtain ⟨g1, X, e0, ⟨k0, hS0, hk⟩, hZ, ho, hC0, hF0, hE0, hn0, hEW⟩ := W
  refine ⟨U, L, U.heap, U.vm, ⟨g1, X', rfl, ⟨_, hS0.trans hS (Nat.le_trans hk q7.2.1), Nat.le_refl _⟩, State.Warmed39.trans (t := s.setVm vm) hZ hS.1, (hS.1.alike.findClass _ _).trans ho, hC0.trans q7, hF0.app q2, q3, fun q => ?_, hEW⟩, q1, q7, fun t k => st'.trans k⟩
  exact State.WarmedH.trans (t := T.setVm vm₁) (State.WarmedH.trans (t := s.setVm vm) (hn0 q) hW) (q8 q)
/-- a static method by its contract -/
theorem oCallS (W : OW p l e R s m args below meth c Z a0 EL nb own code ml ret nm vm T locs ce sl h) {idx : Nat} {argsL : List Value} (hM : OC l Z EL nb [] y bytes maxL ret' rm argsL.toArray h sf Q') (hsf : ∀ x ∈ sf, x < h.size ∧ Safe Z EL vm h x) (w1 : (Jvm.Cond.methodLink own idx y).before a0 Z = true) (w2 : (Jvm.Cond.static y).before a0 Z = true) (wz : (Jvm.Cond.initialized y.cls).before a0 Z = true) (wc : (Jvm.Cond.code y bytes maxL ret').before a0 Z = true)
    (hy : y.cls ≠ "java/lang/invoke/MethodHandle" ∧ y.cls ≠ "java/lang/invoke/VarHandle") {na : Nat} (hna : argsL.length = na) (har : XT.arity y.desc = some na) (hsz : ls.size = ml) {stk : List Value} (hst : stk = argsL.reverse ++ st) (hd : decode code pc = .ok (.invokestatic idx, 3))
    {V : Nat} (hV : (st.map fun v => v.category).sum ≤ V) (hf : rm.frames + 1 ≤ R.frames) (hl : V + (maxL + 11) + rm.locals ≤ R.locals) (hc : ce + rm.cells ≤ R.cells) (hs : sl + rm.slots ≤ R.slots) :
    ∃ v T' L h' vm', OW p l e R s m args below meth c Z a0 EL nb own code ml ret nm vm' T' (locs ++ L) (ce + rm.cells) (sl + rm.slots) h' ∧ Q' v vm' h' ∧ CHr Z EL vm h vm' h' ∧ Lt p e below T (mkF m pc ls stk) T' (mkF m (pc + 3) ls (v.toList ++ st)) := by
  obtain ⟨v, vm₁, B, hW, X', hS, hgr, hP, st'⟩ := RoadKit.callSS W.2.1 W.1.1 (y := y) W.owns (mvT W.warm w1) (mvT W.warm w2) (mvT W.warm wz) (mvT W.warm wc) hy (oBack W hM hsf wc wz hf hl) (g := mkF m pc ls stk) rfl (hsz.trans W.1.2.2.1.symm) (argsL := argsL) (rest := st) (XT.arity_len har hna) hst (by show 2 * 0 + _ ≤ _; omega) (oDec W hd) (fun _ _ => ⟨rfl, W.heap, hc, hs⟩)
  exact ⟨v, oCalled W hW X' hS hP st'⟩
/-- a constructor by its contract -/
theorem oCallN (W : OW p l e R s m args below meth c Z a0 EL nb own code ml ret nm vm T locs ce sl h) {idx : Nat} {argsL : List Value} {a : Addr} (hM : OC l Z EL nb [] y bytes maxL none rm (.ref a :: argsL).toArray h sf Q') (hsf : ∀ x ∈ sf, x < h.size ∧ Safe Z EL vm h x) (hy1 : y.name = "<init>") (w1 : (Jvm.Cond.methodLink own idx y).before a0 Z = true) (w2 : (Jvm.Cond.instanceMethod y).before a0 Z = true) (wz : (Jvm.Cond.initialized y.cls).before a0 Z = true) (wc : (Jvm.Cond.code y bytes maxL none).before a0 Z = true)
    (hy : y.cls ≠ "java/lang/invoke/MethodHandle" ∧ y.cls ≠ "java/lang/invoke/VarHandle") {na : Nat} (hna : argsL.length = na) (har : XT.arity y.desc = some na) (hsz : ls.size = ml) {stk : List Value} (hst : stk = argsL.reverse ++ .ref a :: st) (hd : decode code pc = .ok (.invokespecial idx, 3))
    {V : Nat} (hV : (st.map fun v => v.category).sum ≤ V) (hf : rm.frames + 1 ≤ R.frames) (hl : V + (maxL + 11) + rm.locals ≤ R.locals) (hc : ce + rm.cells ≤ R.cells) (hs : sl + rm.slots ≤ R.slots) :
    ∃ v T' L h' vm', OW p l e R s m args below meth c Z a0 EL nb own code ml ret nm vm' T' (locs ++ L) (ce + rm.cells) (sl + rm.slots) h' ∧ Q' v vm' h' ∧ CHr Z EL vm h vm' h' ∧ Lt p e below T (mkF m pc ls stk) T' (mkF m (pc + 3) ls (v.toList ++ st)) := by
  obtain ⟨v, vm₁, B, hW, X', hS, hgr, hP, st'⟩ := W.2.1.specialBackS W.1.1 (y := y) hy1 W.owns (mvT W.warm w1) (mvT W.warm w2) (mvT W.warm wc) hy (oBack W hM hsf wc wz hf hl) (g := mkF m pc ls stk) rfl (hsz.trans W.1.2.2.1.symm) (Steps.refl _) (a := a) (argsL := argsL) (rest := st) (XT.arity_len har hna) hst (by show 2 * 0 + _ ≤ _; omega) (oDec W hd) (fun _ _ => ⟨rfl, W.heap, hc, hs⟩)
  exact ⟨v, oCalled W hW X' hS hP st'⟩
/-- an instance method by its contract -/
theorem oCallV (W : OW p l e R s m args below meth c Z a0 EL nb own code ml ret nm vm T locs ce sl h) {idx : Nat} {x : MethodName} {C : String} {argsL : List Value} {a : Addr} (E : Exa Z h a C) (hM : OC l Z EL nb [] y bytes maxL ret' rm (.ref a :: argsL).toArray h sf Q') (hsf : ∀ x ∈ sf, x < h.size ∧ Safe Z EL vm h x) (w1 : (Jvm.Cond.methodLink own idx x).before a0 Z = true) (w2 : (Jvm.Cond.declares x).before a0 Z = true) (nf : NotFace (s.setVm vm) x) (w3 : (Jvm.Cond.selects C x y).before a0 Z = true) (w4 : (Jvm.Cond.instanceMethod y).before a0 Z = true) (wz : (Jvm.Cond.initialized y.cls).before a0 Z = true) (wc : (Jvm.Cond.code y bytes maxL ret').before a0 Z = true)
    (hy : x.cls ≠ "java/lang/invoke/MethodHandle" ∧ x.cls ≠ "java/lang/invoke/VarHandle") {na : Nat} (hna : argsL.length = na) (har : XT.arity x.desc = some na) (hsz : ls.size = ml) {stk : List Value} (hst : stk = argsL.reverse ++ .ref a :: st) (hd : decode code pc = .ok (.invokevirtual idx, 3))
    {V : Nat} (hV : (st.map fun v => v.category).sum ≤ V) (hf : rm.frames + 1 ≤ R.frames) (hl : V + (maxL + 11) + rm.locals ≤ R.locals) (hc : ce + rm.cells ≤ R.cells) (hs : sl + rm.slots ≤ R.slots) :
    ∃ v T' L h' vm', OW p l e R s m args below meth c Z a0 EL nb own code ml ret nm vm' T' (locs ++ L) (ce + rm.cells) (sl + rm.slots) h' ∧ Q' v vm' h' ∧ CHr Z EL vm h vm' h' ∧ Lt p e below T (mkF m pc ls stk) T' (mkF m (pc + 3) ls (v.toList ++ st)) := by
  obtain ⟨cB, kB, i1, i2, i3⟩ := isOf (s := s.setVm vm) (T := T) W.warm W.heap E
  obtain ⟨v, vm₁, B, hW, X', hS, hgr, hP, st'⟩ := W.2.1.virtualBackS W.1.1 (y := x) (z := y) W.owns (mvT W.warm w1) (mvT W.warm w2) nf (mvT W.warm w3) (mvT W.warm w4) hy (oBack W hM hsf wc wz hf hl) i1 i3 (g := mkF m pc ls stk) rfl (hsz.trans W.1.2.2.1.symm) (Steps.refl _) (argsL := argsL) (rest := st) (XT.arity_len har hna) hst (by show 2 * 0 + _ ≤ _; omega) (oDec W hd) (fun _ _ => ⟨rfl, W.heap, hc, hs⟩)
  exact ⟨v, oCalled W hW X' hS hP st'⟩
end Calls
end Jvm.OwnK
namespace Jvm.OwnK
open Jvm Sem ClassFile Op Lib Jvm.Stand Jvm.Free Jvm.LawKit Jvm.RoadKit Bundle
theorem n_lt {a b : Nat} (ha : a < 2147483648) (hb : b < 2147483648) : Int32.ofNat a < Int32.ofNat b ↔ a < b := by
  rw [Int32.lt_iff_toInt_lt, Int32.toInt_ofNat_small ha, Int32.toInt_ofNat_small hb]; omega
theorem n_nn {a : Nat} (ha : a < 2147483648) : ¬ Int32.ofNat a < 0 := by
  rw [Int32.lt_iff_toInt_lt, Int32.toInt_ofNat_small ha]
  show ¬ ((a : Int) < 0)
  omega
theorem n_cl {a : Nat} (ha : a < 2147483648) : (Int32.ofNat a).toNatClampNeg = a := by
  rw [← Int32.toNat_toInt, Int32.toInt_ofNat_small ha]; rfl
theorem n_in (a : Nat) : Int32.ofNat a + 1 = Int32.ofNat (a + 1) := by rw [Int32.ofNat_add]; rfl
theorem nar_b (x : Int32) : nar .byte x.toInt8.toInt32 = x.toInt8.toInt32 := by
  show x.toInt8.toInt32.toInt8.toInt32 = _
  rw [Int8.toInt8_toInt32]
theorem nar_c (x : Int32) : nar .char x.toUInt32.toUInt16.toUInt32.toInt32 = x.toUInt32.toUInt16.toUInt32.toInt32 := by
  show x.toUInt32.toUInt16.toUInt32.toInt32.toUInt32.toUInt16.toUInt32.toInt32 = _
  rw [UInt32.toUInt32_toInt32, UInt16.toUInt16_toUInt32]
theorem nar_z {x : Int32} (h : x = 0 ∨ x = 1) : nar .boolean x = x := by rcases h with rfl | rfl <;> rfl
/-- a char of 0 to 255 is what i2c makes of it -/
theorem i2c_255 (x : Int32) : (x &&& 255).toUInt32.toUInt16.toUInt32.toInt32 = x &&& 255 := i2c_mask x
theorem m255 (x : Int32) : ¬ (x &&& 255) < 0 ∧ ¬ (255 : Int32) < (x &&& 255) := by
  have h := c_and x 255 (by decide)
  constructor
  · rw [Int32.lt_iff_toInt_lt]; exact Int.not_lt.mpr h.1
  · rw [Int32.lt_iff_toInt_lt]; exact Int.not_lt.mpr h.2
theorem own_nar255 (x : Int32) : nar .char (x &&& 255) = x &&& 255 := i2c_mask x
theorem own_all1 {P : Int32 → Prop} {a : Int32} (ha : P a) : ∀ c ∈ [a], P c := fun c hc => by cases List.mem_singleton.mp hc; exact ha
theorem own_all2 {P : Int32 → Prop} {a b : Int32} (ha : P a) (hb : P b) : ∀ c ∈ [a, b], P c := fun c hc => by
  rcases List.mem_cons.mp hc with rfl | hc
  · exact ha
  · exact own_all1 hb c hc
theorem own_all3 {P : Int32 → Prop} {a b c : Int32} (ha : P a) (hb : P b) (hc : P c) : ∀ x ∈ [a, b, c], P x := fun x hx => by
  rcases List.mem_cons.mp hx with rfl | hx
  · exact ha
  · exact own_all2 hb hc x hx
theorem own_all4 {P : Int32 → Prop} {a b c d : Int32} (ha : P a) (hb : P b) (hc : P c) (hd : P d) : ∀ x ∈ [a, b, c, d], P x := fun x hx => by
  rcases List.mem_cons.mp hx with rfl | hx
  · exact ha
  · exact own_all3 hb hc hd x hx
theorem narC {c : Int32} (h : ¬ c < 0 ∧ ¬ (255 : Int32) < c) : nar .char c = c := by
  have e := c_i2c c
  simp only [Int32.lt_iff_toInt_lt] at h
  have k0 : (0 : Int32).toInt = 0 := rfl
  have k1 : (255 : Int32).toInt = 255 := rfl
  rw [k0, k1] at h
  apply Int32.toInt_inj.mp
  show (c.toUInt32.toUInt16.toUInt32.toInt32).toInt = c.toInt
  omega
theorem shr0 (x : Int32) : x >>> ((0 : Int32) &&& 31) = x := by
  apply Int32.toInt_inj.mp
  rw [c_ishr x 0 0 (by decide)]
  simp
theorem own_len0 {cs : List Int32} (hl : cs.length ≤ 4000) (h : Int32.ofNat cs.length = 0) : cs = [] := by
  have := congrArg Int32.toNatClampNeg h
  rw [n_cl (by omega)] at this
  exact List.length_eq_zero_iff.mp (by simpa using this)
theorem own_ltn {i : Int32} (hi : ¬ i < 0) {n : Nat} (hl : n ≤ 4000) (h : i.toNatClampNeg < n) : i < Int32.ofNat n := by
  have e := (back32 hi).1
  rw [← e]
  exact (n_lt (by omega) (by omega)).mpr h
/-- a byte read back as a char -/
theorem own_lo8c {c : Int32} (h : ¬ c < 0 ∧ ¬ (255 : Int32) < c) : (c.toInt8.toInt32 &&& (255 : Int32)).toUInt32.toUInt16.toUInt32.toInt32 = c := by
  rw [i2c_mask]
  have e := c_i2b c
  have m := c_mask c.toInt8.toInt32 255 8 (by decide) (by decide)
  simp only [Int32.lt_iff_toInt_lt] at h
  have k0 : (0 : Int32).toInt = 0 := rfl
  have k1 : (255 : Int32).toInt = 255 := rfl
  rw [k0, k1] at h
  apply Int32.toInt_inj.mp
  rw [m]
  have k2 : ((2 ^ 8 : Nat) : Int) = 256 := by decide
  rw [k2]
  omega
theorem refNarA {v : Value} (h : v.isRef = true) (t : FieldType) : narrow (.array t) v = v := by cases v <;> simp_all [Value.isRef] <;> rfl
theorem refFitsA {v : Value} (h : v.isRef = true) (t : FieldType) : fits (.array t) v = true := by cases v <;> simp_all [Value.isRef] <;> rfl
theorem refNar {v : Value} (h : v.isRef = true) (C : String) : narrow (.object C) v = v := by cases v <;> simp_all [Value.isRef] <;> rfl
theorem refFits {v : Value} (h : v.isRef = true) (C : String) : fits (.object C) v = true := by cases v <;> simp_all [Value.isRef] <;> rfl
theorem safe0 {Z : State} {vm : Vm} {h : Heap} {x : Addr} : Safe Z [] vm h x := fun ⟨p, hp, _⟩ => by cases hp
theorem refCat {v : Value} (h : v.isRef = true) : v.category = 1 := by cases v <;> simp_all [Value.isRef, Value.category]
theorem own_fold : ∀ (vs : List Value) (acc : Array Slot), (∀ v ∈ vs, v.category = 1) → vs.foldl (fun acc v => if v.category = 2 then (acc.push (.val v)).push .second else acc.push (.val v)) acc = acc ++ (vs.map Slot.val).toArray
  | [], acc, _ => by simp
  | v :: vs, acc, h => by
    have hv : ¬ v.category = 2 := by rw [h v (List.mem_cons_self ..)]; decide
    rw [List.foldl_cons, if_neg hv, own_fold vs _ (fun w hw => h w (List.mem_cons_of_mem _ hw))]
    simp
theorem own_ef {m : MethodId} {vs : List Value} {n : Nat} (h : ∀ v ∈ vs, v.category = 1) : entryFrame m vs.toArray n = mkF m 0 ((vs.map Slot.val).toArray ++ Array.replicate (n - vs.length) .unset) [] := by
  have e := own_fold vs #[] h
  simp only [entryFrame, mkF, argsToLocals, List.foldl_toArray', List.size_toArray]
  rw [e]
  simp
theorem own_isR (a : Addr) : (Value.ref a).isRef = true := rfl
theorem own_isN : Value.null.isRef = true := rfl
theorem own_caR (a : Addr) : (Value.ref a).category = 1 := rfl
theorem own_caN : Value.null.category = 1 := rfl
theorem own_caI (z : Int32) : (Value.int z).category = 1 := rfl
end Jvm.OwnK
namespace Jvm.OwnK
open Jvm Sem ClassFile Op Lib Jvm.Stand Jvm.Free Jvm.LawKit Jvm.RoadKit Bundle
section Start
variable {args : Array Value} {s : State} {a b t u : Term}
/-- what an equation of the sheet says of its first side -/
theorem eqv {y : Value} (h : (Jvm.Cond.eq a b).value args s none s [] = some true) (hb : b.eval args s none [] s = some y) (hy : y.isRef = true ∨ ∃ n, y = .int n) : a.eval args s none [] s = some y := by
  obtain ⟨x, y', h1, h2, -, -⟩ := cmp_v (Or.inl h)
  cases h2.symm.trans hb
  rw [h1]
  rcases hy with hy | ⟨n, rfl⟩
  · cases x <;> cases y <;> simp_all [Cond.value, Value.isRef]
  · cases x <;> simp_all [Cond.value]
/-- an array that stood at the start, its length and its components told by the sheet -/
theorem arrStart (hf : Fit s) {va : Addr} {ty : FieldType} (ht : t.eval args s none [] s = some (.ref va)) (h1 : (Jvm.Cond.arrayOf t ty).value args s none s [] = some true) {n : Nat} (hn : n < 2147483648) (h2 : (Jvm.Cond.eq (.length t) (.int (Int32.ofNat n))).value args s none s [] = some true)
    {vs : List Value} (hl : vs.length = n) (H : ∀ c, s.heap[va]? = some c → HasL c 0 vs) : ∃ k, OA s s.heap va k ty vs := by
  obtain ⟨c, A⟩ := Arr.start ht h1
  have hlen : (Term.length t).eval args s none [] s = some (.int (Int32.ofNat n)) := eqv h2 rfl (Or.inr ⟨_, rfl⟩)
  obtain ⟨sd, SA, hev, harrAt, -⟩ := Term.length_spec hlen
  have e0 : sd = va := by have := hev.symm.trans ht; injection this with q; injection q
  subst e0
  have h31 := SBG.length_lt hev harrAt hlen
  have hA : s.arrayAt? sd = some c := A.fin (U := s) (Vm.Alike.refl _)
  cases harrAt.symm.trans hA
  have e : (Term.length t).eval args s none [] s = some (.int c.slots.size.toInt32) := len_f hev hA h31
  have e2 : c.slots.size.toInt32 = Int32.ofNat n := by have := e.symm.trans hlen; injection this with q; injection q
  exact ⟨c.cls, Int32.ofNat n, .int 0, Arv.start hf A h31 e2 (n_nn hn) (by rw [n_cl hn, hl]) (H c A.1), by rw [n_cl hn, hl]⟩
end Start
end Jvm.OwnK
namespace Jvm.OwnK
open Jvm Sem ClassFile Op Lib Jvm.Stand Jvm.Free Jvm.LawKit Jvm.RoadKit Bundle
section Dig
theorem own_cons {P : Int32 → Prop} {a : Int32} {l : List Int32} (ha : P a) (hl : ∀ c ∈ l, P c) : ∀ c ∈ a :: l, P c := fun c hc => by
  rcases List.mem_cons.mp hc with rfl | hc
  · exact ha
  · exact hl c hc
theorem own_nil {P : Int32 → Prop} : ∀ c ∈ ([] : List Int32), P c := fun _ h => nomatch h
def Dig (c : Int32) : Prop := ¬ c < 48 ∧ ¬ (57 : Int32) < c
theorem Dig.int {c : Int32} (h : Dig c) : 48 ≤ c.toInt ∧ c.toInt ≤ 57 := by
  have h1 := h.1
  have h2 := h.2
  rw [Int32.lt_iff_toInt_lt] at h1 h2
  have k0 : (48 : Int32).toInt = 48 := rfl
  have k1 : (57 : Int32).toInt = 57 := rfl
  rw [k0] at h1; rw [k1] at h2
  omega
theorem Dig.of {c : Int32} (h : 48 ≤ c.toInt ∧ c.toInt ≤ 57) : Dig c := by
  constructor
  · rw [Int32.lt_iff_toInt_lt]; have k0 : (48 : Int32).toInt = 48 := rfl
    rw [k0]; omega
  · rw [Int32.lt_iff_toInt_lt]; have k0 : (57 : Int32).toInt = 57 := rfl
    rw [k0]; omega
theorem Dig.c255 {c : Int32} (h : Dig c) : ¬ c < 0 ∧ ¬ (255 : Int32) < c := by
  have := h.int
  have k0 : (0 : Int32).toInt = 0 := rfl
  have k1 : (255 : Int32).toInt = 255 := rfl
  constructor
  · rw [Int32.lt_iff_toInt_lt, k0]; omega
  · rw [Int32.lt_iff_toInt_lt, k1]; omega
theorem Dig.cases {c : Int32} (h : Dig c) : c = 48 ∨ c = 49 ∨ c = 50 ∨ c = 51 ∨ c = 52 ∨ c = 53 ∨ c = 54 ∨ c = 55 ∨ c = 56 ∨ c = 57 := by
  have := h.int
  have e : ∀ k : Int32, c.toInt = k.toInt → c = k := fun k q => Int32.toInt_inj.mp q
  have : c.toInt = 48 ∨ c.toInt = 49 ∨ c.toInt = 50 ∨ c.toInt = 51 ∨ c.toInt = 52 ∨ c.toInt = 53 ∨ c.toInt = 54 ∨ c.toInt = 55 ∨ c.toInt = 56 ∨ c.toInt = 57 := by omega
  rcases this with q | q | q | q | q | q | q | q | q | q
  · exact Or.inl (e 48 q)
  · exact Or.inr (Or.inl (e 49 q))
  · exact Or.inr (Or.inr (Or.inl (e 50 q)))
  · exact Or.inr (Or.inr (Or.inr (Or.inl (e 51 q))))
  · exact Or.inr (Or.inr (Or.inr (Or.inr (Or.inl (e 52 q)))))
  · exact Or.inr (Or.inr (Or.inr (Or.inr (Or.inr (Or.inl (e 53 q))))))
  · exact Or.inr (Or.inr (Or.inr (Or.inr (Or.inr (Or.inr (Or.inl (e 54 q)))))))
  · exact Or.inr (Or.inr (Or.inr (Or.inr (Or.inr (Or.inr (Or.inr (Or.inl (e 55 q))))))))
  · exact Or.inr (Or.inr (Or.inr (Or.inr (Or.inr (Or.inr (Or.inr (Or.inr (Or.inl (e 56 q)))))))))
  · exact Or.inr (Or.inr (Or.inr (Or.inr (Or.inr (Or.inr (Or.inr (Or.inr (Or.inr (e 57 q)))))))))
theorem Dig.shr {c : Int32} (h : Dig c) : XT.ushr c 8 = 0 := by
  rcases h.cases with rfl | rfl | rfl | rfl | rfl | rfl | rfl | rfl | rfl | rfl <;> rfl
theorem Dig.d {c : Int32} (h : Dig c) : ¬ (c - 48) < 0 ∧ (c - 48) < 10 := by
  rcases h.cases with rfl | rfl | rfl | rfl | rfl | rfl | rfl | rfl | rfl | rfl <;> decide
theorem Dig.sub {c : Int32} (h : Dig c) : (c - 48).toInt = c.toInt - 48 := by
  have e := c_isub c 48
  have := h.int
  have k0 : (48 : Int32).toInt = 48 := rfl
  rw [k0] at e
  have := (c - 48).le_toInt
  have := (c - 48).toInt_lt
  omega
theorem Dig.nat {c : Int32} (h : Dig c) : (c.toNatClampNeg : Int) = c.toInt := by
  have := h.int
  rw [← Int32.toNat_toInt]; omega
/-- the value of decimal digits behind a -/
def dv : List Int32 → Nat → Nat
  | [], a => a
  | c :: cs, a => dv cs (10 * a + (c.toNatClampNeg - 48))
theorem dv_le : ∀ (cs : List Int32) (a : Nat), a ≤ dv cs a
  | [], a => Nat.le_refl _
  | c :: cs, a => Nat.le_trans (by omega) (dv_le cs (10 * a + (c.toNatClampNeg - 48)))
/-- one turn of parseInt's loop, in numbers -/
theorem dv_turn {acc c : Int32} {a N : Nat} {rest : List Int32} (hc : Dig c) (hN : dv (c :: rest) a = N) (hb : N < 2147483648) (ha : acc.toInt = -(a : Int)) :
    ¬ acc < (-2147483647 : Int32) / 10 ∧ ¬ acc * 10 < (-2147483647 : Int32) + (c - 48) ∧ (acc * 10 - (c - 48)).toInt = -((10 * a + (c.toNatClampNeg - 48) : Nat) : Int) := by
  have h1 := dv_le rest (10 * a + (c.toNatClampNeg - 48))
  have h2 : dv rest (10 * a + (c.toNatClampNeg - 48)) = N := hN
  have h3 := hc.sub
  have h4 := hc.int
  have h5 := hc.nat
  have m := c_imul acc 10
  have k10 : (10 : Int32).toInt = 10 := rfl
  rw [k10, ha] at m
  have m1 := (acc * 10).le_toInt
  have m2 := (acc * 10).toInt_lt
  have hm : (acc * 10).toInt = -(10 * (a : Int)) := by omega
  have s := c_isub (acc * 10) (c - 48)
  rw [hm, h3] at s
  have s1 := (acc * 10 - (c - 48)).le_toInt
  have s2 := (acc * 10 - (c - 48)).toInt_lt
  have t := c_iadd (-2147483647) (c - 48)
  have kl : (-2147483647 : Int32).toInt = -2147483647 := rfl
  rw [kl, h3] at t
  have t1 := ((-2147483647 : Int32) + (c - 48)).le_toInt
  have t2 := ((-2147483647 : Int32) + (c - 48)).toInt_lt
  refine ⟨?_, ?_, ?_⟩
  · rw [Int32.lt_iff_toInt_lt, ha]
    have : ((-2147483647 : Int32) / 10).toInt = -214748364 := rfl
    rw [this]; omega
  · rw [Int32.lt_iff_toInt_lt, hm]; omega
  · omega
theorem dv_end {acc : Int32} {a : Nat} (hb : a < 2147483648) (ha : acc.toInt = -(a : Int)) : -acc = Int32.ofNat a := by
  apply Int32.toInt_inj.mp
  rw [Int32.toInt_ofNat_small hb]
  have e := c_ineg acc
  rw [ha] at e
  have := (-acc).le_toInt
  have := (-acc).toInt_lt
  omega
theorem own_sub0 (x : Int32) : x - 0 = x := by
  apply Int32.toInt_inj.mp
  have e := c_isub x 0
  have k0 : (0 : Int32).toInt = 0 := rfl
  rw [k0] at e
  have := (x - 0).le_toInt
  have := (x - 0).toInt_lt
  have := x.le_toInt
  have := x.toInt_lt
  omega
/-- the decimal digit of n at p, as a char -/
def dg (n p : Int32) : Int32 := 48 + n / p % 10
theorem dg_int {n p : Int32} {P : Nat} (hn : ¬ n < 0) (hp : p.toInt = P) (h1 : p ≠ -1) (hP : 0 < P) : (dg n p).toInt = 48 + n.toInt / P % 10 ∧ 0 ≤ n.toInt := by
  have hn0 : 0 ≤ n.toInt := by rw [Int32.lt_iff_toInt_lt] at hn; exact Int.not_lt.mp hn
  have e1 := (c_idiv n p P hp h1).1 hn0
  have q0 : 0 ≤ (n / p).toInt := by rw [e1]; exact Int.ediv_nonneg hn0 (by omega)
  have e2 := (c_irem (n / p) 10 10 rfl).1 q0
  have e3 := c_iadd 48 (n / p % 10)
  have k0 : (48 : Int32).toInt = 48 := rfl
  rw [k0, e2, e1] at e3
  have := (dg n p).le_toInt
  have := (dg n p).toInt_lt
  refine ⟨?_, hn0⟩
  have e4 : ((dg n p).toInt - (48 + n.toInt / P % 10)) % 4294967296 = 0 := e3
  omega
theorem dg_dig {n p : Int32} {P : Nat} (hn : ¬ n < 0) (hp : p.toInt = P) (h1 : p ≠ -1) (hP : 0 < P) : Dig (dg n p) := by
  have e := (dg_int hn hp h1 hP).1
  apply Dig.of; omega
theorem dg_i2c {n p : Int32} {P : Nat} (hn : ¬ n < 0) (hp : p.toInt = P) (h1 : p ≠ -1) (hP : 0 < P) : (48 + n / p % 10).toUInt32.toUInt16.toUInt32.toInt32 = dg n p := by
  have d := (dg_dig hn hp h1 hP).int
  have e := c_i2c (dg n p)
  apply Int32.toInt_inj.mp
  show (dg n p).toUInt32.toUInt16.toUInt32.toInt32.toInt = _
  omega
theorem dv_dg {n p : Int32} (P : Nat) (hn : ¬ n < 0) (hp : p.toInt = P) (h1 : p ≠ -1) (hP : 0 < P) (rest : List Int32) : dv (dg n p :: rest) (n.toNatClampNeg / (P * 10)) = dv rest (n.toNatClampNeg / P) := by
  obtain ⟨e, hn0⟩ := dg_int hn hp h1 hP
  have d := dg_dig hn hp h1 hP
  have d1 := d.nat
  have en : (n.toNatClampNeg : Int) = n.toInt := by rw [← Int32.toNat_toInt]; omega
  show dv rest _ = dv rest _
  have k : (n.toInt / (P : Int)) = ((n.toNatClampNeg / P : Nat) : Int) := by rw [← en]; rfl
  rw [k] at e
  rw [← Nat.div_div_eq_div_mul]
  congr 1
  omega
theorem dg_lead {n p : Int32} {P : Nat} (hn : ¬ n < 0) (hp : p.toInt = P) (h1 : p ≠ -1) (hP : 0 < P) (lo : ¬ n < p) (hi : n.toInt < 10 * (P : Int)) : ¬ dg n p = 48 := by
  obtain ⟨e, hn0⟩ := dg_int hn hp h1 hP
  intro q
  rw [q] at e
  have k0 : (48 : Int32).toInt = 48 := rfl
  rw [k0] at e
  rw [Int32.lt_iff_toInt_lt, hp] at lo
  have a1 : 1 ≤ n.toInt / (P : Int) := (Int.le_ediv_iff_mul_le (by omega)).mpr (by omega)
  have a2 : n.toInt / (P : Int) < 10 := Int.ediv_lt_of_lt_mul (by omega) (by omega)
  omega
/-- the plain decimal form of n -/
def Good (cs : List Int32) (n : Int32) : Prop := (0 < cs.length ∧ cs.length ≤ 10) ∧ (∀ c ∈ cs, Dig c) ∧ (∀ c, cs[0]? = some c → 1 < cs.length → ¬ c = 48) ∧ dv cs 0 = n.toNatClampNeg
variable {args : Array Value} {s : State} {t : Term}
theorem own_isref (h : (Jvm.Cond.isRef t).value args s none s [] = some true) : ∃ v, t.eval args s none [] s = some v ∧ v.isRef = true := by
  simp only [Jvm.Cond.value] at h
  cases q : t.eval args s none [] s with
  | none => simp [q] at h
  | some v => exact ⟨v, rfl, by cases v <;> simp_all [Value.isRef]⟩
theorem hasL_self {c : Cell} : ∀ (r : List Value) (i : Nat), c.slots.toList.drop i = r → HasL c i r
  | [], _, _ => trivial
  | v :: r, i, h => by
    refine ⟨?_, hasL_self r (i + 1) ?_⟩
    · have := congrArg (fun l => l[0]?) h
      simpa [List.getElem?_drop] using this
    · have := congrArg List.tail h
      simpa [List.tail_drop] using this
/-- an array that stood at the start, its length told; what the sheet says of a component -/
theorem arrStart2 (hf : Fit s) {va : Addr} {ty : FieldType} (ht : t.eval args s none [] s = some (.ref va)) (h1 : (Jvm.Cond.arrayOf t ty).value args s none s [] = some true) {n : Nat} (hn : n < 2147483648) (h2 : (Jvm.Cond.eq (.length t) (.int (Int32.ofNat n))).value args s none s [] = some true) :
    ∃ k vs, OA s s.heap va k ty vs ∧ vs.length = n ∧ ∀ (j : Int32) v, (Term.elem t (.int j)).eval args s none [] s = some v → vs[j.toNatClampNeg]? = some v := by
  obtain ⟨c, A⟩ := Arr.start ht h1
  have hlen : (Term.length t).eval args s none [] s = some (.int (Int32.ofNat n)) := eqv h2 rfl (Or.inr ⟨_, rfl⟩)
  obtain ⟨sd, SA, hev, harrAt, -⟩ := Term.length_spec hlen
  have e0 : sd = va := by have := hev.symm.trans ht; injection this with q; injection q
  subst e0
  have h31 := SBG.length_lt hev harrAt hlen
  have hA : s.arrayAt? sd = some c := A.fin (U := s) (Vm.Alike.refl _)
  cases harrAt.symm.trans hA
  have e : (Term.length t).eval args s none [] s = some (.int c.slots.size.toInt32) := len_f hev hA h31
  have e2 : c.slots.size.toInt32 = Int32.ofNat n := by have := e.symm.trans hlen; injection this with q; injection q
  have e3 : c.slots.size = n := by
    have := congrArg Int32.toNatClampNeg e2
    rw [n_cl hn] at this
    rw [← this]; exact (n_cl h31).symm
  obtain ⟨k, O⟩ := arrStart hf ht h1 hn h2 (vs := c.slots.toList) (by simpa using e3) (fun c' hc' => by
    have := hc'.symm.trans A.1
    cases this
    exact hasL_self _ 0 (by simp))
  refine ⟨k, _, O, by simpa using e3, fun j v hv => ?_⟩
  obtain ⟨a, j', cell, q1, q2, q3, -, q5⟩ := Term.elem_spec hv
  cases q1.symm.trans ht
  cases q3.symm.trans hA
  have : j' = j := by have q : some (Value.int j) = some (Value.int j') := q2; injection q with q; injection q with q; exact q.symm
  subst this
  simpa using q5
end Dig
end Jvm.OwnK
namespace Jvm.OwnK
open Jvm Sem ClassFile Op Lib Jvm.Stand Jvm.Free Jvm.LawKit Jvm.RoadKit Bundle
section UN
def U16 (c : Int32) : Prop := ¬ c < 0 ∧ ¬ (65535 : Int32) < c
theorem U16.int {c : Int32} (h : U16 c) : 0 ≤ c.toInt ∧ c.toInt ≤ 65535 := by
  have h1 := h.1
  have h2 := h.2
  rw [Int32.lt_iff_toInt_lt] at h1 h2
  have k0 : (0 : Int32).toInt = 0 := rfl
  have k1 : (65535 : Int32).toInt = 65535 := rfl
  rw [k0] at h1; rw [k1] at h2
  omega
theorem U16.of {c : Int32} (h : 0 ≤ c.toInt ∧ c.toInt ≤ 65535) : U16 c := by
  have k0 : (0 : Int32).toInt = 0 := rfl
  have k1 : (65535 : Int32).toInt = 65535 := rfl
  constructor
  · rw [Int32.lt_iff_toInt_lt, k0]; omega
  · rw [Int32.lt_iff_toInt_lt, k1]; omega
theorem U16.i2c (x : Int32) : U16 x.toUInt32.toUInt16.toUInt32.toInt32 := by
  have := c_i2c x
  apply U16.of; omega
theorem narU {c : Int32} (h : U16 c) : nar .char c = c := by
  have e := c_i2c c
  have := h.int
  apply Int32.toInt_inj.mp
  show (c.toUInt32.toUInt16.toUInt32.toInt32).toInt = c.toInt
  omega
theorem U16.c255 {c : Int32} (h : U16 c) (q : ¬ (255 : Int32) < c) : ¬ c < 0 ∧ ¬ (255 : Int32) < c := ⟨h.1, q⟩
def el (c : Int32) : Int32 := (c >>> ((0 : Int32) &&& 31)).toInt8.toInt32
def eh (c : Int32) : Int32 := (c >>> ((8 : Int32) &&& 31)).toInt8.toInt32
def enc : List Int32 → List Value
  | [] => []
  | c :: cs => .int (el c) :: .int (eh c) :: enc cs
theorem enc_len : ∀ cs : List Int32, (enc cs).length = 2 * cs.length
  | [] => rfl
  | c :: cs => by simp only [enc, List.length_cons, enc_len cs]; omega
theorem enc_lo : ∀ {cs : List Int32} {i : Nat} {c : Int32}, cs[i]? = some c → (enc cs)[2 * i]? = some (.int (el c))
  | [], i, c, h => by simp at h
  | d :: cs, 0, c, h => by simp at h; subst h; rfl
  | d :: cs, i + 1, c, h => by
    have h' : cs[i]? = some c := by simpa using h
    have := enc_lo h'
    rw [show 2 * (i + 1) = 2 * i + 1 + 1 by omega]
    simpa [enc] using this
theorem enc_hi : ∀ {cs : List Int32} {i : Nat} {c : Int32}, cs[i]? = some c → (enc cs)[2 * i + 1]? = some (.int (eh c))
  | [], i, c, h => by simp at h
  | d :: cs, 0, c, h => by simp at h; subst h; rfl
  | d :: cs, i + 1, c, h => by
    have h' : cs[i]? = some c := by simpa using h
    have := enc_hi h'
    rw [show 2 * (i + 1) + 1 = 2 * i + 1 + 1 + 1 by omega]
    simpa [enc] using this
theorem enc_app : ∀ (as bs : List Int32), enc (as ++ bs) = enc as ++ enc bs
  | [], bs => rfl
  | c :: as, bs => by simp [enc, enc_app as bs]
theorem enc_step {cs : List Int32} {k r : Nat} (hk : k + (r + 1) = cs.length) {c : Int32} (hc : cs[k]? = some c) :
    ((enc (cs.take k) ++ List.replicate (2 * (r + 1)) (Value.int 0)).set (2 * k) (.int (el c))).set (2 * k + 1) (.int (eh c)) = enc (cs.take (k + 1)) ++ List.replicate (2 * r) (Value.int 0) := by
  obtain ⟨hlt, rfl⟩ := List.getElem?_eq_some_iff.mp hc
  have e1 : (enc (cs.take k)).length = 2 * k := by rw [enc_len, List.length_take]; omega
  rw [List.take_succ_eq_append_getElem hlt, enc_app]
  rw [show 2 * (r + 1) = 2 * r + 1 + 1 by omega, List.replicate_succ, List.replicate_succ]
  rw [List.set_append_right _ _ (by omega), e1, Nat.sub_self, List.set_cons_zero, List.set_append_right _ _ (by omega), e1, show 2 * k + 1 - 2 * k = 0 + 1 by omega, List.set_cons_succ, List.set_cons_zero]
  simp [enc]
theorem shl1 {n : Nat} (hn : n ≤ 4000) : Int32.ofNat n <<< ((1 : Int32) &&& 31) = Int32.ofNat (2 * n) := by
  apply Int32.toInt_inj.mp
  have e := c_ishl (Int32.ofNat n) 1 1 (by decide)
  rw [Int32.toInt_ofNat_small (by omega)] at e
  rw [Int32.toInt_ofNat_small (by omega)]
  have := (Int32.ofNat n <<< ((1 : Int32) &&& 31)).le_toInt
  have := (Int32.ofNat n <<< ((1 : Int32) &&& 31)).toInt_lt
  have k2 : ((2 ^ 1 : Nat) : Int) = 2 := by decide
  rw [k2] at e
  omega
theorem shr1 {n : Nat} (hn : n ≤ 4000) : Int32.ofNat (2 * n) >>> ((1 : Int32) &&& 31) = Int32.ofNat n := by
  apply Int32.toInt_inj.mp
  rw [c_ishr _ 1 1 (by decide), Int32.toInt_ofNat_small (by omega), Int32.toInt_ofNat_small (by omega)]
  have k2 : ((2 ^ 1 : Nat) : Int) = 2 := by decide
  rw [k2]
  omega
theorem u16_back {c : Int32} (h : U16 c) : (((el c &&& (255 : Int32)) <<< ((0 : Int32) &&& 31)) ||| ((eh c &&& (255 : Int32)) <<< ((8 : Int32) &&& 31))).toUInt32.toUInt16.toUInt32.toInt32 = c := by
  have hi := h.int
  have a1 := c_ishr c 0 0 (by decide)
  have a2 := c_ishr c 8 8 (by decide)
  have b1 := (c_i2b (c >>> ((0 : Int32) &&& 31))).1
  have b2 := (c_i2b (c >>> ((8 : Int32) &&& 31))).1
  have k8 : ((2 ^ 8 : Nat) : Int) = 256 := by decide
  have k0 : ((2 ^ 0 : Nat) : Int) = 1 := by decide
  rw [k0] at a1; rw [k8] at a2
  have m1 := c_mask (el c) 255 8 (by decide) (by decide)
  have m2 := c_mask (eh c) 255 8 (by decide) (by decide)
  rw [k8] at m1 m2
  have b1' : ((el c).toInt - (c >>> ((0 : Int32) &&& 31)).toInt) % 256 = 0 := b1
  have b2' : ((eh c).toInt - (c >>> ((8 : Int32) &&& 31)).toInt) % 256 = 0 := b2
  have s1 := c_ishl (el c &&& 255) 0 0 (by decide)
  have s2 := c_ishl (eh c &&& 255) 8 8 (by decide)
  rw [k0] at s1; rw [k8] at s2
  have r1 := ((el c &&& 255) <<< ((0 : Int32) &&& 31)).le_toInt
  have r2 := ((el c &&& 255) <<< ((0 : Int32) &&& 31)).toInt_lt
  have r3 := ((eh c &&& 255) <<< ((8 : Int32) &&& 31)).le_toInt
  have r4 := ((eh c &&& 255) <<< ((8 : Int32) &&& 31)).toInt_lt
  have t1 : ((el c &&& 255) <<< ((0 : Int32) &&& 31)).toInt = c.toInt % 256 := by omega
  have t2 : ((eh c &&& 255) <<< ((8 : Int32) &&& 31)).toInt = c.toInt / 256 * 256 := by omega
  have o := c_or ((eh c &&& 255) <<< ((8 : Int32) &&& 31)) ((el c &&& 255) <<< ((0 : Int32) &&& 31)) 8 (by decide) 256 (by decide) (by omega) (by omega) (by omega)
  rw [Int32.or_comm] at o
  have z := c_i2c (((el c &&& (255 : Int32)) <<< ((0 : Int32) &&& 31)) ||| ((eh c &&& (255 : Int32)) <<< ((8 : Int32) &&& 31)))
  apply Int32.toInt_inj.mp
  omega
theorem coder1 {n : Nat} (h0 : 0 < n) (h4 : n ≤ 4) : (XT.ushr (Int32.ofNat n - Int32.ofNat (2 * n)) (31 : Int32)).toInt8.toInt32 = 1 := by
  have : n = 1 ∨ n = 2 ∨ n = 3 ∨ n = 4 := by omega
  rcases this with rfl | rfl | rfl | rfl <;> decide
end UN
end Jvm.OwnK
namespace Jvm.Pilot.@@N@@
open Jvm Jvm.ClassFile Sem Op Lib Jvm.Free Jvm.Stand Jvm.LawKit Jvm.RoadKit Bundle Jvm.Pilot.@@N@@.Jvm.D Jvm.OwnK
section OwnStr
abbrev mI1 : MethodName := ⟨"java/lang/String", "<init>", "([C)V"⟩
abbrev mI4 : MethodName := ⟨"java/lang/String", "<init>", "([CIILjava/lang/Void;)V"⟩
abbrev mC3 : MethodName := ⟨"java/lang/StringUTF16", "compress", "([CII)[B"⟩
abbrev mC5 : MethodName := ⟨"java/lang/StringUTF16", "compress", "([CI[BII)I"⟩
abbrev mCL : MethodName := ⟨"java/lang/StringUTF16", "coderFromArrayLen", "([BI)B"⟩
/-- the words on String's constructor -/
def sW : List Jvm.Cond := [.methodLink "java/lang/String" 27 mI4, .instanceMethod mI4, .code mI4 jdk_42_method_149_code 6 none, .methodLink "java/lang/String" 1 ⟨"java/lang/Object", "<init>", "()V"⟩, .instanceMethod ⟨"java/lang/Object", "<init>", "()V"⟩, .code ⟨"java/lang/Object", "<init>", "()V"⟩ object_method_1_code 1 none,
  .fieldLink "java/lang/String" 38 "java/lang/String" "COMPACT_STRINGS" "Z", .methodLink "java/lang/String" 177 mC3, .static mC3, .initialized "java/lang/StringUTF16", .code mC3 jdk_52_method_16_code 6 (some (.array .byte)), .arrayClass .byte,
  .methodLink "java/lang/StringUTF16" 115 mC5, .static mC5, .code mC5 jdk_52_method_21_code 7 (some .int), .methodLink "java/lang/String" 47 mCL, .static mCL, .code mCL jdk_52_method_15_code 2 (some .byte),
  .fieldLink "java/lang/String" 15 "java/lang/String" "coder" "B", .laysFinal "java/lang/String" "java/lang/String" "coder" "B", .fieldLink "java/lang/String" 9 "java/lang/String" "value" "[B", .laysFinal "java/lang/String" "java/lang/String" "value" "[B", .initialized "java/lang/String", .instantiable "java/lang/String" 4, .code mI1 jdk_42_method_3_code 2 none]
theorem sW_in : ∀ d ∈ sW, d ∈ tables_1 := by decide +kernel
/-- a String of Latin-1 chars -/
def Str (Z : State) (h : Heap) (x : Addr) (cs : List Int32) : Prop := ∃ t k, Exa Z h x "java/lang/String" ∧ Fld Z h x "java/lang/String" "coder" "B" (.int 0) ∧ Fld Z h x "java/lang/String" "value" "[B" (.ref t) ∧ OA Z h t k .byte (cs.map fun c => Value.int c.toInt8.toInt32) ∧ ∀ c ∈ cs, ¬ c < 0 ∧ ¬ (255 : Int32) < c
theorem Str.ext {Z : State} {h h' : Heap} {x : Addr} {cs : List Int32} (F : Str Z h x cs) (E : Ext h h') : Str Z h' x cs := by
  obtain ⟨t, k, h1, h2, h3, h4, h5⟩ := F
  exact ⟨t, k, h1.ext E, h2.ext E, h3.ext E, h4.ext E, h5⟩
theorem Str.exa {Z : State} {h : Heap} {x : Addr} {cs : List Int32} (F : Str Z h x cs) : Exa Z h x "java/lang/String" := by obtain ⟨t, k, h1, -⟩ := F; exact h1
variable {l : Launch} {Z : State} {a0 : Array Value} {EL : List (String × Nat)} {nb : Bool} {h0 : Heap}
/-- what every String call leans on -/
def SC (Z : State) (a0 : Array Value) (EL : List (String × Nat)) : Prop := (∀ d ∈ sW, d.before a0 Z = true) ∧ EW Z a0 EL ∧ ∃ z, Sta Z Z.heap "java/lang/String" "COMPACT_STRINGS" "Z" (.int z) ∧ ¬ z = 0
abbrev rm0 : Room := { frames := 0, cells := 0, slots := 0, locals := 0 }
theorem k_CL (hE : EW Z a0 EL) {t : Addr} {k : ClassId} {vs : List Value} {n : Int32} (A : OA Z h0 t k .byte vs) :
    OC l Z EL nb [] mCL jdk_52_method_15_code 2 (some .byte) rm0 #[.ref t, .int n] h0 [] (fun v _ h => v = some (.int (XT.ushr (n - vs.length.toInt32) (31 : Int32)).toInt8.toInt32) ∧ h = h0) := by
  refine oEnter (by decide +kernel) hE ?_
  intro p e s m below meth c T0 W0 _
  refine oEq (g' := mkF m 0 #[.val (.ref t), .val (.int n)] []) (by first | (simp [entryFrame, mkF, argsToLocals, Value.category]; done) | rfl) ?_
  refine oGo W0 [.iload_n 1, .aload_n 0] (by decide +kernel) (ls' := #[.val (.ref t), .val (.int n)]) (st' := [.ref t, .int n]) rfl rfl (pc' := 2) rfl ?_
  refine oLen W0 A (by decide +kernel) ?_
  refine oGo W0 [.isub, .bipush 31, .iushr, .i2b] (by decide +kernel) (ls' := #[.val (.ref t), .val (.int n)]) (st' := [.int (XT.ushr (n - vs.length.toInt32) (31 : Int32)).toInt8.toInt32]) rfl rfl (pc' := 8) rfl ?_
  exact oRetN (by simp) W0 (nar_b _) (by decide +kernel) (lb rfl) (lb rfl) (fun _ _ => ⟨rfl, rfl⟩)
def bigAt : List Int32 → Nat
  | [] => 0
  | c :: cs => if (255 : Int32) < c then 0 else bigAt cs + 1
theorem bigAt_all : ∀ {cs : List Int32}, (∀ c ∈ cs, ¬ (255 : Int32) < c) → bigAt cs = cs.length
  | [], _ => rfl
  | c :: cs, h => by
    rw [bigAt, if_neg (h c (List.mem_cons_self ..)), bigAt_all (fun d hd => h d (List.mem_cons_of_mem _ hd)), List.length_cons]
theorem bigAt_at : ∀ {cs : List Int32} {k : Nat} (hk : k < cs.length), (∀ c ∈ cs.take k, ¬ (255 : Int32) < c) → (255 : Int32) < cs[k] → bigAt cs = k
  | [], k, hk, _, _ => absurd hk (Nat.not_lt_zero _)
  | c :: cs, 0, hk, _, hb => by rw [bigAt, if_pos (by simpa using hb)]
  | c :: cs, k + 1, hk, h, hb => by
    rw [List.take_succ_cons] at h
    rw [bigAt, if_neg (h c (List.mem_cons_self ..)), bigAt_at (k := k) (by simpa using hk) (fun d hd => h d (List.mem_cons_of_mem _ hd)) (by simpa using hb)]
def Q5 (Z : State) (h0 : Heap) (d : Addr) (kd : ClassId) (cs : List Int32) (v : Option Value) (_ : Vm) (h : Heap) : Prop := v = some (.int (Int32.ofNat (bigAt cs))) ∧ Keep h0 h [d] ∧ (bigAt cs = cs.length → OA Z h d kd .byte (cs.map fun c => Value.int c.toInt8.toInt32))
theorem set_step {cs : List Int32} {k r : Nat} (hk : k + (r + 1) = cs.length) (hlt : k < cs.length) :
    ((cs.take k).map (fun c : Int32 => Value.int c.toInt8.toInt32) ++ List.replicate (r + 1) (Value.int 0)).set k (Value.int cs[k].toInt8.toInt32) = (cs.take (k + 1)).map (fun c : Int32 => Value.int c.toInt8.toInt32) ++ List.replicate r (Value.int 0) := by
  have e1 : ((cs.take k).map (fun c : Int32 => Value.int c.toInt8.toInt32)).length = k := by simp; omega
  rw [List.set_append_right _ _ (by omega), e1, Nat.sub_self, List.replicate_succ, List.set_cons_zero, List.take_succ_eq_append_getElem hlt, List.map_append, List.append_assoc]
  rfl
theorem k_C5_loop {p : Program} {e : Env} {R : Room} {s : State} {m : MethodId} {args : Array Value} {below : List Frame} {meth : Method} {c : Code} {nm : String} {ck sk : Nat} {b d : Addr} {kb kd : ClassId} {cs : List Int32} (hl : cs.length < 2147483648) (hbd : b ≠ d) (hdf : Z.heap.size ≤ d) :
    ∀ (r k : Nat), k + r = cs.length → ∀ {vm : Vm} {T : State} {locs : List Loc} {h : Heap} {s6 : Slot}, OW p l e R s m args below meth c Z a0 EL nb "java/lang/StringUTF16" jdk_52_method_21_code 7 (some .int) nm vm T locs 0 0 h → OA Z h b kb .char (cs.map Value.int) →
      OA Z h d kd .byte ((cs.take k).map (fun c : Int32 => Value.int c.toInt8.toInt32) ++ List.replicate r (.int 0)) → Safe Z EL vm h d → Keep h0 h [d] → (∀ c ∈ cs.take k, ¬ (255 : Int32) < c) → (s6 = .unset ∨ ∃ x, s6 = .val (.int x)) →
      OG p e below s Z EL nb (Q5 Z h0 d kd cs) ck sk T (mkF m 3 #[.val (.ref b), .val (.int (Int32.ofNat k)), .val (.ref d), .val (.int (Int32.ofNat k)), .val (.int (Int32.ofNat cs.length)), .val (.int (Int32.ofNat k)), s6] [])
  | 0, k, hk, _, T, locs, h, s6, W, A, B, S, K, hsm, h6 => by
    have hkl : k = cs.length := by omega
    subst hkl
    refine oGo W [.iload 5, .iload 4] (by decide +kernel) (ls' := #[.val (.ref b), .val (.int (Int32.ofNat cs.length)), .val (.ref d), .val (.int (Int32.ofNat cs.length)), .val (.int (Int32.ofNat cs.length)), .val (.int (Int32.ofNat cs.length)), s6]) (st' := [.int (Int32.ofNat cs.length), .int (Int32.ofNat cs.length)]) rfl rfl (pc' := 7) rfl ?_
    refine oIcT W (cd := .ge) (o := 37) (by decide +kernel) (XT.ii_ge_t (fun q => Int32.lt_irrefl q)) (pc' := 44) (by decide) (by decide) ?_
    refine oGo W [.iload 4] (by decide +kernel) (ls' := #[.val (.ref b), .val (.int (Int32.ofNat cs.length)), .val (.ref d), .val (.int (Int32.ofNat cs.length)), .val (.int (Int32.ofNat cs.length)), .val (.int (Int32.ofNat cs.length)), s6]) (st' := [.int (Int32.ofNat cs.length)]) rfl rfl (pc' := 46) rfl ?_
    rw [List.take_length] at hsm B
    have hb := bigAt_all hsm
    exact oRetI W (by decide +kernel) (Nat.zero_le _) (Nat.zero_le _) (fun _ _ => ⟨by rw [hb], K, fun _ => by simpa using B⟩)
  | r + 1, k, hk, _, T, locs, h, s6, W, A, B, S, K, hsm, h6 => by
    have hlt : k < cs.length := by omega
    refine oGo W [.iload 5, .iload 4] (by decide +kernel) (ls' := #[.val (.ref b), .val (.int (Int32.ofNat k)), .val (.ref d), .val (.int (Int32.ofNat k)), .val (.int (Int32.ofNat cs.length)), .val (.int (Int32.ofNat k)), s6]) (st' := [.int (Int32.ofNat cs.length), .int (Int32.ofNat k)]) rfl rfl (pc' := 7) rfl ?_
    refine oIcF W (cd := .ge) (o := 37) (by decide +kernel) (XT.ii_ge_f ((n_lt (by omega) hl).mpr hlt)) (pc' := 10) rfl ?_
    refine oGo W [.aload_n 0, .iload_n 1] (by decide +kernel) (ls' := #[.val (.ref b), .val (.int (Int32.ofNat k)), .val (.ref d), .val (.int (Int32.ofNat k)), .val (.int (Int32.ofNat cs.length)), .val (.int (Int32.ofNat k)), s6]) (st' := [.int (Int32.ofNat k), .ref b]) rfl rfl (pc' := 12) rfl ?_
    refine oGet W A (n_nn (by omega)) (v := .int cs[k]) (by rw [n_cl (by omega)]; simp [hlt]) (Or.inl ⟨rfl, rfl⟩) (by decide +kernel) ?_
    have go6 : OG p e below s Z EL nb (Q5 Z h0 d kd cs) ck sk T (mkF m 20 #[.val (.ref b), .val (.int (Int32.ofNat k)), .val (.ref d), .val (.int (Int32.ofNat k)), .val (.int (Int32.ofNat cs.length)), .val (.int (Int32.ofNat k)), .val (.int cs[k])] [.int (255 : Int32), .int cs[k]]) := by
      by_cases hc : (255 : Int32) < cs[k]
      · refine oIcF W (cd := .le) (o := 6) (by decide +kernel) (XT.ii_le_f hc) (pc' := 23) rfl ?_
        refine oGo W [.iload 5] (by decide +kernel) (ls' := #[.val (.ref b), .val (.int (Int32.ofNat k)), .val (.ref d), .val (.int (Int32.ofNat k)), .val (.int (Int32.ofNat cs.length)), .val (.int (Int32.ofNat k)), .val (.int cs[k])]) (st' := [.int (Int32.ofNat k)]) rfl rfl (pc' := 25) rfl ?_
        have hb := bigAt_at hlt hsm hc
        exact oRetI W (by decide +kernel) (Nat.zero_le _) (Nat.zero_le _) (fun _ _ => ⟨by rw [hb], K, fun q => absurd (hb.symm.trans q) (by omega)⟩)
      · refine oIcT W (cd := .le) (o := 6) (by decide +kernel) (XT.ii_le_t hc) (pc' := 26) (by decide) (by decide) ?_
        refine oGo W [.aload_n 2, .iload_n 3, .iload 6, .i2b] (by decide +kernel) (ls' := #[.val (.ref b), .val (.int (Int32.ofNat k)), .val (.ref d), .val (.int (Int32.ofNat k)), .val (.int (Int32.ofNat cs.length)), .val (.int (Int32.ofNat k)), .val (.int cs[k])]) (st' := [.int (cs[k].toInt8.toInt32), .int (Int32.ofNat k), .ref d]) rfl rfl (pc' := 31) rfl ?_
        obtain ⟨T1, h1, W1, Wr1, B1, C1, st1⟩ := oPut W B (j := Int32.ofNat k) (pc := 31) (ls := #[.val (.ref b), .val (.int (Int32.ofNat k)), .val (.ref d), .val (.int (Int32.ofNat k)), .val (.int (Int32.ofNat cs.length)), .val (.int (Int32.ofNat k)), .val (.int cs[k])]) (st := []) (n_nn (by omega)) (i := k) (n_cl (by omega)) (by simp; omega) hdf S (ins := .bastore) (Or.inr (Or.inl ⟨rfl, rfl, nar_b _⟩)) (by decide +kernel)
        refine oLift st1 ?_
        refine oGo W1 [.iinc 1 1, .iinc 3 1, .iinc 5 1, .goto (-38)] (by decide +kernel) (ls' := #[.val (.ref b), .val (.int (Int32.ofNat k + 1)), .val (.ref d), .val (.int (Int32.ofNat k + 1)), .val (.int (Int32.ofNat cs.length)), .val (.int (Int32.ofNat k + 1)), .val (.int cs[k])]) (st' := []) rfl rfl (pc' := 3) rfl ?_
        rw [n_in]
        rw [set_step hk hlt] at B1
        refine k_C5_loop hl hbd hdf r (k + 1) (by omega) W1 (A.other Wr1 hbd) B1 (C1.safe B.lt S) (K.wr Wr1 (Or.inl (List.mem_singleton.mpr rfl))) ?_ (Or.inr ⟨_, rfl⟩)
        intro c hcm
        rw [List.take_succ_eq_append_getElem hlt, List.mem_append, List.mem_singleton] at hcm
        rcases hcm with hcm | rfl
        · exact hsm c hcm
        · exact hc
    rcases h6 with rfl | ⟨x, rfl⟩
    · exact oGo W [.istore 6, .iload 6, .sipush 255] (by decide +kernel) (ls' := #[.val (.ref b), .val (.int (Int32.ofNat k)), .val (.ref d), .val (.int (Int32.ofNat k)), .val (.int (Int32.ofNat cs.length)), .val (.int (Int32.ofNat k)), .val (.int cs[k])]) (st' := [.int (255 : Int32), .int cs[k]]) rfl rfl (pc' := 20) rfl go6
    · exact oGo W [.istore 6, .iload 6, .sipush 255] (by decide +kernel) (ls' := #[.val (.ref b), .val (.int (Int32.ofNat k)), .val (.ref d), .val (.int (Int32.ofNat k)), .val (.int (Int32.ofNat cs.length)), .val (.int (Int32.ofNat k)), .val (.int cs[k])]) (st' := [.int (255 : Int32), .int cs[k]]) rfl rfl (pc' := 20) rfl go6
theorem k_C5 (hE : EW Z a0 EL) {b d : Addr} {kb kd : ClassId} {cs : List Int32} (hl : cs.length < 2147483648) (hbd : b ≠ d) (hdf : Z.heap.size ≤ d) (A : OA Z h0 b kb .char (cs.map Value.int)) (B : OA Z h0 d kd .byte (List.replicate cs.length (.int 0))) :
    OC l Z EL nb [] mC5 jdk_52_method_21_code 7 (some .int) rm0 #[.ref b, .int 0, .ref d, .int 0, .int (Int32.ofNat cs.length)] h0 [d] (Q5 Z h0 d kd cs) := by
  refine oEnter (by decide +kernel) hE ?_
  intro p e s m below meth c T0 W0 S0
  refine oEq (g' := mkF m 0 #[.val (.ref b), .val (.int 0), .val (.ref d), .val (.int 0), .val (.int (Int32.ofNat cs.length)), .unset, .unset] []) (by first | (simp [entryFrame, mkF, argsToLocals, Value.category]; done) | rfl) ?_
  refine oGo W0 [.iconst 0, .istore 5] (by decide +kernel) (ls' := #[.val (.ref b), .val (.int 0), .val (.ref d), .val (.int 0), .val (.int (Int32.ofNat cs.length)), .val (.int 0), .unset]) (st' := []) rfl rfl (pc' := 3) rfl ?_
  exact k_C5_loop hl hbd hdf cs.length 0 (by omega) W0 A (by simpa using B) (S0 d (List.mem_singleton.mpr rfl)) (Keep.refl _ _) (by simp) (Or.inl rfl)
abbrev rmC3 (n : Nat) : Room := { frames := 1, cells := 1, slots := n, locals := 18 }
theorem k_C3 (K : SC Z a0 EL) {b : Addr} {kb : ClassId} {cs : List Int32} (hl : cs.length ≤ 4000) (A : OA Z h0 b kb .char (cs.map Value.int)) (hsm : ∀ c ∈ cs, ¬ (255 : Int32) < c) :
    OC l Z EL nb [] mC3 jdk_52_method_16_code 6 (some (.array .byte)) (rmC3 cs.length) #[.ref b, .int 0, .int (Int32.ofNat cs.length)] h0 [] (fun v _ h => ∃ d k, v = some (.ref d) ∧ h0.size ≤ d ∧ Ext h0 h ∧ OA Z h d k .byte (cs.map fun c => Value.int c.toInt8.toInt32)) := by
  have hs := K.1
  refine oEnter (by decide +kernel) K.2.1 ?_
  intro p e s m below meth c T0 W0 _
  refine oEq (g' := mkF m 0 #[.val (.ref b), .val (.int 0), .val (.int (Int32.ofNat cs.length)), .unset, .unset, .unset] []) (by first | (simp [entryFrame, mkF, argsToLocals, Value.category]; done) | rfl) ?_
  refine oGo W0 [.iload_n 2] (by decide +kernel) (ls' := #[.val (.ref b), .val (.int 0), .val (.int (Int32.ofNat cs.length)), .unset, .unset, .unset]) (st' := [.int (Int32.ofNat cs.length)]) rfl rfl (pc' := 1) rfl ?_
  have hcl : (Int32.ofNat cs.length).toNatClampNeg = cs.length := n_cl (by omega)
  obtain ⟨T1, h1, d, kd, W1, g1, E1, B1, S1, C1, st1⟩ := oNewA W0 (aty := .byte) (pc := 1) (ls := #[.val (.ref b), .val (.int 0), .val (.int (Int32.ofNat cs.length)), .unset, .unset, .unset]) (st := []) (hs _ (List.mem_of_getElem? (i := 11) rfl)) (by decide +kernel) (n := Int32.ofNat cs.length) (n_nn (by omega)) (cap := cs.length) (by rw [hcl]; exact Nat.le_refl _) (by omega) (lb rfl) (by show 0 + cs.length ≤ cs.length; omega)
  refine oLift st1 ?_
  rw [hcl] at B1
  refine oGo W1 [.astore_n 3, .aload_n 0, .iload_n 1, .aload_n 3, .iconst 0, .iload_n 2] (by decide +kernel) (ls' := #[.val (.ref b), .val (.int 0), .val (.int (Int32.ofNat cs.length)), .val (.ref d), .unset, .unset]) (st' := [.int (Int32.ofNat cs.length), .int 0, .ref d, .int 0, .ref b]) rfl rfl (pc' := 9) rfl ?_
  have hbd : b ≠ d := Nat.ne_of_lt (Nat.lt_of_lt_of_le A.lt g1)
  obtain ⟨v2, T2, L2, h2, vm2, W2, ⟨rfl, K2, B2⟩, C2, st2⟩ := oCallS W1 (idx := 115) (pc := 9) (ls := #[.val (.ref b), .val (.int 0), .val (.int (Int32.ofNat cs.length)), .val (.ref d), .unset, .unset]) (st := []) (argsL := [.ref b, .int 0, .ref d, .int 0, .int (Int32.ofNat cs.length)]) (k_C5 (h0 := h1) K.2.1 (by omega) hbd (Nat.le_trans W0.ext.1 g1) (A.ext E1) B1)
    (fun x hx => by cases List.mem_singleton.mp hx; exact ⟨B1.lt, S1⟩) (hs _ (List.mem_of_getElem? (i := 12) rfl)) (hs _ (List.mem_of_getElem? (i := 13) rfl)) (hs _ (List.mem_of_getElem? (i := 9) rfl)) (hs _ (List.mem_of_getElem? (i := 14) rfl)) (by decide) (na := 5) rfl (by decide +kernel) rfl (stk := [.int (Int32.ofNat cs.length), .int 0, .ref d, .int 0, .ref b]) rfl (by decide +kernel) (V := 0) (lb rfl) (lb rfl) (lb rfl) (lb rfl) (by show 0 + cs.length + 0 ≤ cs.length; omega)
  refine oLift st2 ?_
  have hb := bigAt_all hsm
  rw [hb]
  refine oGo W2 [.istore 4, .iload 4, .iload_n 2] (by decide +kernel) (ls' := #[.val (.ref b), .val (.int 0), .val (.int (Int32.ofNat cs.length)), .val (.ref d), .val (.int (Int32.ofNat cs.length)), .unset]) (st' := [.int (Int32.ofNat cs.length), .int (Int32.ofNat cs.length)]) rfl rfl (pc' := 17) rfl ?_
  refine oIcT W2 (cd := .eq) (o := 40) (by decide +kernel) (XT.ii_eq_t rfl) (pc' := 57) (by decide) (by decide) ?_
  refine oGo W2 [.aload_n 3] (by decide +kernel) (ls' := #[.val (.ref b), .val (.int 0), .val (.int (Int32.ofNat cs.length)), .val (.ref d), .val (.int (Int32.ofNat cs.length)), .unset]) (st' := [.ref d]) rfl rfl (pc' := 58) rfl ?_
  exact oRetA rfl W2 rfl rfl (by decide +kernel) (lb rfl) (by show 0 + cs.length + 0 ≤ cs.length; omega) (fun _ _ => ⟨d, kd, rfl, g1, exK E1 K2 (fun x hx => by cases List.mem_singleton.mp hx; exact g1), B2 hb⟩)
theorem slots_vc (K : SC Z a0 EL) : RoadKit.slotOf Z "java/lang/String" "coder" "B" ≠ RoadKit.slotOf Z "java/lang/String" "value" "[B" :=
  slot_ne (a0 := a0) (C := "java/lang/String") (Or.inr (K.1 _ (List.mem_of_getElem? (i := 19) rfl))) (Or.inr (K.1 _ (List.mem_of_getElem? (i := 21) rfl))) (by decide) (t := .byte) (t' := .array .byte) (by decide) (by decide)
abbrev rmI4 (n : Nat) : Room := { frames := 2, cells := 1, slots := n, locals := 35 }
theorem k_I4 (K : SC Z a0 EL) {x b : Addr} {kb : ClassId} {cs : List Int32} {v0 c0 : Value} (hl : cs.length ≤ 4000) (hl0 : 0 < cs.length) (A : OA Z h0 b kb .char (cs.map Value.int)) (hsm : ∀ c ∈ cs, ¬ c < 0 ∧ ¬ (255 : Int32) < c) (hxf : Z.heap.size ≤ x) (E : Exa Z h0 x "java/lang/String") (Fc : Fld Z h0 x "java/lang/String" "coder" "B" c0) (Fv : Fld Z h0 x "java/lang/String" "value" "[B" v0) :
    OC l Z EL nb [] mI4 jdk_42_method_149_code 6 none (rmI4 cs.length) #[.ref x, .ref b, .int 0, .int (Int32.ofNat cs.length), .null] h0 [x] (fun v _ h => v = none ∧ Keep h0 h [x] ∧ Str Z h x cs) := by
  have hs := K.1
  obtain ⟨z, hz, hz0⟩ := K.2.2
  refine oEnter (by decide +kernel) K.2.1 ?_
  intro p e s m below meth c T0 W0 S0
  refine oEq (g' := mkF m 0 #[.val (.ref x), .val (.ref b), .val (.int 0), .val (.int (Int32.ofNat cs.length)), .val .null, .unset] []) (by first | (simp [entryFrame, mkF, argsToLocals, Value.category]; done) | rfl) ?_
  refine oGo W0 [.aload_n 0] (by decide +kernel) (ls' := #[.val (.ref x), .val (.ref b), .val (.int 0), .val (.int (Int32.ofNat cs.length)), .val .null, .unset]) (st' := [.ref x]) rfl rfl (pc' := 1) rfl ?_
  obtain ⟨T1, W1, st1⟩ := oInit W0 (idx := 1) (pc := 1) (ls := #[.val (.ref x), .val (.ref b), .val (.int 0), .val (.int (Int32.ofNat cs.length)), .val .null, .unset]) (st := []) (a := x) (hs _ (List.mem_of_getElem? (i := 3) rfl)) (hs _ (List.mem_of_getElem? (i := 4) rfl)) (hs _ (List.mem_of_getElem? (i := 5) rfl)) rfl (by decide +kernel) (lb rfl) (V := 0) (lb rfl) (lb rfl)
  refine oLift st1 ?_
  refine oGo W1 [.iload_n 3] (by decide +kernel) (ls' := #[.val (.ref x), .val (.ref b), .val (.int 0), .val (.int (Int32.ofNat cs.length)), .val .null, .unset]) (st' := [.int (Int32.ofNat cs.length)]) rfl rfl (pc' := 5) rfl ?_
  have hn0 : ¬ Int32.ofNat cs.length = 0 := fun q => by
    have := congrArg Int32.toNatClampNeg q
    rw [n_cl (by omega)] at this
    exact absurd this (by show ¬ cs.length = 0; omega)
  refine oIfT W1 (cd := .ne) (o := 22) (by decide +kernel) (XT.i0_ne_t hn0) (pc' := 27) (by decide) (by decide) ?_
  obtain ⟨T2, W2, st2⟩ := oGetS W1 (pc := 27) (ls := #[.val (.ref x), .val (.ref b), .val (.int 0), .val (.int (Int32.ofNat cs.length)), .val .null, .unset]) (st := []) (hs _ (List.mem_of_getElem? (i := 6) rfl)) Via.refl (hz.ext W1.ext) (by decide +kernel)
  refine oLift st2 ?_
  refine oIfF W2 (cd := .eq) (o := 28) (by decide +kernel) (XT.i0_eq_f hz0) (pc' := 33) rfl ?_
  refine oGo W2 [.aload_n 1, .iload_n 2, .iload_n 3] (by decide +kernel) (ls' := #[.val (.ref x), .val (.ref b), .val (.int 0), .val (.int (Int32.ofNat cs.length)), .val .null, .unset]) (st' := [.int (Int32.ofNat cs.length), .int 0, .ref b]) rfl rfl (pc' := 36) rfl ?_
  obtain ⟨v3, T3, L3, h3, vm3, W3, ⟨d, kd, rfl, g3, E3, B3⟩, C3, st3⟩ := oCallS W2 (idx := 177) (pc := 36) (ls := #[.val (.ref x), .val (.ref b), .val (.int 0), .val (.int (Int32.ofNat cs.length)), .val .null, .unset]) (st := []) (argsL := [.ref b, .int 0, .int (Int32.ofNat cs.length)]) (k_C3 (h0 := h0) K hl A (fun c hc => (hsm c hc).2))
    (fun x hx => nomatch hx) (hs _ (List.mem_of_getElem? (i := 7) rfl)) (hs _ (List.mem_of_getElem? (i := 8) rfl)) (hs _ (List.mem_of_getElem? (i := 9) rfl)) (hs _ (List.mem_of_getElem? (i := 10) rfl)) (by decide) (na := 3) rfl (by decide +kernel) rfl (stk := [.int (Int32.ofNat cs.length), .int 0, .ref b]) rfl (by decide +kernel) (V := 0) (lb rfl) (lb rfl) (lb rfl) (lb rfl) (by show 0 + cs.length ≤ cs.length; omega)
  refine oLift st3 ?_
  refine oGo W3 [.astore 5, .aload_n 0, .aload 5, .iload_n 3] (by decide +kernel) (ls' := #[.val (.ref x), .val (.ref b), .val (.int 0), .val (.int (Int32.ofNat cs.length)), .val .null, .val (.ref d)]) (st' := [.int (Int32.ofNat cs.length), .ref d, .ref x]) rfl rfl (pc' := 45) rfl ?_
  obtain ⟨v4, T4, L4, h4, vm4, W4, ⟨rfl, e4⟩, C4, st4⟩ := oCallS W3 (idx := 47) (pc := 45) (ls := #[.val (.ref x), .val (.ref b), .val (.int 0), .val (.int (Int32.ofNat cs.length)), .val .null, .val (.ref d)]) (st := [.ref x]) (argsL := [.ref d, .int (Int32.ofNat cs.length)]) (k_CL (h0 := h3) K.2.1 B3)
    (fun x hx => nomatch hx) (hs _ (List.mem_of_getElem? (i := 15) rfl)) (hs _ (List.mem_of_getElem? (i := 16) rfl)) (hs _ (List.mem_of_getElem? (i := 9) rfl)) (hs _ (List.mem_of_getElem? (i := 17) rfl)) (by decide) (na := 2) rfl (by decide +kernel) rfl (stk := [.int (Int32.ofNat cs.length), .ref d, .ref x]) rfl (by decide +kernel) (V := 1) (lb rfl) (lb rfl) (lb rfl) (lb rfl) (by show 0 + cs.length + 0 ≤ cs.length; omega)
  refine oLift st4 ?_
  subst e4
  have hc0 : (XT.ushr (Int32.ofNat cs.length - (cs.map fun c : Int32 => Value.int c.toInt8.toInt32).length.toInt32) (31 : Int32)).toInt8.toInt32 = 0 := by
    rw [List.length_map]
    show (XT.ushr (Int32.ofNat cs.length - Int32.ofNat cs.length) (31 : Int32)).toInt8.toInt32 = 0
    rw [Int32.sub_self]; decide
  rw [hc0]
  have S4 : Safe Z EL vm4 h4 x := C4.safe (E.ext E3).lt (C3.safe E.lt (S0 x (List.mem_singleton.mpr rfl)))
  obtain ⟨T5, h5, W5, Wr5, Fc5, E5, C5, st5⟩ := oPutF W4 (idx := 15) (pc := 48) (ls := #[.val (.ref x), .val (.ref b), .val (.int 0), .val (.int (Int32.ofNat cs.length)), .val .null, .val (.ref d)]) (st := []) (v := .int 0) (hs _ (List.mem_of_getElem? (i := 18) rfl)) Via.refl (Fc.ext E3) (E.ext E3) (Or.inr ⟨hs _ (List.mem_of_getElem? (i := 19) rfl), rfl, rfl⟩) (hs _ (List.mem_of_getElem? (i := 23) rfl)) (ty := .byte) (by decide) rfl rfl hxf S4 (by decide +kernel)
  refine oLift st5 ?_
  refine oGo W5 [.aload_n 0, .aload 5] (by decide +kernel) (ls' := #[.val (.ref x), .val (.ref b), .val (.int 0), .val (.int (Int32.ofNat cs.length)), .val .null, .val (.ref d)]) (st' := [.ref d, .ref x]) rfl rfl (pc' := 54) rfl ?_
  have hdx : d ≠ x := Nat.ne_of_gt (Nat.lt_of_lt_of_le E.lt g3)
  obtain ⟨T6, h6, W6, Wr6, Fv6, E6, C6, st6⟩ := oPutF W5 (idx := 9) (pc := 54) (ls := #[.val (.ref x), .val (.ref b), .val (.int 0), .val (.int (Int32.ofNat cs.length)), .val .null, .val (.ref d)]) (st := []) (v := .ref d) (hs _ (List.mem_of_getElem? (i := 20) rfl)) Via.refl ((Fv.ext E3).other Wr5 (Or.inr (Ne.symm (slots_vc K)))) E5 (Or.inr ⟨hs _ (List.mem_of_getElem? (i := 21) rfl), rfl, rfl⟩) (hs _ (List.mem_of_getElem? (i := 23) rfl)) (ty := .array .byte) (by decide) rfl rfl hxf (C5.safe (E.ext E3).lt S4) (by decide +kernel)
  refine oLift st6 ?_
  exact oRet0 W6 (by decide +kernel) (lb rfl) (by show 0 + cs.length + 0 ≤ cs.length; omega) (fun _ _ => ⟨rfl, (((Keep.refl h0 [x]).ext E3).wr Wr5 (Or.inl (List.mem_singleton.mpr rfl))).wr Wr6 (Or.inl (List.mem_singleton.mpr rfl)),
    d, kd, E6, Fc5.other Wr6 (Or.inr (slots_vc K)), Fv6, (B3.other Wr5 hdx).other Wr6 hdx, hsm⟩)
abbrev rmI1 (n : Nat) : Room := { frames := 3, cells := 1, slots := n, locals := 52 }
/-- new String(char[]): one to 4,000 chars of 0 to 255 -/
theorem k_I1 (K : SC Z a0 EL) {x b : Addr} {kb : ClassId} (cs : List Int32) {v0 c0 : Value} (hl : cs.length ≤ 4000) (hl0 : 0 < cs.length) (A : OA Z h0 b kb .char (cs.map Value.int)) (hsm : ∀ c ∈ cs, ¬ c < 0 ∧ ¬ (255 : Int32) < c) (hxf : Z.heap.size ≤ x) (E : Exa Z h0 x "java/lang/String") (Fc : Fld Z h0 x "java/lang/String" "coder" "B" c0) (Fv : Fld Z h0 x "java/lang/String" "value" "[B" v0) :
    OC l Z EL nb [] mI1 jdk_42_method_3_code 2 none (rmI1 cs.length) #[.ref x, .ref b] h0 [x] (fun v _ h => v = none ∧ Keep h0 h [x] ∧ Str Z h x cs) := by
  have hs := K.1
  refine oEnter (by decide +kernel) K.2.1 ?_
  intro p e s m below meth c T0 W0 S0
  refine oEq (g' := mkF m 0 #[.val (.ref x), .val (.ref b)] []) (by first | (simp [entryFrame, mkF, argsToLocals, Value.category]; done) | rfl) ?_
  refine oGo W0 [.aload_n 0, .aload_n 1, .iconst 0, .aload_n 1] (by decide +kernel) (ls' := #[.val (.ref x), .val (.ref b)]) (st' := [.ref b, .int 0, .ref b, .ref x]) rfl rfl (pc' := 4) rfl ?_
  refine oLen W0 A (by decide +kernel) ?_
  rw [List.length_map]
  refine oGo W0 [.aconst_null] (by decide +kernel) (ls' := #[.val (.ref x), .val (.ref b)]) (st' := [.null, .int (Int32.ofNat cs.length), .int 0, .ref b, .ref x]) rfl rfl (pc' := 6) rfl ?_
  obtain ⟨v1, T1, L1, h1, vm1, W1, ⟨rfl, K1, F1⟩, C1, st1⟩ := oCallN W0 (idx := 27) (pc := 6) (ls := #[.val (.ref x), .val (.ref b)]) (st := []) (a := x) (argsL := [.ref b, .int 0, .int (Int32.ofNat cs.length), .null]) (k_I4 (h0 := h0) K hl hl0 A hsm hxf E Fc Fv)
    (fun y hy => by cases List.mem_singleton.mp hy; exact ⟨E.lt, S0 x (List.mem_singleton.mpr rfl)⟩) rfl (hs _ (List.mem_of_getElem? (i := 0) rfl)) (hs _ (List.mem_of_getElem? (i := 1) rfl)) (hs _ (List.mem_of_getElem? (i := 22) rfl)) (hs _ (List.mem_of_getElem? (i := 2) rfl)) (by decide) (na := 4) rfl (by decide +kernel) rfl (stk := [.null, .int (Int32.ofNat cs.length), .int 0, .ref b, .ref x]) rfl (by decide +kernel) (V := 0) (lb rfl) (lb rfl) (lb rfl) (lb rfl) (by show 0 + cs.length ≤ cs.length; omega)
  refine oLift st1 ?_
  exact oRet0 W1 (by decide +kernel) (lb rfl) (by show 0 + cs.length ≤ cs.length; omega) (fun _ _ => ⟨rfl, K1, F1⟩)
end OwnStr
end Jvm.Pilot.@@N@@
namespace Jvm.Pilot.@@N@@
open Jvm Jvm.ClassFile Sem Op Lib Jvm.Free Jvm.Stand Jvm.LawKit Jvm.RoadKit Bundle Jvm.Pilot.@@N@@.Jvm.D Jvm.OwnK
section OwnStrE
variable {l : Launch} {Z : State} {a0 : Array Value} {EL : List (String × Nat)} {h0 : Heap}
abbrev rmI4e : Room := { frames := 1, cells := 4, slots := 8, locals := 12 }
theorem k_I4e (K : SC Z a0 EL) (hS : ∀ a ∈ Bundle.stringAtoms, a.before a0 Z = true) (wl : (Jvm.Cond.stringLink "java/lang/String" 7 "").before a0 Z = true) (hm : ("java/lang/String", 7) ∈ EL) {x b : Addr} {v0 c0 : Value} (hxf : Z.heap.size ≤ x) (E : Exa Z h0 x "java/lang/String") (Fc : Fld Z h0 x "java/lang/String" "coder" "B" c0) (Fv : Fld Z h0 x "java/lang/String" "value" "[B" v0) :
    OC l Z EL false [] mI4 jdk_42_method_149_code 6 none rmI4e #[.ref x, .ref b, .int 0, .int 0, .null] h0 [x] (fun v _ h => v = none ∧ Keep h0 h [x] ∧ Str Z h x []) := by
  have hs := K.1
  refine oEnter (by decide +kernel) K.2.1 ?_
  intro p e s m below meth c T0 W0 S0
  refine oEq (g' := mkF m 0 #[.val (.ref x), .val (.ref b), .val (.int 0), .val (.int 0), .val .null, .unset] []) (by first | (simp [entryFrame, mkF, argsToLocals, Value.category]; done) | rfl) ?_
  refine oGo W0 [.aload_n 0] (by decide +kernel) (ls' := #[.val (.ref x), .val (.ref b), .val (.int 0), .val (.int 0), .val .null, .unset]) (st' := [.ref x]) rfl rfl (pc' := 1) rfl ?_
  obtain ⟨T1, W1, st1⟩ := oInit W0 (idx := 1) (pc := 1) (ls := #[.val (.ref x), .val (.ref b), .val (.int 0), .val (.int 0), .val .null, .unset]) (st := []) (a := x) (hs _ (List.mem_of_getElem? (i := 3) rfl)) (hs _ (List.mem_of_getElem? (i := 4) rfl)) (hs _ (List.mem_of_getElem? (i := 5) rfl)) rfl (by decide +kernel) (lb rfl) (V := 0) (lb rfl) (lb rfl)
  refine oLift st1 ?_
  refine oGo W1 [.iload_n 3] (by decide +kernel) (ls' := #[.val (.ref x), .val (.ref b), .val (.int 0), .val (.int 0), .val .null, .unset]) (st' := [.int 0]) rfl rfl (pc' := 5) rfl ?_
  refine oIfF W1 (cd := .ne) (o := 22) (by decide +kernel) (by decide) (pc' := 8) rfl ?_
  refine oGo W1 [.aload_n 0] (by decide +kernel) (ls' := #[.val (.ref x), .val (.ref b), .val (.int 0), .val (.int 0), .val .null, .unset]) (st' := [.ref x]) rfl rfl (pc' := 9) rfl ?_
  obtain ⟨a2, b2, k2, T2, h2, vm2, W2, E2, C2, x2, c2, u2, A2, st2⟩ := oLdcC W1 (pc := 9) (ls := #[.val (.ref x), .val (.ref b), .val (.int 0), .val (.int 0), .val .null, .unset]) (st := [.ref x]) wl hS hm (vs := []) (z := 0) (by decide +kernel) (by decide) (by decide) (by decide +kernel) (n := 0) (lb rfl) (lb rfl) (lb rfl) (lb rfl)
  refine oLift st2 ?_
  obtain ⟨T3, W3, st3⟩ := oGetF W2 (pc := 11) (ls := #[.val (.ref x), .val (.ref b), .val (.int 0), .val (.int 0), .val .null, .unset]) (st := [.ref x]) (hs _ (List.mem_of_getElem? (i := 20) rfl)) Via.refl u2 (by decide +kernel)
  refine oLift st3 ?_
  have S2 : Safe Z EL vm2 h2 x := C2.safe E.lt (S0 x (List.mem_singleton.mpr rfl))
  obtain ⟨T4, h4, W4, Wr4, Fv4, X4, C4, st4⟩ := oPutF W3 (idx := 9) (pc := 14) (ls := #[.val (.ref x), .val (.ref b), .val (.int 0), .val (.int 0), .val .null, .unset]) (st := []) (v := .ref b2) (hs _ (List.mem_of_getElem? (i := 20) rfl)) Via.refl (Fv.ext E2) (E.ext E2) (Or.inr ⟨hs _ (List.mem_of_getElem? (i := 21) rfl), rfl, rfl⟩) (hs _ (List.mem_of_getElem? (i := 23) rfl)) (ty := .array .byte) (by decide) rfl rfl hxf S2 (by decide +kernel)
  refine oLift st4 ?_
  refine oGo W4 [.aload_n 0] (by decide +kernel) (ls' := #[.val (.ref x), .val (.ref b), .val (.int 0), .val (.int 0), .val .null, .unset]) (st' := [.ref x]) rfl rfl (pc' := 18) rfl ?_
  obtain ⟨a5, b5, k5, T5, h5, vm5, W5, E5, C5, x5, c5, u5, A5, st5⟩ := oLdcC W4 (pc := 18) (ls := #[.val (.ref x), .val (.ref b), .val (.int 0), .val (.int 0), .val .null, .unset]) (st := [.ref x]) wl hS hm (vs := []) (z := 0) (by decide +kernel) (by decide) (by decide) (by decide +kernel) (n := 0) (lb rfl) (lb rfl) (lb rfl) (lb rfl)
  refine oLift st5 ?_
  obtain ⟨T6, W6, st6⟩ := oGetF W5 (pc := 20) (ls := #[.val (.ref x), .val (.ref b), .val (.int 0), .val (.int 0), .val .null, .unset]) (st := [.ref x]) (hs _ (List.mem_of_getElem? (i := 18) rfl)) Via.refl c5 (by decide +kernel)
  refine oLift st6 ?_
  have S5 : Safe Z EL vm5 h5 x := C5.safe X4.lt (C4.safe (E.ext E2).lt S2)
  obtain ⟨T7, h7, W7, Wr7, Fc7, X7, C7, st7⟩ := oPutF W6 (idx := 15) (pc := 23) (ls := #[.val (.ref x), .val (.ref b), .val (.int 0), .val (.int 0), .val .null, .unset]) (st := []) (v := .int 0) (hs _ (List.mem_of_getElem? (i := 18) rfl)) Via.refl (((Fc.ext E2).other Wr4 (Or.inr (slots_vc K))).ext E5) (X4.ext E5) (Or.inr ⟨hs _ (List.mem_of_getElem? (i := 19) rfl), rfl, rfl⟩) (hs _ (List.mem_of_getElem? (i := 23) rfl)) (ty := .byte) (by decide) rfl rfl hxf S5 (by decide +kernel)
  refine oLift st7 ?_
  have hbx : b2 ≠ x := A2.ne (E.ext E2) (hs _ (List.mem_of_getElem? (i := 23) rfl))
  exact oRet0 W7 (by decide +kernel) (lb rfl) (lb rfl) (fun _ _ => ⟨rfl, (((((Keep.refl h0 [x]).ext E2).wr Wr4 (Or.inl (List.mem_singleton.mpr rfl))).ext E5).wr Wr7 (Or.inl (List.mem_singleton.mpr rfl))),
    b2, k2, X7, Fc7, ((Fv4.ext E5).other Wr7 (Or.inr (Ne.symm (slots_vc K)))), (((A2.other Wr4 hbx).ext E5).other Wr7 hbx), by decide⟩)
abbrev rmI1e : Room := { frames := 2, cells := 4, slots := 8, locals := 29 }
/-- new String(new char[0]) -/
theorem k_I1e (K : SC Z a0 EL) (hS : ∀ a ∈ Bundle.stringAtoms, a.before a0 Z = true) (wl : (Jvm.Cond.stringLink "java/lang/String" 7 "").before a0 Z = true) (hm : ("java/lang/String", 7) ∈ EL) {x b : Addr} {kb : ClassId} {v0 c0 : Value} (A : OA Z h0 b kb .char []) (hxf : Z.heap.size ≤ x) (E : Exa Z h0 x "java/lang/String") (Fc : Fld Z h0 x "java/lang/String" "coder" "B" c0) (Fv : Fld Z h0 x "java/lang/String" "value" "[B" v0) :
    OC l Z EL false [] mI1 jdk_42_method_3_code 2 none rmI1e #[.ref x, .ref b] h0 [x] (fun v _ h => v = none ∧ Keep h0 h [x] ∧ Str Z h x []) := by
  have hs := K.1
  refine oEnter (by decide +kernel) K.2.1 ?_
  intro p e s m below meth c T0 W0 S0
  refine oEq (g' := mkF m 0 #[.val (.ref x), .val (.ref b)] []) (by first | (simp [entryFrame, mkF, argsToLocals, Value.category]; done) | rfl) ?_
  refine oGo W0 [.aload_n 0, .aload_n 1, .iconst 0, .aload_n 1] (by decide +kernel) (ls' := #[.val (.ref x), .val (.ref b)]) (st' := [.ref b, .int 0, .ref b, .ref x]) rfl rfl (pc' := 4) rfl ?_
  refine oLen W0 A (by decide +kernel) ?_
  refine oGo W0 [.aconst_null] (by decide +kernel) (ls' := #[.val (.ref x), .val (.ref b)]) (st' := [.null, .int 0, .int 0, .ref b, .ref x]) rfl rfl (pc' := 6) rfl ?_
  obtain ⟨v1, T1, L1, h1, vm1, W1, ⟨rfl, K1, F1⟩, C1, st1⟩ := oCallN W0 (idx := 27) (pc := 6) (ls := #[.val (.ref x), .val (.ref b)]) (st := []) (a := x) (argsL := [.ref b, .int 0, .int 0, .null]) (k_I4e (h0 := h0) K hS wl hm hxf E Fc Fv)
    (fun y hy => by cases List.mem_singleton.mp hy; exact ⟨E.lt, S0 x (List.mem_singleton.mpr rfl)⟩) rfl (hs _ (List.mem_of_getElem? (i := 0) rfl)) (hs _ (List.mem_of_getElem? (i := 1) rfl)) (hs _ (List.mem_of_getElem? (i := 22) rfl)) (hs _ (List.mem_of_getElem? (i := 2) rfl)) (by decide) (na := 4) rfl (by decide +kernel) rfl (stk := [.null, .int 0, .int 0, .ref b, .ref x]) rfl (by decide +kernel) (V := 0) (lb rfl) (lb rfl) (lb rfl) (lb rfl) (lb rfl)
  refine oLift st1 ?_
  exact oRet0 W1 (by decide +kernel) (lb rfl) (lb rfl) (fun _ _ => ⟨rfl, K1, F1⟩)
end OwnStrE
end Jvm.Pilot.@@N@@
namespace Jvm.Pilot.@@N@@
open Jvm Jvm.ClassFile Sem Op Lib Jvm.Free Jvm.Stand Jvm.LawKit Jvm.RoadKit Bundle Jvm.Pilot.@@N@@.Jvm.D Jvm.OwnK
abbrev EL : List (String × Nat) := [("java/lang/String", 7)]
theorem sA_in : ∀ d ∈ Bundle.stringAtoms, d ∈ tables_1 := by decide +kernel
def Sx (Z : State) : Prop := ∃ v, Sta Z Z.heap "jdk/internal/util/Preconditions" "SIOOBE_FORMATTER" "Ljava/util/function/BiFunction;" v ∧ v.isRef = true
def Ux (Z : State) : Prop := Sta Z Z.heap "java/lang/StringUTF16" "$assertionsDisabled" "Z" (.int 1) ∧ Sta Z Z.heap "java/lang/StringUTF16" "HI_BYTE_SHIFT" "I" (.int 0) ∧ Sta Z Z.heap "java/lang/StringUTF16" "LO_BYTE_SHIFT" "I" (.int 8)
/-- a String of chars, in UTF16 -/
def StrU (Z : State) (h : Heap) (x : Addr) (cs : List Int32) : Prop := ∃ t k, Exa Z h x "java/lang/String" ∧ Fld Z h x "java/lang/String" "coder" "B" (.int 1) ∧ Fld Z h x "java/lang/String" "value" "[B" (.ref t) ∧ OA Z h t k .byte (enc cs)
def AStr (Z : State) (h : Heap) (x : Addr) (cs : List Int32) : Prop := Str Z h x cs ∨ StrU Z h x cs
theorem AStr.ext {Z : State} {h h' : Heap} {x : Addr} {cs : List Int32} (F : AStr Z h x cs) (E : Ext h h') : AStr Z h' x cs := by
  rcases F with F | ⟨t, k, h1, h2, h3, h4⟩
  · exact Or.inl (F.ext E)
  · exact Or.inr ⟨t, k, h1.ext E, h2.ext E, h3.ext E, h4.ext E⟩
theorem AStr.exa {Z : State} {h : Heap} {x : Addr} {cs : List Int32} (F : AStr Z h x cs) : Exa Z h x "java/lang/String" := by
  rcases F with F | ⟨t, k, h1, -⟩
  · exact F.exa
  · exact h1
theorem bigAt_lt : ∀ {cs : List Int32}, bigAt cs < cs.length → ∃ c, cs[bigAt cs]? = some c ∧ (255 : Int32) < c
  | [], h => absurd h (by simp [bigAt])
  | c :: cs, h => by
    by_cases q : (255 : Int32) < c
    · exact ⟨c, by rw [bigAt, if_pos q]; rfl, q⟩
    · rw [bigAt, if_neg q] at h ⊢
      obtain ⟨d, h1, h2⟩ := bigAt_lt (cs := cs) (by simpa using h)
      exact ⟨d, by simpa using h1, h2⟩
theorem bigAt_ge : ∀ {cs : List Int32}, ¬ bigAt cs < cs.length → ∀ c ∈ cs, ¬ (255 : Int32) < c
  | [], _, c, hc => nomatch hc
  | d :: cs, h, c, hc => by
    by_cases q : (255 : Int32) < d
    · rw [bigAt, if_pos q] at h; exact absurd (Nat.succ_pos _) h
    · rw [bigAt, if_neg q] at h
      rcases List.mem_cons.mp hc with rfl | hc
      · exact q
      · exact bigAt_ge (cs := cs) (by simpa using h) c hc
def Ctx (Z : State) (a0 : Array Value) : Prop := (∀ d ∈ tables_1, d.before a0 Z = true) ∧ SC Z a0 EL ∧ (∀ a ∈ Bundle.stringAtoms, a.before a0 Z = true) ∧ Sx Z ∧ Ux Z ∧ True
def bc (c : Int32) : Int32 := if c = 32 then 1 else if c = 9 then 1 else 0
def blk : List Int32 → Int32
  | [] => 1
  | c :: cs => if bc c = 0 then 0 else blk cs
theorem own_rem5 (x : Int32) : ((x &&& (2147483647 : Int32)) % (5 : Int32)) = 0 ∨ ((x &&& (2147483647 : Int32)) % (5 : Int32)) = 1 ∨ ((x &&& (2147483647 : Int32)) % (5 : Int32)) = 2 ∨ ((x &&& (2147483647 : Int32)) % (5 : Int32)) = 3 ∨ ((x &&& (2147483647 : Int32)) % (5 : Int32)) = 4 := by
  have h := c_and x 2147483647 (by decide)
  have e := (c_irem (x &&& 2147483647) 5 5 rfl).1 h.1
  have : ((x &&& (2147483647 : Int32)) % (5 : Int32)).toInt = 0 ∨ ((x &&& (2147483647 : Int32)) % (5 : Int32)).toInt = 1 ∨ ((x &&& (2147483647 : Int32)) % (5 : Int32)).toInt = 2 ∨ ((x &&& (2147483647 : Int32)) % (5 : Int32)).toInt = 3 ∨ ((x &&& (2147483647 : Int32)) % (5 : Int32)).toInt = 4 := by omega
  rcases this with q | q | q | q | q
  · exact Or.inl (Int32.toInt_inj.mp q)
  · exact Or.inr (Or.inl (Int32.toInt_inj.mp q))
  · exact Or.inr (Or.inr (Or.inl (Int32.toInt_inj.mp q)))
  · exact Or.inr (Or.inr (Or.inr (Or.inl (Int32.toInt_inj.mp q))))
  · exact Or.inr (Or.inr (Or.inr (Or.inr (Int32.toInt_inj.mp q))))
abbrev rm_c_coder : Room := { frames := 0, cells := 0, slots := 0, locals := 0 }
set_option maxRecDepth 65536 in
set_option maxHeartbeats 40000000 in
theorem c_coder {l : Launch} {Z : State} {a0 : Array Value} {nb : Bool} (K : Ctx Z a0) {x : Addr} {h0 : Heap} {n : Int32} (hn : nar .byte n = n) (F : Fld Z h0 x "java/lang/String" "coder" "B" (.int n)) :
    OC l Z EL nb [] (⟨"java/lang/String", "coder", "()B"⟩ : MethodName) jdk_42_method_152_code 1 (some .byte) rm_c_coder #[(.ref x)] h0 [] (fun v _ h => v = some (.int n) ∧ h = h0) := by
  have hw := K.1
  have hS : ∀ a ∈ Bundle.stringAtoms, a.before a0 Z = true := K.2.2.1
  obtain ⟨z, hz, hz0⟩ := K.2.1.2.2
  refine oEnter (by decide +kernel) K.2.1.2.1 ?_
  intro _p _e _s m _below _meth _c T0 W0 S0
  refine oEq (g' := mkF m 0 #[.val (.ref x)] []) (by first | (simp [entryFrame, mkF, argsToLocals, Value.category]; done) | rfl) ?_
  obtain ⟨T1, W1, st1⟩ := oGetS W0 (pc := 0) (ls := #[.val (.ref x)]) (st := []) (hw _ (List.mem_of_getElem? (i := 41) rfl)) Via.refl (hz.ext W0.ext) (by decide +kernel)
  refine oLift st1 ?_
  refine oIfF W1 (cd := .eq) (o := 10) (by decide +kernel) (XT.i0_eq_f hz0) (pc' := 6) rfl ?_
  refine oGo W1 [.aload_n 0] (by decide +kernel) (ls' := #[.val (.ref x)]) (st' := [(.ref x)]) rfl rfl (pc' := 7) rfl ?_
  obtain ⟨T2, W2, st2⟩ := oGetF W1 (pc := 7) (ls := #[.val (.ref x)]) (st := []) (hw _ (List.mem_of_getElem? (i := 26) rfl)) Via.refl F (by decide +kernel)
  refine oLift st2 ?_
  refine oGo W2 [.goto 4] (by decide +kernel) (ls' := #[.val (.ref x)]) (st' := [(.int n)]) rfl rfl (pc' := 14) rfl ?_
  exact oRetN (by simp) W2 hn (by decide +kernel) (lb rfl) (lb rfl) (fun vm' hv => ⟨rfl, rfl⟩)
abbrev rm_c_len : Room := { frames := 1, cells := 0, slots := 0, locals := 13 }
set_option maxRecDepth 65536 in
set_option maxHeartbeats 40000000 in
theorem c_len {l : Launch} {Z : State} {a0 : Array Value} {nb : Bool} (K : Ctx Z a0) {x : Addr} {cs : List Int32} {h0 : Heap} (F : Str Z h0 x cs) :
    OC l Z EL nb [] (⟨"java/lang/String", "length", "()I"⟩ : MethodName) jdk_42_method_54_code 1 (some .int) rm_c_len #[(.ref x)] h0 [] (fun v _ h => v = some (.int (Int32.ofNat cs.length)) ∧ h = h0) := by
  have hw := K.1
  have hS : ∀ a ∈ Bundle.stringAtoms, a.before a0 Z = true := K.2.2.1
  obtain ⟨t, kt, X1, Fc, Fv, A, P⟩ := id F
  refine oEnter (by decide +kernel) K.2.1.2.1 ?_
  intro _p _e _s m _below _meth _c T0 W0 S0
  refine oEq (g' := mkF m 0 #[.val (.ref x)] []) (by first | (simp [entryFrame, mkF, argsToLocals, Value.category]; done) | rfl) ?_
  refine oGo W0 [.aload_n 0] (by decide +kernel) (ls' := #[.val (.ref x)]) (st' := [(.ref x)]) rfl rfl (pc' := 1) rfl ?_
  obtain ⟨T1, W1, st1⟩ := oGetF W0 (pc := 1) (ls := #[.val (.ref x)]) (st := []) (hw _ (List.mem_of_getElem? (i := 25) rfl)) Via.refl Fv (by decide +kernel)
  refine oLift st1 ?_
  refine oLen W1 A (by decide +kernel) ?_
  rw [List.length_map]
  refine oGo W1 [.aload_n 0] (by decide +kernel) (ls' := #[.val (.ref x)]) (st' := [(.ref x), (.int (Int32.ofNat cs.length))]) rfl rfl (pc' := 6) rfl ?_
  obtain ⟨v2, T2, L2, h2, vm2, W2, ⟨rfl, e2⟩, C2, st2⟩ := oCallV W1 (idx := 335) (pc := 6) (ls := #[.val (.ref x)]) (st := [(.int (Int32.ofNat cs.length))]) (argsL := []) X1 (c_coder K rfl Fc) (fun x hx => nomatch hx) (hw _ (List.mem_of_getElem? (i := 36) rfl)) (hw _ (List.mem_of_getElem? (i := 37) rfl)) (notFace_of_selects (args := #[]) (mvT W1.warm (hw _ (List.mem_of_getElem? (i := 39) rfl)))) (hw _ (List.mem_of_getElem? (i := 39) rfl)) (hw _ (List.mem_of_getElem? (i := 38) rfl)) (hw _ (List.mem_of_getElem? (i := 8) rfl)) (hw _ (List.mem_of_getElem? (i := 40) rfl)) (by decide) (na := 0) rfl (by decide +kernel) rfl (stk := [(.ref x), (.int (Int32.ofNat cs.length))]) rfl (by decide +kernel) (V := 1) (lb rfl) (lb rfl) (lb rfl) (lb rfl) (lb rfl)
  refine oLift st2 ?_
  rw [e2] at W2 C2
  show OG _ _ _ _ _ _ _ _ _ _ _ (mkF m 9 #[.val (.ref x)] [(.int (0 : Int32)), (.int (Int32.ofNat cs.length))])
  refine oGo W2 [.ishr] (by decide +kernel) (ls' := #[.val (.ref x)]) (st' := [(.int ((Int32.ofNat cs.length) >>> ((0 : Int32) &&& 31)))]) rfl rfl (pc' := 10) rfl ?_
  exact oRetI W2 (by decide +kernel) (lb rfl) (lb rfl) (fun vm' hv => ⟨by rw [shr0], rfl⟩)
abbrev rm_c_pci : Room := { frames := 0, cells := 0, slots := 0, locals := 0 }
set_option maxRecDepth 65536 in
set_option maxHeartbeats 40000000 in
theorem c_pci {l : Launch} {Z : State} {a0 : Array Value} {nb : Bool} (K : Ctx Z a0) {i n : Int32} {f : Value} {h0 : Heap} (h_f : f.isRef = true) (hi : ¬ i < 0) (hn : i < n) :
    OC l Z EL nb [] (⟨"jdk/internal/util/Preconditions", "checkIndex", "(IILjava/util/function/BiFunction;)I"⟩ : MethodName) jdk_41_method_11_code 3 (some .int) rm_c_pci #[(.int i), (.int n), f] h0 [] (fun v _ h => v = some (.int i) ∧ h = h0) := by
  have hw := K.1
  have hS : ∀ a ∈ Bundle.stringAtoms, a.before a0 Z = true := K.2.2.1
  refine oEnter (by decide +kernel) K.2.1.2.1 ?_
  intro _p _e _s m _below _meth _c T0 W0 S0
  refine oEq (g' := mkF m 0 #[.val (.int i), .val (.int n), .val f] []) ((own_ef (vs := [(.int i), (.int n), f]) (List.forall_mem_cons.mpr ⟨rfl, (List.forall_mem_cons.mpr ⟨rfl, (List.forall_mem_cons.mpr ⟨refCat h_f, (fun _ h => nomatch h)⟩)⟩)⟩)).trans rfl) ?_
  refine oGo W0 [.iload_n 0] (by decide +kernel) (ls' := #[.val (.int i), .val (.int n), .val f]) (st' := [(.int i)]) rfl rfl (pc' := 1) rfl ?_
  refine oIfF W0 (cd := .lt) (o := 8) (by decide +kernel) (XT.i0_lt_f hi) (pc' := 4) rfl ?_
  refine oGo W0 [.iload_n 0, .iload_n 1] (by decide +kernel) (ls' := #[.val (.int i), .val (.int n), .val f]) (st' := [(.int n), (.int i)]) rfl rfl (pc' := 6) rfl ?_
  refine oIcT W0 (cd := .lt) (o := 10) (by decide +kernel) (XT.ii_lt_t hn) (pc' := 16) (by decide) (by decide) ?_
  refine oGo W0 [.iload_n 0] (by decide +kernel) (ls' := #[.val (.int i), .val (.int n), .val f]) (st' := [(.int i)]) rfl rfl (pc' := 17) rfl ?_
  exact oRetI W0 (by decide +kernel) (lb rfl) (lb rfl) (fun vm' hv => ⟨rfl, rfl⟩)
abbrev rm_c_sci : Room := { frames := 1, cells := 0, slots := 0, locals := 14 }
set_option maxRecDepth 65536 in
set_option maxHeartbeats 40000000 in
theorem c_sci {l : Launch} {Z : State} {a0 : Array Value} {nb : Bool} (K : Ctx Z a0) {i n : Int32} {h0 : Heap} (G : Sx Z) (hi : ¬ i < 0) (hn : i < n) :
    OC l Z EL nb [] (⟨"java/lang/String", "checkIndex", "(II)V"⟩ : MethodName) jdk_42_method_155_code 2 none rm_c_sci #[(.int i), (.int n)] h0 [] (fun v _ h => v = none ∧ h = h0) := by
  have hw := K.1
  have hS : ∀ a ∈ Bundle.stringAtoms, a.before a0 Z = true := K.2.2.1
  obtain ⟨f, hf, h_f⟩ := G
  refine oEnter (by decide +kernel) K.2.1.2.1 ?_
  intro _p _e _s m _below _meth _c T0 W0 S0
  refine oEq (g' := mkF m 0 #[.val (.int i), .val (.int n)] []) (by first | (simp [entryFrame, mkF, argsToLocals, Value.category]; done) | rfl) ?_
  refine oGo W0 [.iload_n 0, .iload_n 1] (by decide +kernel) (ls' := #[.val (.int i), .val (.int n)]) (st' := [(.int n), (.int i)]) rfl rfl (pc' := 2) rfl ?_
  obtain ⟨T1, W1, st1⟩ := oGetS W0 (pc := 2) (ls := #[.val (.int i), .val (.int n)]) (st := [(.int n), (.int i)]) (hw _ (List.mem_of_getElem? (i := 72) rfl)) Via.refl (hf.ext W0.ext) (by decide +kernel)
  refine oLift st1 ?_
  obtain ⟨v2, T2, L2, h2, vm2, W2, ⟨rfl, e2⟩, C2, st2⟩ := oCallS W1 (idx := 1059) (pc := 5) (ls := #[.val (.int i), .val (.int n)]) (st := []) (argsL := [(.int i), (.int n), f]) (c_pci K h_f hi hn) (fun x hx => nomatch hx) (hw _ (List.mem_of_getElem? (i := 74) rfl)) (hw _ (List.mem_of_getElem? (i := 75) rfl)) (hw _ (List.mem_of_getElem? (i := 73) rfl)) (hw _ (List.mem_of_getElem? (i := 76) rfl)) (by decide) (na := 3) rfl (by decide +kernel) rfl (stk := [f, (.int n), (.int i)]) rfl (by decide +kernel) (V := 0) (lb rfl) (lb rfl) (lb rfl) (lb rfl) (lb rfl)
  refine oLift st2 ?_
  rw [e2] at W2 C2
  show OG _ _ _ _ _ _ _ _ _ _ _ (mkF m 8 #[.val (.int i), .val (.int n)] [(.int i)])
  refine oGo W2 [.pop] (by decide +kernel) (ls' := #[.val (.int i), .val (.int n)]) (st' := []) rfl rfl (pc' := 9) rfl ?_
  exact oRet0 W2 (by decide +kernel) (lb rfl) (lb rfl) (fun vm' hv => ⟨rfl, rfl⟩)
abbrev rm_c_isl : Room := { frames := 0, cells := 0, slots := 0, locals := 0 }
set_option maxRecDepth 65536 in
set_option maxHeartbeats 40000000 in
theorem c_isl {l : Launch} {Z : State} {a0 : Array Value} {nb : Bool} (K : Ctx Z a0) {x : Addr} {h0 : Heap} {n : Int32} (F : Fld Z h0 x "java/lang/String" "coder" "B" (.int n)) :
    OC l Z EL nb [] (⟨"java/lang/String", "isLatin1", "()Z"⟩ : MethodName) jdk_42_method_154_code 1 (some .boolean) rm_c_isl #[(.ref x)] h0 [] (fun v _ h => v = some (.int (if n = 0 then 1 else 0)) ∧ h = h0) := by
  have hw := K.1
  have hS : ∀ a ∈ Bundle.stringAtoms, a.before a0 Z = true := K.2.2.1
  obtain ⟨z, hz, hz0⟩ := K.2.1.2.2
  refine oEnter (by decide +kernel) K.2.1.2.1 ?_
  intro _p _e _s m _below _meth _c T0 W0 S0
  refine oEq (g' := mkF m 0 #[.val (.ref x)] []) (by first | (simp [entryFrame, mkF, argsToLocals, Value.category]; done) | rfl) ?_
  obtain ⟨T1, W1, st1⟩ := oGetS W0 (pc := 0) (ls := #[.val (.ref x)]) (st := []) (hw _ (List.mem_of_getElem? (i := 41) rfl)) Via.refl (hz.ext W0.ext) (by decide +kernel)
  refine oLift st1 ?_
  refine oIfF W1 (cd := .eq) (o := 14) (by decide +kernel) (XT.i0_eq_f hz0) (pc' := 6) rfl ?_
  refine oGo W1 [.aload_n 0] (by decide +kernel) (ls' := #[.val (.ref x)]) (st' := [(.ref x)]) rfl rfl (pc' := 7) rfl ?_
  obtain ⟨T2, W2, st2⟩ := oGetF W1 (pc := 7) (ls := #[.val (.ref x)]) (st := []) (hw _ (List.mem_of_getElem? (i := 26) rfl)) Via.refl F (by decide +kernel)
  refine oLift st2 ?_
  by_cases hc3 : n = (0 : Int32)
  · refine oIfF W2 (cd := .ne) (o := 7) (by decide +kernel) (XT.i0_ne_f hc3) (pc' := 13) rfl ?_
    refine oGo W2 [.iconst 1, .goto 4] (by decide +kernel) (ls' := #[.val (.ref x)]) (st' := [(.int (1 : Int32))]) rfl rfl (pc' := 18) rfl ?_
    exact oRetN (by simp) W2 rfl (by decide +kernel) (lb rfl) (lb rfl) (fun vm' hv => ⟨by rw [if_pos hc3], rfl⟩)
  refine oIfT W2 (cd := .ne) (o := 7) (by decide +kernel) (XT.i0_ne_t hc3) (pc' := 17) (by decide) (by decide) ?_
  refine oGo W2 [.iconst 0] (by decide +kernel) (ls' := #[.val (.ref x)]) (st' := [(.int (0 : Int32))]) rfl rfl (pc' := 18) rfl ?_
  exact oRetN (by simp) W2 rfl (by decide +kernel) (lb rfl) (lb rfl) (fun vm' hv => ⟨by rw [if_neg hc3], rfl⟩)
abbrev rm_c_lch : Room := { frames := 2, cells := 0, slots := 0, locals := 27 }
set_option maxRecDepth 65536 in
set_option maxHeartbeats 40000000 in
theorem c_lch {l : Launch} {Z : State} {a0 : Array Value} {nb : Bool} (K : Ctx Z a0) {t : Addr} {kt : ClassId} {cs : List Int32} {i : Int32} {h0 : Heap} (G : Sx Z) (A : OA Z h0 t kt .byte (cs.map fun c => .int c.toInt8.toInt32)) (P : ∀ c ∈ cs, ¬ c < 0 ∧ ¬ (255 : Int32) < c) (hl : cs.length ≤ 4000) (hi : ¬ i < 0) {c : Int32} (hc : cs[i.toNatClampNeg]? = some c) :
    OC l Z EL nb [] (⟨"java/lang/StringLatin1", "charAt", "([BI)C"⟩ : MethodName) jdk_43_method_2_code 2 (some .char) rm_c_lch #[(.ref t), (.int i)] h0 [] (fun v _ h => v = some (.int c) ∧ h = h0) := by
  have hw := K.1
  have hS : ∀ a ∈ Bundle.stringAtoms, a.before a0 Z = true := K.2.2.1
  have hlt : i < Int32.ofNat cs.length := own_ltn hi hl (List.getElem?_eq_some_iff.mp hc).1
  have hP := P c (List.mem_of_getElem? hc)
  refine oEnter (by decide +kernel) K.2.1.2.1 ?_
  intro _p _e _s m _below _meth _c T0 W0 S0
  refine oEq (g' := mkF m 0 #[.val (.ref t), .val (.int i)] []) (by first | (simp [entryFrame, mkF, argsToLocals, Value.category]; done) | rfl) ?_
  refine oGo W0 [.iload_n 1, .aload_n 0] (by decide +kernel) (ls' := #[.val (.ref t), .val (.int i)]) (st' := [(.ref t), (.int i)]) rfl rfl (pc' := 2) rfl ?_
  refine oLen W0 A (by decide +kernel) ?_
  rw [List.length_map]
  obtain ⟨v1, T1, L1, h1, vm1, W1, ⟨rfl, e1⟩, C1, st1⟩ := oCallS W0 (idx := 9) (pc := 3) (ls := #[.val (.ref t), .val (.int i)]) (st := []) (argsL := [(.int i), (.int (Int32.ofNat cs.length))]) (c_sci K G hi hlt) (fun x hx => nomatch hx) (hw _ (List.mem_of_getElem? (i := 69) rfl)) (hw _ (List.mem_of_getElem? (i := 70) rfl)) (hw _ (List.mem_of_getElem? (i := 8) rfl)) (hw _ (List.mem_of_getElem? (i := 71) rfl)) (by decide) (na := 2) rfl (by decide +kernel) rfl (stk := [(.int (Int32.ofNat cs.length)), (.int i)]) rfl (by decide +kernel) (V := 0) (lb rfl) (lb rfl) (lb rfl) (lb rfl) (lb rfl)
  refine oLift st1 ?_
  rw [e1] at W1 C1
  show OG _ _ _ _ _ _ _ _ _ _ _ (mkF m 6 #[.val (.ref t), .val (.int i)] [])
  refine oGo W1 [.aload_n 0, .iload_n 1] (by decide +kernel) (ls' := #[.val (.ref t), .val (.int i)]) (st' := [(.int i), (.ref t)]) rfl rfl (pc' := 8) rfl ?_
  refine oGet W1 A (v := (.int c.toInt8.toInt32)) hi (by rw [List.getElem?_map, hc]; rfl) (Or.inr (Or.inl ⟨rfl, rfl⟩)) (by decide +kernel) ?_
  refine oGo W1 [.sipush 255, .iand, .i2c] (by decide +kernel) (ls' := #[.val (.ref t), .val (.int i)]) (st' := [(.int ((c.toInt8.toInt32 &&& (255 : Int32)).toUInt32.toUInt16.toUInt32.toInt32))]) rfl rfl (pc' := 14) rfl ?_
  rw [own_lo8c hP]
  exact oRetN (by simp) W1 (narC hP) (by decide +kernel) (lb rfl) (lb rfl) (fun vm' hv => ⟨rfl, rfl⟩)
abbrev rm_c_chr : Room := { frames := 3, cells := 0, slots := 0, locals := 40 }
set_option maxRecDepth 65536 in
set_option maxHeartbeats 40000000 in
theorem c_chr {l : Launch} {Z : State} {a0 : Array Value} {nb : Bool} (K : Ctx Z a0) {x : Addr} {cs : List Int32} {i : Int32} {h0 : Heap} (G : Sx Z) (F : Str Z h0 x cs) (hl : cs.length ≤ 4000) (hi : ¬ i < 0) {c : Int32} (hc : cs[i.toNatClampNeg]? = some c) :
    OC l Z EL nb [] (⟨"java/lang/String", "charAt", "(I)C"⟩ : MethodName) jdk_42_method_56_code 2 (some .char) rm_c_chr #[(.ref x), (.int i)] h0 [] (fun v _ h => v = some (.int c) ∧ h = h0) := by
  have hw := K.1
  have hS : ∀ a ∈ Bundle.stringAtoms, a.before a0 Z = true := K.2.2.1
  obtain ⟨t, kt, X1, Fc, Fv, A, P⟩ := id F
  have hP := P c (List.mem_of_getElem? hc)
  refine oEnter (by decide +kernel) K.2.1.2.1 ?_
  intro _p _e _s m _below _meth _c T0 W0 S0
  refine oEq (g' := mkF m 0 #[.val (.ref x), .val (.int i)] []) (by first | (simp [entryFrame, mkF, argsToLocals, Value.category]; done) | rfl) ?_
  refine oGo W0 [.aload_n 0] (by decide +kernel) (ls' := #[.val (.ref x), .val (.int i)]) (st' := [(.ref x)]) rfl rfl (pc' := 1) rfl ?_
  obtain ⟨v1, T1, L1, h1, vm1, W1, ⟨rfl, e1⟩, C1, st1⟩ := oCallV W0 (idx := 492) (pc := 1) (ls := #[.val (.ref x), .val (.int i)]) (st := []) (argsL := []) X1 (c_isl K Fc) (fun x hx => nomatch hx) (hw _ (List.mem_of_getElem? (i := 60) rfl)) (hw _ (List.mem_of_getElem? (i := 61) rfl)) (notFace_of_selects (args := #[]) (mvT W0.warm (hw _ (List.mem_of_getElem? (i := 63) rfl)))) (hw _ (List.mem_of_getElem? (i := 63) rfl)) (hw _ (List.mem_of_getElem? (i := 62) rfl)) (hw _ (List.mem_of_getElem? (i := 8) rfl)) (hw _ (List.mem_of_getElem? (i := 64) rfl)) (by decide) (na := 0) rfl (by decide +kernel) rfl (stk := [(.ref x)]) rfl (by decide +kernel) (V := 0) (lb rfl) (lb rfl) (lb rfl) (lb rfl) (lb rfl)
  refine oLift st1 ?_
  rw [e1] at W1 C1
  show OG _ _ _ _ _ _ _ _ _ _ _ (mkF m 4 #[.val (.ref x), .val (.int i)] [(.int (1 : Int32))])
  refine oIfF W1 (cd := .eq) (o := 12) (by decide +kernel) (XT.i0_eq_f (by decide)) (pc' := 7) rfl ?_
  refine oGo W1 [.aload_n 0] (by decide +kernel) (ls' := #[.val (.ref x), .val (.int i)]) (st' := [(.ref x)]) rfl rfl (pc' := 8) rfl ?_
  obtain ⟨T2, W2, st2⟩ := oGetF W1 (pc := 8) (ls := #[.val (.ref x), .val (.int i)]) (st := []) (hw _ (List.mem_of_getElem? (i := 25) rfl)) Via.refl Fv (by decide +kernel)
  refine oLift st2 ?_
  refine oGo W2 [.iload_n 1] (by decide +kernel) (ls' := #[.val (.ref x), .val (.int i)]) (st' := [(.int i), (.ref t)]) rfl rfl (pc' := 12) rfl ?_
  obtain ⟨v3, T3, L3, h3, vm3, W3, ⟨rfl, e3⟩, C3, st3⟩ := oCallS W2 (idx := 495) (pc := 12) (ls := #[.val (.ref x), .val (.int i)]) (st := []) (argsL := [(.ref t), (.int i)]) (c_lch K G A P hl hi hc) (fun x hx => nomatch hx) (hw _ (List.mem_of_getElem? (i := 65) rfl)) (hw _ (List.mem_of_getElem? (i := 66) rfl)) (hw _ (List.mem_of_getElem? (i := 67) rfl)) (hw _ (List.mem_of_getElem? (i := 68) rfl)) (by decide) (na := 2) rfl (by decide +kernel) rfl (stk := [(.int i), (.ref t)]) rfl (by decide +kernel) (V := 0) (lb rfl) (lb rfl) (lb rfl) (lb rfl) (lb rfl)
  refine oLift st3 ?_
  rw [e3] at W3 C3
  show OG _ _ _ _ _ _ _ _ _ _ _ (mkF m 15 #[.val (.ref x), .val (.int i)] [(.int c)])
  exact oRetN (by simp) W3 (narC hP) (by decide +kernel) (lb rfl) (lb rfl) (fun vm' hv => ⟨rfl, rfl⟩)
abbrev rm_c_ul : Room := { frames := 0, cells := 0, slots := 0, locals := 0 }
set_option maxRecDepth 65536 in
set_option maxHeartbeats 40000000 in
theorem c_ul {l : Launch} {Z : State} {a0 : Array Value} {nb : Bool} (K : Ctx Z a0) {t : Addr} {k : ClassId} {vs : List Value} {n : Nat} {h0 : Heap} (A : OA Z h0 t k .byte vs) (hv : vs.length = 2 * n) (hn : n ≤ 4) :
    OC l Z EL nb [] (⟨"java/lang/StringUTF16", "length", "([B)I"⟩ : MethodName) jdk_52_method_6_code 1 (some .int) rm_c_ul #[(.ref t)] h0 [] (fun v _ h => v = some (.int (Int32.ofNat n)) ∧ h = h0) := by
  have hw := K.1
  have hS : ∀ a ∈ Bundle.stringAtoms, a.before a0 Z = true := K.2.2.1
  refine oEnter (by decide +kernel) K.2.1.2.1 ?_
  intro _p _e _s m _below _meth _c T0 W0 S0
  refine oEq (g' := mkF m 0 #[.val (.ref t)] []) (by first | (simp [entryFrame, mkF, argsToLocals, Value.category]; done) | rfl) ?_
  refine oGo W0 [.aload_n 0] (by decide +kernel) (ls' := #[.val (.ref t)]) (st' := [(.ref t)]) rfl rfl (pc' := 1) rfl ?_
  refine oLen W0 A (by decide +kernel) ?_
  rw [hv]
  refine oGo W0 [.iconst 1, .ishr] (by decide +kernel) (ls' := #[.val (.ref t)]) (st' := [(.int ((Int32.ofNat (2 * n)) >>> ((1 : Int32) &&& 31)))]) rfl rfl (pc' := 4) rfl ?_
  rw [shr1 (by omega)]
  exact oRetI W0 (by decide +kernel) (lb rfl) (lb rfl) (fun vm' hv => ⟨rfl, rfl⟩)
abbrev rm_c_nbl : Room := { frames := 0, cells := 0, slots := 0, locals := 0 }
set_option maxRecDepth 65536 in
set_option maxHeartbeats 40000000 in
theorem c_nbl {l : Launch} {Z : State} {a0 : Array Value} {nb : Bool} (K : Ctx Z a0) {n : Nat} {h0 : Heap} (hn : n ≤ 4) :
    OC l Z EL nb [] (⟨"java/lang/StringUTF16", "newBytesLength", "(I)I"⟩ : MethodName) jdk_52_method_3_code 1 (some .int) rm_c_nbl #[(.int (Int32.ofNat n))] h0 [] (fun v _ h => v = some (.int (Int32.ofNat (2 * n))) ∧ h = h0) := by
  have hw := K.1
  have hS : ∀ a ∈ Bundle.stringAtoms, a.before a0 Z = true := K.2.2.1
  refine oEnter (by decide +kernel) K.2.1.2.1 ?_
  intro _p _e _s m _below _meth _c T0 W0 S0
  refine oEq (g' := mkF m 0 #[.val (.int (Int32.ofNat n))] []) (by first | (simp [entryFrame, mkF, argsToLocals, Value.category]; done) | rfl) ?_
  refine oGo W0 [.iload_n 0] (by decide +kernel) (ls' := #[.val (.int (Int32.ofNat n))]) (st' := [(.int (Int32.ofNat n))]) rfl rfl (pc' := 1) rfl ?_
  refine oIfT W0 (cd := .ge) (o := 11) (by decide +kernel) (XT.i0_ge_t (n_nn (by omega))) (pc' := 12) (by decide) (by decide) ?_
  refine oGo W0 [.iload_n 0] (by decide +kernel) (ls' := #[.val (.int (Int32.ofNat n))]) (st' := [(.int (Int32.ofNat n))]) rfl rfl (pc' := 13) rfl ?_
  refine oLdcI W0 (hw _ (List.mem_of_getElem? (i := 86) rfl)) (by decide +kernel) ?_
  refine oIcT W0 (cd := .lt) (o := 40) (by decide +kernel) (XT.ii_lt_t ((n_lt (b := 1073741823) (by omega) (by omega)).mpr (by omega))) (pc' := 55) (by decide) (by decide) ?_
  refine oGo W0 [.iload_n 0, .iconst 1, .ishl] (by decide +kernel) (ls' := #[.val (.int (Int32.ofNat n))]) (st' := [(.int ((Int32.ofNat n) <<< ((1 : Int32) &&& 31)))]) rfl rfl (pc' := 58) rfl ?_
  rw [shl1 (by omega)]
  exact oRetI W0 (by decide +kernel) (lb rfl) (lb rfl) (fun vm' hv => ⟨rfl, rfl⟩)
abbrev rm_c_nbf : Room := { frames := 1, cells := 1, slots := 8, locals := 12 }
set_option maxRecDepth 65536 in
set_option maxHeartbeats 40000000 in
theorem c_nbf {l : Launch} {Z : State} {a0 : Array Value} {nb : Bool} (K : Ctx Z a0) {n : Nat} {h0 : Heap} (hn : n ≤ 4) :
    OC l Z EL nb [] (⟨"java/lang/StringUTF16", "newBytesFor", "(I)[B"⟩ : MethodName) jdk_52_method_2_code 1 (some (.array .byte)) rm_c_nbf #[(.int (Int32.ofNat n))] h0 [] (fun v vm h => ∃ d kd, v = some (.ref d) ∧ h0.size ≤ d ∧ Ext h0 h ∧ OA Z h d kd .byte (List.replicate (2 * n) (.int 0)) ∧ Safe Z EL vm h d) := by
  have hw := K.1
  have hS : ∀ a ∈ Bundle.stringAtoms, a.before a0 Z = true := K.2.2.1
  refine oEnter (by decide +kernel) K.2.1.2.1 ?_
  intro _p _e _s m _below _meth _c T0 W0 S0
  refine oEq (g' := mkF m 0 #[.val (.int (Int32.ofNat n))] []) (by first | (simp [entryFrame, mkF, argsToLocals, Value.category]; done) | rfl) ?_
  refine oGo W0 [.iload_n 0] (by decide +kernel) (ls' := #[.val (.int (Int32.ofNat n))]) (st' := [(.int (Int32.ofNat n))]) rfl rfl (pc' := 1) rfl ?_
  obtain ⟨v1, T1, L1, h1, vm1, W1, ⟨rfl, e1⟩, C1, st1⟩ := oCallS W0 (idx := 11) (pc := 1) (ls := #[.val (.int (Int32.ofNat n))]) (st := []) (argsL := [(.int (Int32.ofNat n))]) (c_nbl K hn) (fun x hx => nomatch hx) (hw _ (List.mem_of_getElem? (i := 83) rfl)) (hw _ (List.mem_of_getElem? (i := 84) rfl)) (hw _ (List.mem_of_getElem? (i := 47) rfl)) (hw _ (List.mem_of_getElem? (i := 85) rfl)) (by decide) (na := 1) rfl (by decide +kernel) rfl (stk := [(.int (Int32.ofNat n))]) rfl (by decide +kernel) (V := 0) (lb rfl) (lb rfl) (lb rfl) (lb rfl) (lb rfl)
  refine oLift st1 ?_
  rw [e1] at W1 C1
  show OG _ _ _ _ _ _ _ _ _ _ _ (mkF m 4 #[.val (.int (Int32.ofNat n))] [(.int (Int32.ofNat (2 * n)))])
  obtain ⟨T2, h2, d, kd, W2, g2, E2, A2, S2, C2, st2⟩ := oNewA W1 (aty := .byte) (pc := 4) (ls := #[.val (.int (Int32.ofNat n))]) (st := []) (hw _ (List.mem_of_getElem? (i := 20) rfl)) (by decide +kernel) (n := Int32.ofNat (2 * n)) (n_nn (by omega)) (cap := 8) (by rw [n_cl (by omega)]; omega) (lb rfl) (lb rfl) (lb rfl)
  refine oLift st2 ?_
  rw [n_cl (by omega)] at A2
  exact oRetA rfl W2 rfl rfl (by decide +kernel) (lb rfl) (lb rfl) (fun vm' hv => ⟨d, kd, rfl, g2, E2, A2, hv.safe A2.lt S2⟩)
abbrev rm_c_pc : Room := { frames := 0, cells := 0, slots := 0, locals := 0 }
set_option maxRecDepth 65536 in
set_option maxHeartbeats 40000000 in
theorem c_pc {l : Launch} {Z : State} {a0 : Array Value} {nb : Bool} (K : Ctx Z a0) {d : Addr} {kd : ClassId} {vs : List Value} {i : Nat} {c : Int32} {h0 : Heap} (hi : 2 * i + 1 < vs.length) (hl : vs.length ≤ 8) (B : OA Z h0 d kd .byte vs) (hdf : Z.heap.size ≤ d) :
    OC l Z EL nb [] (⟨"java/lang/StringUTF16", "putChar", "([BII)V"⟩ : MethodName) jdk_52_method_4_code 3 none rm_c_pc #[(.ref d), (.int (Int32.ofNat i)), (.int c)] h0 [d] (fun v _ h => v = none ∧ Keep h0 h [d] ∧ OA Z h d kd .byte ((vs.set (2 * i) (.int (el c))).set (2 * i + 1) (.int (eh c)))) := by
  have hw := K.1
  have hS : ∀ a ∈ Bundle.stringAtoms, a.before a0 Z = true := K.2.2.1
  have U := K.2.2.2.2.1
  refine oEnter (by decide +kernel) K.2.1.2.1 ?_
  intro _p _e _s m _below _meth _c T0 W0 S0
  refine oEq (g' := mkF m 0 #[.val (.ref d), .val (.int (Int32.ofNat i)), .val (.int c)] []) (by first | (simp [entryFrame, mkF, argsToLocals, Value.category]; done) | rfl) ?_
  obtain ⟨T1, W1, st1⟩ := oGetS W0 (pc := 0) (ls := #[.val (.ref d), .val (.int (Int32.ofNat i)), .val (.int c)]) (st := []) (hw _ (List.mem_of_getElem? (i := 90) rfl)) Via.refl (U.1.ext W0.ext) (by decide +kernel)
  refine oLift st1 ?_
  refine oIfT W1 (cd := .ne) (o := 25) (by decide +kernel) (XT.i0_ne_t (by decide)) (pc' := 28) (by decide) (by decide) ?_
  refine oGo W1 [.iload_n 1, .iconst 1, .ishl, .istore_n 1, .aload_n 0, .iload_n 1, .iinc 1 1, .iload_n 2] (by decide +kernel) (ls' := #[.val (.ref d), .val (.int (((Int32.ofNat i) <<< ((1 : Int32) &&& 31)) + (1 : Int32))), .val (.int c)]) (st' := [(.int c), (.int ((Int32.ofNat i) <<< ((1 : Int32) &&& 31))), (.ref d)]) rfl rfl (pc' := 38) rfl ?_
  rw [shl1 (by omega), n_in]
  obtain ⟨T2, W2, st2⟩ := oGetS W1 (pc := 38) (ls := #[.val (.ref d), .val (.int (Int32.ofNat (2 * i + 1))), .val (.int c)]) (st := [(.int c), (.int (Int32.ofNat (2 * i))), (.ref d)]) (hw _ (List.mem_of_getElem? (i := 91) rfl)) Via.refl (U.2.1.ext W1.ext) (by decide +kernel)
  refine oLift st2 ?_
  refine oGo W2 [.ishr, .i2b] (by decide +kernel) (ls' := #[.val (.ref d), .val (.int (Int32.ofNat (2 * i + 1))), .val (.int c)]) (st' := [(.int ((c >>> ((0 : Int32) &&& 31)).toInt8.toInt32)), (.int (Int32.ofNat (2 * i))), (.ref d)]) rfl rfl (pc' := 43) rfl ?_
  obtain ⟨T3, h3, W3, Wr3, A3, C3, st3⟩ := oPut W2 B (j := Int32.ofNat (2 * i)) (x := ((c >>> ((0 : Int32) &&& 31)).toInt8.toInt32)) (x' := el c) (pc := 43) (ls := #[.val (.ref d), .val (.int (Int32.ofNat (2 * i + 1))), .val (.int c)]) (st := []) (n_nn (by omega)) (i := (2 * i)) (n_cl (by omega)) (by omega) hdf (S0 d (List.mem_singleton.mpr rfl)) (ins := .bastore) (Or.inr (Or.inl ⟨rfl, rfl, nar_b _⟩)) (by decide +kernel)
  refine oLift st3 ?_
  refine oGo W3 [.aload_n 0, .iload_n 1, .iload_n 2] (by decide +kernel) (ls' := #[.val (.ref d), .val (.int (Int32.ofNat (2 * i + 1))), .val (.int c)]) (st' := [(.int c), (.int (Int32.ofNat (2 * i + 1))), (.ref d)]) rfl rfl (pc' := 47) rfl ?_
  obtain ⟨T4, W4, st4⟩ := oGetS W3 (pc := 47) (ls := #[.val (.ref d), .val (.int (Int32.ofNat (2 * i + 1))), .val (.int c)]) (st := [(.int c), (.int (Int32.ofNat (2 * i + 1))), (.ref d)]) (hw _ (List.mem_of_getElem? (i := 92) rfl)) Via.refl (U.2.2.ext W3.ext) (by decide +kernel)
  refine oLift st4 ?_
  refine oGo W4 [.ishr, .i2b] (by decide +kernel) (ls' := #[.val (.ref d), .val (.int (Int32.ofNat (2 * i + 1))), .val (.int c)]) (st' := [(.int ((c >>> ((8 : Int32) &&& 31)).toInt8.toInt32)), (.int (Int32.ofNat (2 * i + 1))), (.ref d)]) rfl rfl (pc' := 52) rfl ?_
  obtain ⟨T5, h5, W5, Wr5, A5, C5, st5⟩ := oPut W4 A3 (j := Int32.ofNat (2 * i + 1)) (x := ((c >>> ((8 : Int32) &&& 31)).toInt8.toInt32)) (x' := eh c) (pc := 52) (ls := #[.val (.ref d), .val (.int (Int32.ofNat (2 * i + 1))), .val (.int c)]) (st := []) (n_nn (by omega)) (i := (2 * i + 1)) (n_cl (by omega)) (by rw [List.length_set]; omega) hdf (C3.safe B.lt (S0 d (List.mem_singleton.mpr rfl))) (ins := .bastore) (Or.inr (Or.inl ⟨rfl, rfl, nar_b _⟩)) (by decide +kernel)
  refine oLift st5 ?_
  exact oRet0 W5 (by decide +kernel) (lb rfl) (lb rfl) (fun vm' hv => ⟨rfl, ((Keep.refl _ [d]).wr Wr3 (Or.inl (List.mem_singleton.mpr rfl))).wr Wr5 (Or.inl (List.mem_singleton.mpr rfl)), A5⟩)
abbrev rm_c_tb : Room := { frames := 2, cells := 1, slots := 8, locals := 24 }
set_option maxRecDepth 65536 in
set_option maxHeartbeats 40000000 in
theorem c_tb_l {l : Launch} {Z : State} {a0 : Array Value} {nb : Bool} (K : Ctx Z a0) {b : Addr} {kb : ClassId} {cs : List Int32} {h0 : Heap} (hl : cs.length ≤ 4) (A : OA Z h0 b kb .char (cs.map Value.int)) {p : Program} {e : Env} {s : State} {m : MethodId} {args : Array Value} {below : List Frame} {meth : Method} {cc : Code} :
    ∀ (r k : Nat) (d : Addr) (kd : ClassId) (hh : Heap) {vm0 : Vm} {T0 : State} {lc : List Loc} (W0 : OW p l e rm_c_tb s m args below meth cc Z a0 EL nb "java/lang/StringUTF16" jdk_52_method_14_code 5 (some (.array .byte)) "toBytes" vm0 T0 lc 1 8 hh) (hk : k + r = cs.length) (Ab : OA Z hh b kb .char (cs.map Value.int)) (Bd : OA Z hh d kd .byte (enc (cs.take k) ++ List.replicate (2 * r) (.int 0))) (hg : h0.size ≤ d) (hzd : Z.heap.size ≤ d) (Eh : Ext h0 hh) (Sd : Safe Z EL vm0 hh d), OG p e below s Z EL nb (fun v _ h => ∃ d kd, v = some (.ref d) ∧ h0.size ≤ d ∧ Ext h0 h ∧ OA Z h d kd .byte (enc cs)) rm_c_tb.cells rm_c_tb.slots T0 (mkF m 8 #[.val (.ref b), .val (.int (Int32.ofNat k)), .val (.int (Int32.ofNat cs.length)), .val (.ref d), .val (.int (Int32.ofNat k))] [])
  | 0, k, d, kd, hh, vm0, T0, lc, W0, hk, Ab, Bd, hg, hzd, Eh, Sd => by
    have hw := K.1
    refine oGo W0 [.iload 4, .iload_n 2] (by decide +kernel) (ls' := #[.val (.ref b), .val (.int (Int32.ofNat k)), .val (.int (Int32.ofNat cs.length)), .val (.ref d), .val (.int (Int32.ofNat k))]) (st' := [(.int (Int32.ofNat cs.length)), (.int (Int32.ofNat k))]) rfl rfl (pc' := 11) rfl ?_
    refine oIcT W0 (cd := .ge) (o := 21) (by decide +kernel) (XT.ii_ge_t (fun q => absurd ((n_lt (by omega) (by omega)).mp q) (by omega))) (pc' := 32) (by decide) (by decide) ?_
    refine oGo W0 [.aload_n 3] (by decide +kernel) (ls' := #[.val (.ref b), .val (.int (Int32.ofNat k)), .val (.int (Int32.ofNat cs.length)), .val (.ref d), .val (.int (Int32.ofNat k))]) (st' := [(.ref d)]) rfl rfl (pc' := 33) rfl ?_
    exact oRetA rfl W0 rfl rfl (by decide +kernel) (lb rfl) (lb rfl) (fun vm' hv => ⟨d, kd, rfl, hg, Eh, by have q := Bd; rw [show k = cs.length by omega, List.take_length] at q; simpa using q⟩)
  | r + 1, k, d, kd, hh, vm0, T0, lc, W0, hk, Ab, Bd, hg, hzd, Eh, Sd => by
    have hw := K.1
    obtain ⟨c, hc⟩ : ∃ c, cs[k]? = some c := ⟨_, List.getElem?_eq_getElem (show k < cs.length by omega)⟩
    have hlen : (enc (cs.take k) ++ List.replicate (2 * (r + 1)) (Value.int 0)).length = 2 * cs.length := by rw [List.length_append, enc_len, List.length_take, List.length_replicate]; omega
    refine oGo W0 [.iload 4, .iload_n 2] (by decide +kernel) (ls' := #[.val (.ref b), .val (.int (Int32.ofNat k)), .val (.int (Int32.ofNat cs.length)), .val (.ref d), .val (.int (Int32.ofNat k))]) (st' := [(.int (Int32.ofNat cs.length)), (.int (Int32.ofNat k))]) rfl rfl (pc' := 11) rfl ?_
    refine oIcF W0 (cd := .ge) (o := 21) (by decide +kernel) (XT.ii_ge_f ((n_lt (by omega) (by omega)).mpr (by omega))) (pc' := 14) rfl ?_
    refine oGo W0 [.aload_n 3, .iload 4, .aload_n 0, .iload_n 1] (by decide +kernel) (ls' := #[.val (.ref b), .val (.int (Int32.ofNat k)), .val (.int (Int32.ofNat cs.length)), .val (.ref d), .val (.int (Int32.ofNat k))]) (st' := [(.int (Int32.ofNat k)), (.ref b), (.int (Int32.ofNat k)), (.ref d)]) rfl rfl (pc' := 19) rfl ?_
    refine oGet W0 Ab (v := (.int c)) (n_nn (by omega)) (by rw [n_cl (by omega), List.getElem?_map, hc]; rfl) (Or.inl ⟨rfl, rfl⟩) (by decide +kernel) ?_
    obtain ⟨v101, T101, L101, h101, vm101, W101, ⟨rfl, K101, B101⟩, C101, st101⟩ := oCallS W0 (idx := 111) (pc := 20) (ls := #[.val (.ref b), .val (.int (Int32.ofNat k)), .val (.int (Int32.ofNat cs.length)), .val (.ref d), .val (.int (Int32.ofNat k))]) (st := []) (argsL := [(.ref d), (.int (Int32.ofNat k)), (.int c)]) (c_pc K (i := k) (c := c) (by rw [hlen]; omega) (by rw [hlen]; omega) Bd hzd) (fun y hy => by cases List.mem_singleton.mp hy; exact ⟨Bd.lt, Sd⟩) (hw _ (List.mem_of_getElem? (i := 87) rfl)) (hw _ (List.mem_of_getElem? (i := 88) rfl)) (hw _ (List.mem_of_getElem? (i := 47) rfl)) (hw _ (List.mem_of_getElem? (i := 89) rfl)) (by decide) (na := 3) rfl (by decide +kernel) rfl (stk := [(.int c), (.int (Int32.ofNat k)), (.ref d)]) rfl (by decide +kernel) (V := 0) (lb rfl) (lb rfl) (lb rfl) (lb rfl) (lb rfl)
    refine oLift st101 ?_
    show OG _ _ _ _ _ _ _ _ _ _ _ (mkF m 23 #[.val (.ref b), .val (.int (Int32.ofNat k)), .val (.int (Int32.ofNat cs.length)), .val (.ref d), .val (.int (Int32.ofNat k))] [])
    refine oGo W101 [.iinc 1 1, .iinc 4 1, .goto (-21)] (by decide +kernel) (ls' := #[.val (.ref b), .val (.int ((Int32.ofNat k) + (1 : Int32))), .val (.int (Int32.ofNat cs.length)), .val (.ref d), .val (.int ((Int32.ofNat k) + (1 : Int32)))]) (st' := []) rfl rfl (pc' := 8) rfl ?_
    rw [n_in]
    rw [enc_step hk hc] at B101
    exact c_tb_l K hl A r (k + 1) d kd h101 W101 (by omega) (Ab.keep K101 (ninS (Nat.ne_of_lt (Nat.lt_of_lt_of_le A.lt hg)) nin0)) B101 hg hzd (exK Eh K101 (fun y hy => by cases List.mem_singleton.mp hy; exact hg)) (C101.safe Bd.lt Sd)
set_option maxRecDepth 65536 in
set_option maxHeartbeats 40000000 in
theorem c_tb {l : Launch} {Z : State} {a0 : Array Value} {nb : Bool} (K : Ctx Z a0) {b : Addr} {kb : ClassId} {cs : List Int32} {h0 : Heap} (hl : cs.length ≤ 4) (A : OA Z h0 b kb .char (cs.map Value.int)) :
    OC l Z EL nb [] (⟨"java/lang/StringUTF16", "toBytes", "([CII)[B"⟩ : MethodName) jdk_52_method_14_code 5 (some (.array .byte)) rm_c_tb #[(.ref b), (.int (0 : Int32)), (.int (Int32.ofNat cs.length))] h0 [] (fun v _ h => ∃ d kd, v = some (.ref d) ∧ h0.size ≤ d ∧ Ext h0 h ∧ OA Z h d kd .byte (enc cs)) := by
  have hw := K.1
  have hS : ∀ a ∈ Bundle.stringAtoms, a.before a0 Z = true := K.2.2.1
  refine oEnter (by decide +kernel) K.2.1.2.1 ?_
  intro _p _e _s m _below _meth _c T0 W0 S0
  refine oEq (g' := mkF m 0 #[.val (.ref b), .val (.int (0 : Int32)), .val (.int (Int32.ofNat cs.length)), .unset, .unset] []) (by first | (simp [entryFrame, mkF, argsToLocals, Value.category]; done) | rfl) ?_
  refine oGo W0 [.iload_n 2] (by decide +kernel) (ls' := #[.val (.ref b), .val (.int (0 : Int32)), .val (.int (Int32.ofNat cs.length)), .unset, .unset]) (st' := [(.int (Int32.ofNat cs.length))]) rfl rfl (pc' := 1) rfl ?_
  obtain ⟨v1, T1, L1, h1, vm1, W1, ⟨d, kd, rfl, g1, E1, B1, S1⟩, C1, st1⟩ := oCallS W0 (idx := 107) (pc := 1) (ls := #[.val (.ref b), .val (.int (0 : Int32)), .val (.int (Int32.ofNat cs.length)), .unset, .unset]) (st := []) (argsL := [(.int (Int32.ofNat cs.length))]) (c_nbf K (n := cs.length) hl) (fun x hx => nomatch hx) (hw _ (List.mem_of_getElem? (i := 80) rfl)) (hw _ (List.mem_of_getElem? (i := 81) rfl)) (hw _ (List.mem_of_getElem? (i := 47) rfl)) (hw _ (List.mem_of_getElem? (i := 82) rfl)) (by decide) (na := 1) rfl (by decide +kernel) rfl (stk := [(.int (Int32.ofNat cs.length))]) rfl (by decide +kernel) (V := 0) (lb rfl) (lb rfl) (lb rfl) (lb rfl) (lb rfl)
  refine oLift st1 ?_
  show OG _ _ _ _ _ _ _ _ _ _ _ (mkF m 4 #[.val (.ref b), .val (.int (0 : Int32)), .val (.int (Int32.ofNat cs.length)), .unset, .unset] [(.ref d)])
  refine oGo W1 [.astore_n 3, .iconst 0, .istore 4] (by decide +kernel) (ls' := #[.val (.ref b), .val (.int (0 : Int32)), .val (.int (Int32.ofNat cs.length)), .val (.ref d), .val (.int (0 : Int32))]) (st' := []) rfl rfl (pc' := 8) rfl ?_
  exact c_tb_l K hl A cs.length 0 d kd h1 W1 (by omega) (A.ext E1) (by simpa [enc] using B1) g1 (Nat.le_trans W0.ext.1 g1) E1 S1
abbrev rm_c_gc : Room := { frames := 0, cells := 0, slots := 0, locals := 0 }
set_option maxRecDepth 65536 in
set_option maxHeartbeats 40000000 in
theorem c_gc {l : Launch} {Z : State} {a0 : Array Value} {nb : Bool} (K : Ctx Z a0) {t : Addr} {k : ClassId} {vs : List Value} {i : Nat} {c : Int32} {h0 : Heap} (hu : U16 c) (A : OA Z h0 t k .byte vs) (hx1 : vs[2 * i]? = some (.int (el c))) (hx2 : vs[2 * i + 1]? = some (.int (eh c))) (hi : i ≤ 4) :
    OC l Z EL nb [] (⟨"java/lang/StringUTF16", "getChar", "([BI)C"⟩ : MethodName) jdk_52_method_5_code 2 (some .char) rm_c_gc #[(.ref t), (.int (Int32.ofNat i))] h0 [] (fun v _ h => v = some (.int c) ∧ h = h0) := by
  have hw := K.1
  have hS : ∀ a ∈ Bundle.stringAtoms, a.before a0 Z = true := K.2.2.1
  have U := K.2.2.2.2.1
  refine oEnter (by decide +kernel) K.2.1.2.1 ?_
  intro _p _e _s m _below _meth _c T0 W0 S0
  refine oEq (g' := mkF m 0 #[.val (.ref t), .val (.int (Int32.ofNat i))] []) (by first | (simp [entryFrame, mkF, argsToLocals, Value.category]; done) | rfl) ?_
  obtain ⟨T1, W1, st1⟩ := oGetS W0 (pc := 0) (ls := #[.val (.ref t), .val (.int (Int32.ofNat i))]) (st := []) (hw _ (List.mem_of_getElem? (i := 90) rfl)) Via.refl (U.1.ext W0.ext) (by decide +kernel)
  refine oLift st1 ?_
  refine oIfT W1 (cd := .ne) (o := 25) (by decide +kernel) (XT.i0_ne_t (by decide)) (pc' := 28) (by decide) (by decide) ?_
  refine oGo W1 [.iload_n 1, .iconst 1, .ishl, .istore_n 1, .aload_n 0, .iload_n 1, .iinc 1 1] (by decide +kernel) (ls' := #[.val (.ref t), .val (.int (((Int32.ofNat i) <<< ((1 : Int32) &&& 31)) + (1 : Int32)))]) (st' := [(.int ((Int32.ofNat i) <<< ((1 : Int32) &&& 31))), (.ref t)]) rfl rfl (pc' := 37) rfl ?_
  rw [shl1 (by omega), n_in]
  refine oGet W1 A (v := (.int (el c))) (n_nn (by omega)) (by rw [n_cl (by omega)]; exact hx1) (Or.inr (Or.inl ⟨rfl, rfl⟩)) (by decide +kernel) ?_
  refine oGo W1 [.sipush 255, .iand] (by decide +kernel) (ls' := #[.val (.ref t), .val (.int (Int32.ofNat (2 * i + 1)))]) (st' := [(.int ((el c) &&& (255 : Int32)))]) rfl rfl (pc' := 42) rfl ?_
  obtain ⟨T2, W2, st2⟩ := oGetS W1 (pc := 42) (ls := #[.val (.ref t), .val (.int (Int32.ofNat (2 * i + 1)))]) (st := [(.int ((el c) &&& (255 : Int32)))]) (hw _ (List.mem_of_getElem? (i := 91) rfl)) Via.refl (U.2.1.ext W1.ext) (by decide +kernel)
  refine oLift st2 ?_
  refine oGo W2 [.ishl, .aload_n 0, .iload_n 1] (by decide +kernel) (ls' := #[.val (.ref t), .val (.int (Int32.ofNat (2 * i + 1)))]) (st' := [(.int (Int32.ofNat (2 * i + 1))), (.ref t), (.int (((el c) &&& (255 : Int32)) <<< ((0 : Int32) &&& 31)))]) rfl rfl (pc' := 48) rfl ?_
  refine oGet W2 A (v := (.int (eh c))) (n_nn (by omega)) (by rw [n_cl (by omega)]; exact hx2) (Or.inr (Or.inl ⟨rfl, rfl⟩)) (by decide +kernel) ?_
  refine oGo W2 [.sipush 255, .iand] (by decide +kernel) (ls' := #[.val (.ref t), .val (.int (Int32.ofNat (2 * i + 1)))]) (st' := [(.int ((eh c) &&& (255 : Int32))), (.int (((el c) &&& (255 : Int32)) <<< ((0 : Int32) &&& 31)))]) rfl rfl (pc' := 53) rfl ?_
  obtain ⟨T3, W3, st3⟩ := oGetS W2 (pc := 53) (ls := #[.val (.ref t), .val (.int (Int32.ofNat (2 * i + 1)))]) (st := [(.int ((eh c) &&& (255 : Int32))), (.int (((el c) &&& (255 : Int32)) <<< ((0 : Int32) &&& 31)))]) (hw _ (List.mem_of_getElem? (i := 92) rfl)) Via.refl (U.2.2.ext W2.ext) (by decide +kernel)
  refine oLift st3 ?_
  refine oGo W3 [.ishl, .ior, .i2c] (by decide +kernel) (ls' := #[.val (.ref t), .val (.int (Int32.ofNat (2 * i + 1)))]) (st' := [(.int (((((el c) &&& (255 : Int32)) <<< ((0 : Int32) &&& 31)) ||| (((eh c) &&& (255 : Int32)) <<< ((8 : Int32) &&& 31))).toUInt32.toUInt16.toUInt32.toInt32))]) rfl rfl (pc' := 59) rfl ?_
  rw [u16_back hu]
  exact oRetN (by simp) W3 (narU hu) (by decide +kernel) (lb rfl) (lb rfl) (fun vm' hv => ⟨rfl, rfl⟩)
abbrev rm_c_uci : Room := { frames := 2, cells := 0, slots := 0, locals := 27 }
set_option maxRecDepth 65536 in
set_option maxHeartbeats 40000000 in
theorem c_uci {l : Launch} {Z : State} {a0 : Array Value} {nb : Bool} (K : Ctx Z a0) {t : Addr} {k : ClassId} {vs : List Value} {n i : Nat} {h0 : Heap} (A : OA Z h0 t k .byte vs) (hv : vs.length = 2 * n) (hn : n ≤ 4) (hi : i < n) :
    OC l Z EL nb [] (⟨"java/lang/StringUTF16", "checkIndex", "(I[B)V"⟩ : MethodName) jdk_52_method_91_code 2 none rm_c_uci #[(.int (Int32.ofNat i)), (.ref t)] h0 [] (fun v _ h => v = none ∧ h = h0) := by
  have hw := K.1
  have hS : ∀ a ∈ Bundle.stringAtoms, a.before a0 Z = true := K.2.2.1
  refine oEnter (by decide +kernel) K.2.1.2.1 ?_
  intro _p _e _s m _below _meth _c T0 W0 S0
  refine oEq (g' := mkF m 0 #[.val (.int (Int32.ofNat i)), .val (.ref t)] []) (by first | (simp [entryFrame, mkF, argsToLocals, Value.category]; done) | rfl) ?_
  refine oGo W0 [.iload_n 0, .aload_n 1] (by decide +kernel) (ls' := #[.val (.int (Int32.ofNat i)), .val (.ref t)]) (st' := [(.ref t), (.int (Int32.ofNat i))]) rfl rfl (pc' := 2) rfl ?_
  obtain ⟨v1, T1, L1, h1, vm1, W1, ⟨rfl, e1⟩, C1, st1⟩ := oCallS W0 (idx := 48) (pc := 2) (ls := #[.val (.int (Int32.ofNat i)), .val (.ref t)]) (st := [(.int (Int32.ofNat i))]) (argsL := [(.ref t)]) (c_ul K A hv hn) (fun x hx => nomatch hx) (hw _ (List.mem_of_getElem? (i := 102) rfl)) (hw _ (List.mem_of_getElem? (i := 103) rfl)) (hw _ (List.mem_of_getElem? (i := 47) rfl)) (hw _ (List.mem_of_getElem? (i := 104) rfl)) (by decide) (na := 1) rfl (by decide +kernel) rfl (stk := [(.ref t), (.int (Int32.ofNat i))]) rfl (by decide +kernel) (V := 1) (lb rfl) (lb rfl) (lb rfl) (lb rfl) (lb rfl)
  refine oLift st1 ?_
  rw [e1] at W1 C1
  show OG _ _ _ _ _ _ _ _ _ _ _ (mkF m 5 #[.val (.int (Int32.ofNat i)), .val (.ref t)] [(.int (Int32.ofNat n)), (.int (Int32.ofNat i))])
  obtain ⟨v2, T2, L2, h2, vm2, W2, ⟨rfl, e2⟩, C2, st2⟩ := oCallS W1 (idx := 414) (pc := 5) (ls := #[.val (.int (Int32.ofNat i)), .val (.ref t)]) (st := []) (argsL := [(.int (Int32.ofNat i)), (.int (Int32.ofNat n))]) (c_sci K K.2.2.2.1 (n_nn (by omega)) ((n_lt (by omega) (by omega)).mpr hi)) (fun x hx => nomatch hx) (hw _ (List.mem_of_getElem? (i := 105) rfl)) (hw _ (List.mem_of_getElem? (i := 70) rfl)) (hw _ (List.mem_of_getElem? (i := 8) rfl)) (hw _ (List.mem_of_getElem? (i := 71) rfl)) (by decide) (na := 2) rfl (by decide +kernel) rfl (stk := [(.int (Int32.ofNat n)), (.int (Int32.ofNat i))]) rfl (by decide +kernel) (V := 0) (lb rfl) (lb rfl) (lb rfl) (lb rfl) (lb rfl)
  refine oLift st2 ?_
  rw [e2] at W2 C2
  show OG _ _ _ _ _ _ _ _ _ _ _ (mkF m 8 #[.val (.int (Int32.ofNat i)), .val (.ref t)] [])
  exact oRet0 W2 (by decide +kernel) (lb rfl) (lb rfl) (fun vm' hv => ⟨rfl, rfl⟩)
abbrev rm_c_uch : Room := { frames := 3, cells := 0, slots := 0, locals := 40 }
set_option maxRecDepth 65536 in
set_option maxHeartbeats 40000000 in
theorem c_uch {l : Launch} {Z : State} {a0 : Array Value} {nb : Bool} (K : Ctx Z a0) {t : Addr} {k : ClassId} {cs : List Int32} {i : Nat} {c : Int32} {h0 : Heap} (A : OA Z h0 t k .byte (enc cs)) (hl : cs.length ≤ 4) (hc : cs[i]? = some c) (hu : U16 c) :
    OC l Z EL nb [] (⟨"java/lang/StringUTF16", "charAt", "([BI)C"⟩ : MethodName) jdk_52_method_83_code 2 (some .char) rm_c_uch #[(.ref t), (.int (Int32.ofNat i))] h0 [] (fun v _ h => v = some (.int c) ∧ h = h0) := by
  have hw := K.1
  have hS : ∀ a ∈ Bundle.stringAtoms, a.before a0 Z = true := K.2.2.1
  have hlt : i < cs.length := (List.getElem?_eq_some_iff.mp hc).1
  refine oEnter (by decide +kernel) K.2.1.2.1 ?_
  intro _p _e _s m _below _meth _c T0 W0 S0
  refine oEq (g' := mkF m 0 #[.val (.ref t), .val (.int (Int32.ofNat i))] []) (by first | (simp [entryFrame, mkF, argsToLocals, Value.category]; done) | rfl) ?_
  refine oGo W0 [.iload_n 1, .aload_n 0] (by decide +kernel) (ls' := #[.val (.ref t), .val (.int (Int32.ofNat i))]) (st' := [(.ref t), (.int (Int32.ofNat i))]) rfl rfl (pc' := 2) rfl ?_
  obtain ⟨v1, T1, L1, h1, vm1, W1, ⟨rfl, e1⟩, C1, st1⟩ := oCallS W0 (idx := 67) (pc := 2) (ls := #[.val (.ref t), .val (.int (Int32.ofNat i))]) (st := []) (argsL := [(.int (Int32.ofNat i)), (.ref t)]) (c_uci K A (enc_len cs) hl hlt) (fun x hx => nomatch hx) (hw _ (List.mem_of_getElem? (i := 99) rfl)) (hw _ (List.mem_of_getElem? (i := 100) rfl)) (hw _ (List.mem_of_getElem? (i := 47) rfl)) (hw _ (List.mem_of_getElem? (i := 101) rfl)) (by decide) (na := 2) rfl (by decide +kernel) rfl (stk := [(.ref t), (.int (Int32.ofNat i))]) rfl (by decide +kernel) (V := 0) (lb rfl) (lb rfl) (lb rfl) (lb rfl) (lb rfl)
  refine oLift st1 ?_
  rw [e1] at W1 C1
  show OG _ _ _ _ _ _ _ _ _ _ _ (mkF m 5 #[.val (.ref t), .val (.int (Int32.ofNat i))] [])
  refine oGo W1 [.aload_n 0, .iload_n 1] (by decide +kernel) (ls' := #[.val (.ref t), .val (.int (Int32.ofNat i))]) (st' := [(.int (Int32.ofNat i)), (.ref t)]) rfl rfl (pc' := 7) rfl ?_
  obtain ⟨v2, T2, L2, h2, vm2, W2, ⟨rfl, e2⟩, C2, st2⟩ := oCallS W1 (idx := 71) (pc := 7) (ls := #[.val (.ref t), .val (.int (Int32.ofNat i))]) (st := []) (argsL := [(.ref t), (.int (Int32.ofNat i))]) (c_gc K hu A (enc_lo hc) (enc_hi hc) (by omega)) (fun x hx => nomatch hx) (hw _ (List.mem_of_getElem? (i := 93) rfl)) (hw _ (List.mem_of_getElem? (i := 94) rfl)) (hw _ (List.mem_of_getElem? (i := 47) rfl)) (hw _ (List.mem_of_getElem? (i := 95) rfl)) (by decide) (na := 2) rfl (by decide +kernel) rfl (stk := [(.int (Int32.ofNat i)), (.ref t)]) rfl (by decide +kernel) (V := 0) (lb rfl) (lb rfl) (lb rfl) (lb rfl) (lb rfl)
  refine oLift st2 ?_
  rw [e2] at W2 C2
  show OG _ _ _ _ _ _ _ _ _ _ _ (mkF m 10 #[.val (.ref t), .val (.int (Int32.ofNat i))] [(.int c)])
  exact oRetN (by simp) W2 (narU hu) (by decide +kernel) (lb rfl) (lb rfl) (fun vm' hv => ⟨rfl, rfl⟩)
abbrev rm_c_c3u : Room := { frames := 3, cells := 2, slots := 12, locals := 40 }
set_option maxRecDepth 65536 in
set_option maxHeartbeats 40000000 in
theorem c_c3u {l : Launch} {Z : State} {a0 : Array Value} {nb : Bool} (K : Ctx Z a0) {b : Addr} {kb : ClassId} {cs : List Int32} {h0 : Heap} (hl : cs.length ≤ 4) (A : OA Z h0 b kb .char (cs.map Value.int)) (hU : ∀ c ∈ cs, U16 c) (hbig : bigAt cs < cs.length) :
    OC l Z EL nb [] (⟨"java/lang/StringUTF16", "compress", "([CII)[B"⟩ : MethodName) jdk_52_method_16_code 6 (some (.array .byte)) rm_c_c3u #[(.ref b), (.int (0 : Int32)), (.int (Int32.ofNat cs.length))] h0 [] (fun v _ h => ∃ d kd, v = some (.ref d) ∧ h0.size ≤ d ∧ Ext h0 h ∧ OA Z h d kd .byte (enc cs)) := by
  have hw := K.1
  have hS : ∀ a ∈ Bundle.stringAtoms, a.before a0 Z = true := K.2.2.1
  refine oEnter (by decide +kernel) K.2.1.2.1 ?_
  intro _p _e _s m _below _meth _c T0 W0 S0
  refine oEq (g' := mkF m 0 #[.val (.ref b), .val (.int (0 : Int32)), .val (.int (Int32.ofNat cs.length)), .unset, .unset, .unset] []) (by first | (simp [entryFrame, mkF, argsToLocals, Value.category]; done) | rfl) ?_
  refine oGo W0 [.iload_n 2] (by decide +kernel) (ls' := #[.val (.ref b), .val (.int (0 : Int32)), .val (.int (Int32.ofNat cs.length)), .unset, .unset, .unset]) (st' := [(.int (Int32.ofNat cs.length))]) rfl rfl (pc' := 1) rfl ?_
  obtain ⟨T1, h1, d0, kd0, W1, g1, E1, A1, S1, C1, st1⟩ := oNewA W0 (aty := .byte) (pc := 1) (ls := #[.val (.ref b), .val (.int (0 : Int32)), .val (.int (Int32.ofNat cs.length)), .unset, .unset, .unset]) (st := []) (hw _ (List.mem_of_getElem? (i := 20) rfl)) (by decide +kernel) (n := Int32.ofNat cs.length) (n_nn (by omega)) (cap := 4) (by rw [n_cl (by omega)]; omega) (lb rfl) (lb rfl) (lb rfl)
  refine oLift st1 ?_
  rw [n_cl (by omega)] at A1
  refine oGo W1 [.astore_n 3, .aload_n 0, .iload_n 1, .aload_n 3, .iconst 0, .iload_n 2] (by decide +kernel) (ls' := #[.val (.ref b), .val (.int (0 : Int32)), .val (.int (Int32.ofNat cs.length)), .val (.ref d0), .unset, .unset]) (st' := [(.int (Int32.ofNat cs.length)), (.int (0 : Int32)), (.ref d0), (.int (0 : Int32)), (.ref b)]) rfl rfl (pc' := 9) rfl ?_
  have hbd : b ≠ d0 := Nat.ne_of_lt (Nat.lt_of_lt_of_le A.lt g1)
  obtain ⟨v2, T2, L2, h2, vm2, W2, ⟨rfl, K2, -⟩, C2, st2⟩ := oCallS W1 (idx := 115) (pc := 9) (ls := #[.val (.ref b), .val (.int (0 : Int32)), .val (.int (Int32.ofNat cs.length)), .val (.ref d0), .unset, .unset]) (st := []) (argsL := [(.ref b), (.int (0 : Int32)), (.ref d0), (.int (0 : Int32)), (.int (Int32.ofNat cs.length))]) (k_C5 K.2.1.2.1 (by omega) hbd (Nat.le_trans W0.ext.1 g1) (A.ext E1) A1) (fun y hy => by cases List.mem_singleton.mp hy; exact ⟨A1.lt, S1⟩) (hw _ (List.mem_of_getElem? (i := 49) rfl)) (hw _ (List.mem_of_getElem? (i := 50) rfl)) (hw _ (List.mem_of_getElem? (i := 47) rfl)) (hw _ (List.mem_of_getElem? (i := 51) rfl)) (by decide) (na := 5) rfl (by decide +kernel) rfl (stk := [(.int (Int32.ofNat cs.length)), (.int (0 : Int32)), (.ref d0), (.int (0 : Int32)), (.ref b)]) rfl (by decide +kernel) (V := 0) (lb rfl) (lb rfl) (lb rfl) (lb rfl) (lb rfl)
  refine oLift st2 ?_
  show OG _ _ _ _ _ _ _ _ _ _ _ (mkF m 12 #[.val (.ref b), .val (.int (0 : Int32)), .val (.int (Int32.ofNat cs.length)), .val (.ref d0), .unset, .unset] [(.int (Int32.ofNat (bigAt cs)))])
  obtain ⟨cb, hcb, hcb2⟩ := bigAt_lt hbig
  refine oGo W2 [.istore 4, .iload 4, .iload_n 2] (by decide +kernel) (ls' := #[.val (.ref b), .val (.int (0 : Int32)), .val (.int (Int32.ofNat cs.length)), .val (.ref d0), .val (.int (Int32.ofNat (bigAt cs))), .unset]) (st' := [(.int (Int32.ofNat cs.length)), (.int (Int32.ofNat (bigAt cs)))]) rfl rfl (pc' := 17) rfl ?_
  refine oIcF W2 (cd := .eq) (o := 40) (by decide +kernel) (XT.ii_eq_f (fun q => by have := congrArg Int32.toNatClampNeg q; rw [n_cl (by omega), n_cl (by omega)] at this; omega)) (pc' := 20) rfl ?_
  refine oGo W2 [.aload_n 0, .iload_n 1, .iload_n 2] (by decide +kernel) (ls' := #[.val (.ref b), .val (.int (0 : Int32)), .val (.int (Int32.ofNat cs.length)), .val (.ref d0), .val (.int (Int32.ofNat (bigAt cs))), .unset]) (st' := [(.int (Int32.ofNat cs.length)), (.int (0 : Int32)), (.ref b)]) rfl rfl (pc' := 23) rfl ?_
  obtain ⟨v3, T3, L3, h3, vm3, W3, ⟨d, kd, rfl, g3, E3, B3⟩, C3, st3⟩ := oCallS W2 (idx := 119) (pc := 23) (ls := #[.val (.ref b), .val (.int (0 : Int32)), .val (.int (Int32.ofNat cs.length)), .val (.ref d0), .val (.int (Int32.ofNat (bigAt cs))), .unset]) (st := []) (argsL := [(.ref b), (.int (0 : Int32)), (.int (Int32.ofNat cs.length))]) (c_tb K hl ((A.ext E1).keep K2 (ninS hbd nin0))) (fun x hx => nomatch hx) (hw _ (List.mem_of_getElem? (i := 77) rfl)) (hw _ (List.mem_of_getElem? (i := 78) rfl)) (hw _ (List.mem_of_getElem? (i := 47) rfl)) (hw _ (List.mem_of_getElem? (i := 79) rfl)) (by decide) (na := 3) rfl (by decide +kernel) rfl (stk := [(.int (Int32.ofNat cs.length)), (.int (0 : Int32)), (.ref b)]) rfl (by decide +kernel) (V := 0) (lb rfl) (lb rfl) (lb rfl) (lb rfl) (lb rfl)
  refine oLift st3 ?_
  show OG _ _ _ _ _ _ _ _ _ _ _ (mkF m 26 #[.val (.ref b), .val (.int (0 : Int32)), .val (.int (Int32.ofNat cs.length)), .val (.ref d0), .val (.int (Int32.ofNat (bigAt cs))), .unset] [(.ref d)])
  refine oGo W3 [.astore 5, .aload 5, .iload 4] (by decide +kernel) (ls' := #[.val (.ref b), .val (.int (0 : Int32)), .val (.int (Int32.ofNat cs.length)), .val (.ref d0), .val (.int (Int32.ofNat (bigAt cs))), .val (.ref d)]) (st' := [(.int (Int32.ofNat (bigAt cs))), (.ref d)]) rfl rfl (pc' := 32) rfl ?_
  obtain ⟨v4, T4, L4, h4, vm4, W4, ⟨rfl, e4⟩, C4, st4⟩ := oCallS W3 (idx := 71) (pc := 32) (ls := #[.val (.ref b), .val (.int (0 : Int32)), .val (.int (Int32.ofNat cs.length)), .val (.ref d0), .val (.int (Int32.ofNat (bigAt cs))), .val (.ref d)]) (st := []) (argsL := [(.ref d), (.int (Int32.ofNat (bigAt cs)))]) (c_gc K (hU cb (List.mem_of_getElem? hcb)) B3 (enc_lo hcb) (enc_hi hcb) (by omega)) (fun x hx => nomatch hx) (hw _ (List.mem_of_getElem? (i := 93) rfl)) (hw _ (List.mem_of_getElem? (i := 94) rfl)) (hw _ (List.mem_of_getElem? (i := 47) rfl)) (hw _ (List.mem_of_getElem? (i := 95) rfl)) (by decide) (na := 2) rfl (by decide +kernel) rfl (stk := [(.int (Int32.ofNat (bigAt cs))), (.ref d)]) rfl (by decide +kernel) (V := 0) (lb rfl) (lb rfl) (lb rfl) (lb rfl) (lb rfl)
  refine oLift st4 ?_
  rw [e4] at W4 C4
  show OG _ _ _ _ _ _ _ _ _ _ _ (mkF m 35 #[.val (.ref b), .val (.int (0 : Int32)), .val (.int (Int32.ofNat cs.length)), .val (.ref d0), .val (.int (Int32.ofNat (bigAt cs))), .val (.ref d)] [(.int cb)])
  refine oGo W4 [.sipush 255] (by decide +kernel) (ls' := #[.val (.ref b), .val (.int (0 : Int32)), .val (.int (Int32.ofNat cs.length)), .val (.ref d0), .val (.int (Int32.ofNat (bigAt cs))), .val (.ref d)]) (st' := [(.int (255 : Int32)), (.int cb)]) rfl rfl (pc' := 38) rfl ?_
  refine oIcT W4 (cd := .gt) (o := 16) (by decide +kernel) (XT.ii_gt_t hcb2) (pc' := 54) (by decide) (by decide) ?_
  refine oGo W4 [.aload 5] (by decide +kernel) (ls' := #[.val (.ref b), .val (.int (0 : Int32)), .val (.int (Int32.ofNat cs.length)), .val (.ref d0), .val (.int (Int32.ofNat (bigAt cs))), .val (.ref d)]) (st' := [(.ref d)]) rfl rfl (pc' := 56) rfl ?_
  exact oRetA rfl W4 rfl rfl (by decide +kernel) (lb rfl) (lb rfl) (fun vm' hv => ⟨d, kd, rfl, Nat.le_trans (exK E1 K2 (fun y hy => by cases List.mem_singleton.mp hy; exact g1)).1 g3, exT (exK E1 K2 (fun y hy => by cases List.mem_singleton.mp hy; exact g1)) E3, B3⟩)
abbrev rm_c_i4u : Room := { frames := 4, cells := 2, slots := 12, locals := 57 }
set_option maxRecDepth 65536 in
set_option maxHeartbeats 40000000 in
theorem c_i4u {l : Launch} {Z : State} {a0 : Array Value} {nb : Bool} (K : Ctx Z a0) {x b : Addr} {kb : ClassId} {cs : List Int32} {v0 c0 : Value} {h0 : Heap} (hl : cs.length ≤ 4) (hl0 : 0 < cs.length) (A : OA Z h0 b kb .char (cs.map Value.int)) (hU : ∀ c ∈ cs, U16 c) (hbig : bigAt cs < cs.length) (hxf : Z.heap.size ≤ x) (E : Exa Z h0 x "java/lang/String") (Fc : Fld Z h0 x "java/lang/String" "coder" "B" c0) (Fv : Fld Z h0 x "java/lang/String" "value" "[B" v0) :
    OC l Z EL nb [] (⟨"java/lang/String", "<init>", "([CIILjava/lang/Void;)V"⟩ : MethodName) jdk_42_method_149_code 6 none rm_c_i4u #[(.ref x), (.ref b), (.int (0 : Int32)), (.int (Int32.ofNat cs.length)), (.null)] h0 [x] (fun v _ h => v = none ∧ Keep h0 h [x] ∧ StrU Z h x cs) := by
  have hw := K.1
  have hS : ∀ a ∈ Bundle.stringAtoms, a.before a0 Z = true := K.2.2.1
  obtain ⟨z, hz, hz0⟩ := K.2.1.2.2
  refine oEnter (by decide +kernel) K.2.1.2.1 ?_
  intro _p _e _s m _below _meth _c T0 W0 S0
  refine oEq (g' := mkF m 0 #[.val (.ref x), .val (.ref b), .val (.int (0 : Int32)), .val (.int (Int32.ofNat cs.length)), .val (.null), .unset] []) (by first | (simp [entryFrame, mkF, argsToLocals, Value.category]; done) | rfl) ?_
  refine oGo W0 [.aload_n 0] (by decide +kernel) (ls' := #[.val (.ref x), .val (.ref b), .val (.int (0 : Int32)), .val (.int (Int32.ofNat cs.length)), .val (.null), .unset]) (st' := [(.ref x)]) rfl rfl (pc' := 1) rfl ?_
  obtain ⟨T1, W1, st1⟩ := oInit W0 (idx := 1) (pc := 1) (ls := #[.val (.ref x), .val (.ref b), .val (.int (0 : Int32)), .val (.int (Int32.ofNat cs.length)), .val (.null), .unset]) (st := []) (a := x) (hw _ (List.mem_of_getElem? (i := 16) rfl)) (hw _ (List.mem_of_getElem? (i := 17) rfl)) (hw _ (List.mem_of_getElem? (i := 18) rfl)) rfl (by decide +kernel) (lb rfl) (V := 0) (lb rfl) (lb rfl)
  refine oLift st1 ?_
  refine oGo W1 [.iload_n 3] (by decide +kernel) (ls' := #[.val (.ref x), .val (.ref b), .val (.int (0 : Int32)), .val (.int (Int32.ofNat cs.length)), .val (.null), .unset]) (st' := [(.int (Int32.ofNat cs.length))]) rfl rfl (pc' := 5) rfl ?_
  refine oIfT W1 (cd := .ne) (o := 22) (by decide +kernel) (XT.i0_ne_t (fun q => absurd (own_len0 (by omega) q) (List.ne_nil_of_length_pos hl0))) (pc' := 27) (by decide) (by decide) ?_
  obtain ⟨T2, W2, st2⟩ := oGetS W1 (pc := 27) (ls := #[.val (.ref x), .val (.ref b), .val (.int (0 : Int32)), .val (.int (Int32.ofNat cs.length)), .val (.null), .unset]) (st := []) (hw _ (List.mem_of_getElem? (i := 41) rfl)) Via.refl (hz.ext W1.ext) (by decide +kernel)
  refine oLift st2 ?_
  refine oIfF W2 (cd := .eq) (o := 28) (by decide +kernel) (XT.i0_eq_f hz0) (pc' := 33) rfl ?_
  refine oGo W2 [.aload_n 1, .iload_n 2, .iload_n 3] (by decide +kernel) (ls' := #[.val (.ref x), .val (.ref b), .val (.int (0 : Int32)), .val (.int (Int32.ofNat cs.length)), .val (.null), .unset]) (st' := [(.int (Int32.ofNat cs.length)), (.int (0 : Int32)), (.ref b)]) rfl rfl (pc' := 36) rfl ?_
  obtain ⟨v3, T3, L3, h3, vm3, W3, ⟨d, kd, rfl, g3, E3, B3⟩, C3, st3⟩ := oCallS W2 (idx := 177) (pc := 36) (ls := #[.val (.ref x), .val (.ref b), .val (.int (0 : Int32)), .val (.int (Int32.ofNat cs.length)), .val (.null), .unset]) (st := []) (argsL := [(.ref b), (.int (0 : Int32)), (.int (Int32.ofNat cs.length))]) (c_c3u K hl A hU hbig) (fun x hx => nomatch hx) (hw _ (List.mem_of_getElem? (i := 45) rfl)) (hw _ (List.mem_of_getElem? (i := 46) rfl)) (hw _ (List.mem_of_getElem? (i := 47) rfl)) (hw _ (List.mem_of_getElem? (i := 48) rfl)) (by decide) (na := 3) rfl (by decide +kernel) rfl (stk := [(.int (Int32.ofNat cs.length)), (.int (0 : Int32)), (.ref b)]) rfl (by decide +kernel) (V := 0) (lb rfl) (lb rfl) (lb rfl) (lb rfl) (lb rfl)
  refine oLift st3 ?_
  show OG _ _ _ _ _ _ _ _ _ _ _ (mkF m 39 #[.val (.ref x), .val (.ref b), .val (.int (0 : Int32)), .val (.int (Int32.ofNat cs.length)), .val (.null), .unset] [(.ref d)])
  refine oGo W3 [.astore 5, .aload_n 0, .aload 5, .iload_n 3] (by decide +kernel) (ls' := #[.val (.ref x), .val (.ref b), .val (.int (0 : Int32)), .val (.int (Int32.ofNat cs.length)), .val (.null), .val (.ref d)]) (st' := [(.int (Int32.ofNat cs.length)), (.ref d), (.ref x)]) rfl rfl (pc' := 45) rfl ?_
  obtain ⟨v4, T4, L4, h4, vm4, W4, ⟨rfl, e4⟩, C4, st4⟩ := oCallS W3 (idx := 47) (pc := 45) (ls := #[.val (.ref x), .val (.ref b), .val (.int (0 : Int32)), .val (.int (Int32.ofNat cs.length)), .val (.null), .val (.ref d)]) (st := [(.ref x)]) (argsL := [(.ref d), (.int (Int32.ofNat cs.length))]) (k_CL K.2.1.2.1 B3) (fun x hx => nomatch hx) (hw _ (List.mem_of_getElem? (i := 52) rfl)) (hw _ (List.mem_of_getElem? (i := 53) rfl)) (hw _ (List.mem_of_getElem? (i := 47) rfl)) (hw _ (List.mem_of_getElem? (i := 54) rfl)) (by decide) (na := 2) rfl (by decide +kernel) rfl (stk := [(.int (Int32.ofNat cs.length)), (.ref d), (.ref x)]) rfl (by decide +kernel) (V := 1) (lb rfl) (lb rfl) (lb rfl) (lb rfl) (lb rfl)
  refine oLift st4 ?_
  rw [e4] at W4 C4
  show OG _ _ _ _ _ _ _ _ _ _ _ (mkF m 48 #[.val (.ref x), .val (.ref b), .val (.int (0 : Int32)), .val (.int (Int32.ofNat cs.length)), .val (.null), .val (.ref d)] [(.int ((XT.ushr (Int32.ofNat cs.length - (enc cs).length.toInt32) (31 : Int32)).toInt8.toInt32)), (.ref x)])
  have hcd : ((XT.ushr (Int32.ofNat cs.length - (enc cs).length.toInt32) (31 : Int32)).toInt8.toInt32) = 1 := by rw [enc_len]; exact coder1 hl0 hl
  rw [hcd]
  obtain ⟨T5, h5, W5, Wr5, F5, X5, C5, st5⟩ := oPutF W4 (idx := 15) (pc := 48) (ls := #[.val (.ref x), .val (.ref b), .val (.int (0 : Int32)), .val (.int (Int32.ofNat cs.length)), .val (.null), .val (.ref d)]) (st := []) (v := (.int (1 : Int32))) (hw _ (List.mem_of_getElem? (i := 26) rfl)) Via.refl (Fc.ext E3) (E.ext E3) (Or.inr ⟨(hw _ (List.mem_of_getElem? (i := 22) rfl)), rfl, rfl⟩) (hw _ (List.mem_of_getElem? (i := 7) rfl)) (ty := .byte) (by decide) rfl rfl hxf (C4.safe (E.ext E3).lt (C3.safe E.lt (S0 x (List.mem_singleton.mpr rfl)))) (by decide +kernel)
  refine oLift st5 ?_
  refine oGo W5 [.aload_n 0, .aload 5] (by decide +kernel) (ls' := #[.val (.ref x), .val (.ref b), .val (.int (0 : Int32)), .val (.int (Int32.ofNat cs.length)), .val (.null), .val (.ref d)]) (st' := [(.ref d), (.ref x)]) rfl rfl (pc' := 54) rfl ?_
  obtain ⟨T6, h6, W6, Wr6, F6, X6, C6, st6⟩ := oPutF W5 (idx := 9) (pc := 54) (ls := #[.val (.ref x), .val (.ref b), .val (.int (0 : Int32)), .val (.int (Int32.ofNat cs.length)), .val (.null), .val (.ref d)]) (st := []) (v := (.ref d)) (hw _ (List.mem_of_getElem? (i := 25) rfl)) Via.refl ((Fv.ext E3).other Wr5 (Or.inr (slot_ne (a0 := a0) (C := "java/lang/String") (Or.inr (hw _ (List.mem_of_getElem? (i := 21) rfl))) (Or.inr (hw _ (List.mem_of_getElem? (i := 22) rfl))) (by decide) (t := (.array .byte)) (t' := .byte) (by decide) (by decide)))) X5 (Or.inr ⟨(hw _ (List.mem_of_getElem? (i := 21) rfl)), rfl, rfl⟩) (hw _ (List.mem_of_getElem? (i := 7) rfl)) (ty := (.array .byte)) (by decide) rfl rfl hxf (C5.safe (E.ext E3).lt (C4.safe (E.ext E3).lt (C3.safe E.lt (S0 x (List.mem_singleton.mpr rfl))))) (by decide +kernel)
  refine oLift st6 ?_
  exact oRet0 W6 (by decide +kernel) (lb rfl) (lb rfl) (fun vm' hv => ⟨rfl, ((((Keep.refl _ [x]).ext E3).wr Wr5 (Or.inl (List.mem_singleton.mpr rfl))).wr Wr6 (Or.inl (List.mem_singleton.mpr rfl))), d, kd, X6, (F5.other Wr6 (Or.inr (slot_ne (a0 := a0) (C := "java/lang/String") (Or.inr (hw _ (List.mem_of_getElem? (i := 22) rfl))) (Or.inr (hw _ (List.mem_of_getElem? (i := 21) rfl))) (by decide) (t := .byte) (t' := (.array .byte)) (by decide) (by decide)))), F6, ((B3.other Wr5 (Nat.ne_of_gt (Nat.lt_of_lt_of_le E.lt g3))).other Wr6 (Nat.ne_of_gt (Nat.lt_of_lt_of_le E.lt g3)))⟩)
abbrev rm_c_i1a : Room := { frames := 5, cells := 2, slots := 12, locals := 74 }
set_option maxRecDepth 65536 in
set_option maxHeartbeats 40000000 in
theorem c_i1a {l : Launch} {Z : State} {a0 : Array Value} {nb : Bool} (K : Ctx Z a0) {x b : Addr} {kb : ClassId}  {v0 c0 : Value} {h0 : Heap} (cs : List Int32) (hl : cs.length ≤ 4) (hl0 : 0 < cs.length) (A : OA Z h0 b kb .char (cs.map Value.int)) (hU : ∀ c ∈ cs, U16 c) (hxf : Z.heap.size ≤ x) (E : Exa Z h0 x "java/lang/String") (Fc : Fld Z h0 x "java/lang/String" "coder" "B" c0) (Fv : Fld Z h0 x "java/lang/String" "value" "[B" v0) :
    OC l Z EL nb [] (⟨"java/lang/String", "<init>", "([C)V"⟩ : MethodName) jdk_42_method_3_code 2 none rm_c_i1a #[(.ref x), (.ref b)] h0 [x] (fun v _ h => v = none ∧ Keep h0 h [x] ∧ AStr Z h x cs) := by
  have hw := K.1
  have hS : ∀ a ∈ Bundle.stringAtoms, a.before a0 Z = true := K.2.2.1
  refine oEnter (by decide +kernel) K.2.1.2.1 ?_
  intro _p _e _s m _below _meth _c T0 W0 S0
  refine oEq (g' := mkF m 0 #[.val (.ref x), .val (.ref b)] []) (by first | (simp [entryFrame, mkF, argsToLocals, Value.category]; done) | rfl) ?_
  refine oGo W0 [.aload_n 0, .aload_n 1, .iconst 0, .aload_n 1] (by decide +kernel) (ls' := #[.val (.ref x), .val (.ref b)]) (st' := [(.ref b), (.int (0 : Int32)), (.ref b), (.ref x)]) rfl rfl (pc' := 4) rfl ?_
  refine oLen W0 A (by decide +kernel) ?_
  rw [List.length_map]
  refine oGo W0 [.aconst_null] (by decide +kernel) (ls' := #[.val (.ref x), .val (.ref b)]) (st' := [(.null), (.int (Int32.ofNat cs.length)), (.int (0 : Int32)), (.ref b), (.ref x)]) rfl rfl (pc' := 6) rfl ?_
  by_cases hbig : bigAt cs < cs.length
  · obtain ⟨v1, T1, L1, h1, vm1, W1, ⟨rfl, K1, F1⟩, C1, st1⟩ := oCallN W0 (idx := 27) (pc := 6) (ls := #[.val (.ref x), .val (.ref b)]) (st := []) (a := x) (argsL := [(.ref b), (.int (0 : Int32)), (.int (Int32.ofNat cs.length)), (.null)]) (c_i4u K hl hl0 A hU hbig hxf E Fc Fv) (fun y hy => by cases List.mem_singleton.mp hy; exact ⟨E.lt, S0 x (List.mem_singleton.mpr rfl)⟩) rfl (hw _ (List.mem_of_getElem? (i := 12) rfl)) (hw _ (List.mem_of_getElem? (i := 13) rfl)) (hw _ (List.mem_of_getElem? (i := 8) rfl)) (hw _ (List.mem_of_getElem? (i := 15) rfl)) (by decide) (na := 4) rfl (by decide +kernel) rfl (stk := [(.null), (.int (Int32.ofNat cs.length)), (.int (0 : Int32)), (.ref b), (.ref x)]) rfl (by decide +kernel) (V := 0) (lb rfl) (lb rfl) (lb rfl) (lb rfl) (lb rfl)
    refine oLift st1 ?_
    show OG _ _ _ _ _ _ _ _ _ _ _ (mkF m 9 #[.val (.ref x), .val (.ref b)] [])
    exact oRet0 W1 (by decide +kernel) (lb rfl) (lb rfl) (fun vm' hv => ⟨rfl, K1, Or.inr F1⟩)
  · obtain ⟨v2, T2, L2, h2, vm2, W2, ⟨rfl, K2, F2⟩, C2, st2⟩ := oCallN W0 (idx := 27) (pc := 6) (ls := #[.val (.ref x), .val (.ref b)]) (st := []) (a := x) (argsL := [(.ref b), (.int (0 : Int32)), (.int (Int32.ofNat cs.length)), (.null)]) (k_I4 K.2.1 (by omega) hl0 A (fun c hc => (hU c hc).c255 (bigAt_ge hbig c hc)) hxf E Fc Fv) (fun y hy => by cases List.mem_singleton.mp hy; exact ⟨E.lt, S0 x (List.mem_singleton.mpr rfl)⟩) rfl (hw _ (List.mem_of_getElem? (i := 12) rfl)) (hw _ (List.mem_of_getElem? (i := 13) rfl)) (hw _ (List.mem_of_getElem? (i := 8) rfl)) (hw _ (List.mem_of_getElem? (i := 15) rfl)) (by decide) (na := 4) rfl (by decide +kernel) rfl (stk := [(.null), (.int (Int32.ofNat cs.length)), (.int (0 : Int32)), (.ref b), (.ref x)]) rfl (by decide +kernel) (V := 0) (lb rfl) (lb rfl) (lb rfl) (lb rfl) (Nat.le_trans (show 0 + cs.length ≤ 4 by omega) (lb rfl))
    refine oLift st2 ?_
    show OG _ _ _ _ _ _ _ _ _ _ _ (mkF m 9 #[.val (.ref x), .val (.ref b)] [])
    exact oRet0 W2 (by decide +kernel) (lb rfl) (Nat.le_trans (show 0 + cs.length ≤ 4 by omega) (lb rfl)) (fun vm' hv => ⟨rfl, K2, Or.inl F2⟩)
abbrev rm_c_cha : Room := { frames := 4, cells := 0, slots := 0, locals := 53 }
set_option maxRecDepth 65536 in
set_option maxHeartbeats 40000000 in
theorem c_cha {l : Launch} {Z : State} {a0 : Array Value} {nb : Bool} (K : Ctx Z a0) {x : Addr} {cs : List Int32} {i : Nat} {c : Int32} {h0 : Heap} (F : AStr Z h0 x cs) (hl : cs.length ≤ 4) (hc : cs[i]? = some c) (hu : U16 c) :
    OC l Z EL nb [] (⟨"java/lang/String", "charAt", "(I)C"⟩ : MethodName) jdk_42_method_56_code 2 (some .char) rm_c_cha #[(.ref x), (.int (Int32.ofNat i))] h0 [] (fun v _ h => v = some (.int c) ∧ h = h0) := by
  have hw := K.1
  have hS : ∀ a ∈ Bundle.stringAtoms, a.before a0 Z = true := K.2.2.1
  have hlt : i < cs.length := (List.getElem?_eq_some_iff.mp hc).1
  refine oEnter (by decide +kernel) K.2.1.2.1 ?_
  intro _p _e _s m _below _meth _c T0 W0 S0
  refine oEq (g' := mkF m 0 #[.val (.ref x), .val (.int (Int32.ofNat i))] []) (by first | (simp [entryFrame, mkF, argsToLocals, Value.category]; done) | rfl) ?_
  rcases F with F | ⟨t, kt, X1, Fc, Fv, A⟩
  · obtain ⟨t, kt, X1, Fc, Fv, A, P⟩ := F
    refine oGo W0 [.aload_n 0] (by decide +kernel) (ls' := #[.val (.ref x), .val (.int (Int32.ofNat i))]) (st' := [(.ref x)]) rfl rfl (pc' := 1) rfl ?_
    obtain ⟨v1, T1, L1, h1, vm1, W1, ⟨rfl, e1⟩, C1, st1⟩ := oCallV W0 (idx := 492) (pc := 1) (ls := #[.val (.ref x), .val (.int (Int32.ofNat i))]) (st := []) (argsL := []) X1 (c_isl K Fc) (fun x hx => nomatch hx) (hw _ (List.mem_of_getElem? (i := 60) rfl)) (hw _ (List.mem_of_getElem? (i := 61) rfl)) (notFace_of_selects (args := #[]) (mvT W0.warm (hw _ (List.mem_of_getElem? (i := 63) rfl)))) (hw _ (List.mem_of_getElem? (i := 63) rfl)) (hw _ (List.mem_of_getElem? (i := 62) rfl)) (hw _ (List.mem_of_getElem? (i := 8) rfl)) (hw _ (List.mem_of_getElem? (i := 64) rfl)) (by decide) (na := 0) rfl (by decide +kernel) rfl (stk := [(.ref x)]) rfl (by decide +kernel) (V := 0) (lb rfl) (lb rfl) (lb rfl) (lb rfl) (lb rfl)
    refine oLift st1 ?_
    rw [e1] at W1 C1
    show OG _ _ _ _ _ _ _ _ _ _ _ (mkF m 4 #[.val (.ref x), .val (.int (Int32.ofNat i))] [(.int (1 : Int32))])
    refine oIfF W1 (cd := .eq) (o := 12) (by decide +kernel) (XT.i0_eq_f (by decide)) (pc' := 7) rfl ?_
    refine oGo W1 [.aload_n 0] (by decide +kernel) (ls' := #[.val (.ref x), .val (.int (Int32.ofNat i))]) (st' := [(.ref x)]) rfl rfl (pc' := 8) rfl ?_
    obtain ⟨T2, W2, st2⟩ := oGetF W1 (pc := 8) (ls := #[.val (.ref x), .val (.int (Int32.ofNat i))]) (st := []) (hw _ (List.mem_of_getElem? (i := 25) rfl)) Via.refl Fv (by decide +kernel)
    refine oLift st2 ?_
    refine oGo W2 [.iload_n 1] (by decide +kernel) (ls' := #[.val (.ref x), .val (.int (Int32.ofNat i))]) (st' := [(.int (Int32.ofNat i)), (.ref t)]) rfl rfl (pc' := 12) rfl ?_
    obtain ⟨v3, T3, L3, h3, vm3, W3, ⟨rfl, e3⟩, C3, st3⟩ := oCallS W2 (idx := 495) (pc := 12) (ls := #[.val (.ref x), .val (.int (Int32.ofNat i))]) (st := []) (argsL := [(.ref t), (.int (Int32.ofNat i))]) (c_lch K K.2.2.2.1 A P (by omega) (n_nn (by omega)) (c := c) (by rw [n_cl (by omega)]; exact hc)) (fun x hx => nomatch hx) (hw _ (List.mem_of_getElem? (i := 65) rfl)) (hw _ (List.mem_of_getElem? (i := 66) rfl)) (hw _ (List.mem_of_getElem? (i := 67) rfl)) (hw _ (List.mem_of_getElem? (i := 68) rfl)) (by decide) (na := 2) rfl (by decide +kernel) rfl (stk := [(.int (Int32.ofNat i)), (.ref t)]) rfl (by decide +kernel) (V := 0) (lb rfl) (lb rfl) (lb rfl) (lb rfl) (lb rfl)
    refine oLift st3 ?_
    rw [e3] at W3 C3
    show OG _ _ _ _ _ _ _ _ _ _ _ (mkF m 15 #[.val (.ref x), .val (.int (Int32.ofNat i))] [(.int c)])
    exact oRetN (by simp) W3 (narU hu) (by decide +kernel) (lb rfl) (lb rfl) (fun vm' hv => ⟨rfl, rfl⟩)
  · refine oGo W0 [.aload_n 0] (by decide +kernel) (ls' := #[.val (.ref x), .val (.int (Int32.ofNat i))]) (st' := [(.ref x)]) rfl rfl (pc' := 1) rfl ?_
    obtain ⟨v4, T4, L4, h4, vm4, W4, ⟨rfl, e4⟩, C4, st4⟩ := oCallV W0 (idx := 492) (pc := 1) (ls := #[.val (.ref x), .val (.int (Int32.ofNat i))]) (st := []) (argsL := []) X1 (c_isl K Fc) (fun x hx => nomatch hx) (hw _ (List.mem_of_getElem? (i := 60) rfl)) (hw _ (List.mem_of_getElem? (i := 61) rfl)) (notFace_of_selects (args := #[]) (mvT W0.warm (hw _ (List.mem_of_getElem? (i := 63) rfl)))) (hw _ (List.mem_of_getElem? (i := 63) rfl)) (hw _ (List.mem_of_getElem? (i := 62) rfl)) (hw _ (List.mem_of_getElem? (i := 8) rfl)) (hw _ (List.mem_of_getElem? (i := 64) rfl)) (by decide) (na := 0) rfl (by decide +kernel) rfl (stk := [(.ref x)]) rfl (by decide +kernel) (V := 0) (lb rfl) (lb rfl) (lb rfl) (lb rfl) (lb rfl)
    refine oLift st4 ?_
    rw [e4] at W4 C4
    show OG _ _ _ _ _ _ _ _ _ _ _ (mkF m 4 #[.val (.ref x), .val (.int (Int32.ofNat i))] [(.int (0 : Int32))])
    refine oIfT W4 (cd := .eq) (o := 12) (by decide +kernel) (XT.i0_eq_t (by decide)) (pc' := 16) (by decide) (by decide) ?_
    refine oGo W4 [.aload_n 0] (by decide +kernel) (ls' := #[.val (.ref x), .val (.int (Int32.ofNat i))]) (st' := [(.ref x)]) rfl rfl (pc' := 17) rfl ?_
    obtain ⟨T5, W5, st5⟩ := oGetF W4 (pc := 17) (ls := #[.val (.ref x), .val (.int (Int32.ofNat i))]) (st := []) (hw _ (List.mem_of_getElem? (i := 25) rfl)) Via.refl Fv (by decide +kernel)
    refine oLift st5 ?_
    refine oGo W5 [.iload_n 1] (by decide +kernel) (ls' := #[.val (.ref x), .val (.int (Int32.ofNat i))]) (st' := [(.int (Int32.ofNat i)), (.ref t)]) rfl rfl (pc' := 21) rfl ?_
    obtain ⟨v6, T6, L6, h6, vm6, W6, ⟨rfl, e6⟩, C6, st6⟩ := oCallS W5 (idx := 498) (pc := 21) (ls := #[.val (.ref x), .val (.int (Int32.ofNat i))]) (st := []) (argsL := [(.ref t), (.int (Int32.ofNat i))]) (c_uch K A hl hc hu) (fun x hx => nomatch hx) (hw _ (List.mem_of_getElem? (i := 96) rfl)) (hw _ (List.mem_of_getElem? (i := 97) rfl)) (hw _ (List.mem_of_getElem? (i := 47) rfl)) (hw _ (List.mem_of_getElem? (i := 98) rfl)) (by decide) (na := 2) rfl (by decide +kernel) rfl (stk := [(.int (Int32.ofNat i)), (.ref t)]) rfl (by decide +kernel) (V := 0) (lb rfl) (lb rfl) (lb rfl) (lb rfl) (lb rfl)
    refine oLift st6 ?_
    rw [e6] at W6 C6
    show OG _ _ _ _ _ _ _ _ _ _ _ (mkF m 24 #[.val (.ref x), .val (.int (Int32.ofNat i))] [(.int c)])
    exact oRetN (by simp) W6 (narU hu) (by decide +kernel) (lb rfl) (lb rfl) (fun vm' hv => ⟨rfl, rfl⟩)
abbrev rm_c_lena : Room := { frames := 1, cells := 0, slots := 0, locals := 13 }
set_option maxRecDepth 65536 in
set_option maxHeartbeats 40000000 in
theorem c_lena {l : Launch} {Z : State} {a0 : Array Value} {nb : Bool} (K : Ctx Z a0) {x : Addr} {cs : List Int32} {h0 : Heap} (F : AStr Z h0 x cs) (hl : cs.length ≤ 4) :
    OC l Z EL nb [] (⟨"java/lang/String", "length", "()I"⟩ : MethodName) jdk_42_method_54_code 1 (some .int) rm_c_lena #[(.ref x)] h0 [] (fun v _ h => v = some (.int (Int32.ofNat cs.length)) ∧ h = h0) := by
  have hw := K.1
  have hS : ∀ a ∈ Bundle.stringAtoms, a.before a0 Z = true := K.2.2.1
  refine oEnter (by decide +kernel) K.2.1.2.1 ?_
  intro _p _e _s m _below _meth _c T0 W0 S0
  refine oEq (g' := mkF m 0 #[.val (.ref x)] []) (by first | (simp [entryFrame, mkF, argsToLocals, Value.category]; done) | rfl) ?_
  rcases F with F | ⟨t, kt, X1, Fc, Fv, A⟩
  · obtain ⟨t, kt, X1, Fc, Fv, A, P⟩ := F
    refine oGo W0 [.aload_n 0] (by decide +kernel) (ls' := #[.val (.ref x)]) (st' := [(.ref x)]) rfl rfl (pc' := 1) rfl ?_
    obtain ⟨T1, W1, st1⟩ := oGetF W0 (pc := 1) (ls := #[.val (.ref x)]) (st := []) (hw _ (List.mem_of_getElem? (i := 25) rfl)) Via.refl Fv (by decide +kernel)
    refine oLift st1 ?_
    refine oLen W1 A (by decide +kernel) ?_
    rw [List.length_map]
    refine oGo W1 [.aload_n 0] (by decide +kernel) (ls' := #[.val (.ref x)]) (st' := [(.ref x), (.int (Int32.ofNat cs.length))]) rfl rfl (pc' := 6) rfl ?_
    obtain ⟨v2, T2, L2, h2, vm2, W2, ⟨rfl, e2⟩, C2, st2⟩ := oCallV W1 (idx := 335) (pc := 6) (ls := #[.val (.ref x)]) (st := [(.int (Int32.ofNat cs.length))]) (argsL := []) X1 (c_coder K rfl Fc) (fun x hx => nomatch hx) (hw _ (List.mem_of_getElem? (i := 36) rfl)) (hw _ (List.mem_of_getElem? (i := 37) rfl)) (notFace_of_selects (args := #[]) (mvT W1.warm (hw _ (List.mem_of_getElem? (i := 39) rfl)))) (hw _ (List.mem_of_getElem? (i := 39) rfl)) (hw _ (List.mem_of_getElem? (i := 38) rfl)) (hw _ (List.mem_of_getElem? (i := 8) rfl)) (hw _ (List.mem_of_getElem? (i := 40) rfl)) (by decide) (na := 0) rfl (by decide +kernel) rfl (stk := [(.ref x), (.int (Int32.ofNat cs.length))]) rfl (by decide +kernel) (V := 1) (lb rfl) (lb rfl) (lb rfl) (lb rfl) (lb rfl)
    refine oLift st2 ?_
    rw [e2] at W2 C2
    show OG _ _ _ _ _ _ _ _ _ _ _ (mkF m 9 #[.val (.ref x)] [(.int (0 : Int32)), (.int (Int32.ofNat cs.length))])
    refine oGo W2 [.ishr] (by decide +kernel) (ls' := #[.val (.ref x)]) (st' := [(.int ((Int32.ofNat cs.length) >>> ((0 : Int32) &&& 31)))]) rfl rfl (pc' := 10) rfl ?_
    exact oRetI W2 (by decide +kernel) (lb rfl) (lb rfl) (fun vm' hv => ⟨by rw [shr0], rfl⟩)
  · refine oGo W0 [.aload_n 0] (by decide +kernel) (ls' := #[.val (.ref x)]) (st' := [(.ref x)]) rfl rfl (pc' := 1) rfl ?_
    obtain ⟨T3, W3, st3⟩ := oGetF W0 (pc := 1) (ls := #[.val (.ref x)]) (st := []) (hw _ (List.mem_of_getElem? (i := 25) rfl)) Via.refl Fv (by decide +kernel)
    refine oLift st3 ?_
    refine oLen W3 A (by decide +kernel) ?_
    rw [enc_len]
    refine oGo W3 [.aload_n 0] (by decide +kernel) (ls' := #[.val (.ref x)]) (st' := [(.ref x), (.int (Int32.ofNat (2 * cs.length)))]) rfl rfl (pc' := 6) rfl ?_
    obtain ⟨v4, T4, L4, h4, vm4, W4, ⟨rfl, e4⟩, C4, st4⟩ := oCallV W3 (idx := 335) (pc := 6) (ls := #[.val (.ref x)]) (st := [(.int (Int32.ofNat (2 * cs.length)))]) (argsL := []) X1 (c_coder K rfl Fc) (fun x hx => nomatch hx) (hw _ (List.mem_of_getElem? (i := 36) rfl)) (hw _ (List.mem_of_getElem? (i := 37) rfl)) (notFace_of_selects (args := #[]) (mvT W3.warm (hw _ (List.mem_of_getElem? (i := 39) rfl)))) (hw _ (List.mem_of_getElem? (i := 39) rfl)) (hw _ (List.mem_of_getElem? (i := 38) rfl)) (hw _ (List.mem_of_getElem? (i := 8) rfl)) (hw _ (List.mem_of_getElem? (i := 40) rfl)) (by decide) (na := 0) rfl (by decide +kernel) rfl (stk := [(.ref x), (.int (Int32.ofNat (2 * cs.length)))]) rfl (by decide +kernel) (V := 1) (lb rfl) (lb rfl) (lb rfl) (lb rfl) (lb rfl)
    refine oLift st4 ?_
    rw [e4] at W4 C4
    show OG _ _ _ _ _ _ _ _ _ _ _ (mkF m 9 #[.val (.ref x)] [(.int (1 : Int32)), (.int (Int32.ofNat (2 * cs.length)))])
    refine oGo W4 [.ishr] (by decide +kernel) (ls' := #[.val (.ref x)]) (st' := [(.int ((Int32.ofNat (2 * cs.length)) >>> ((1 : Int32) &&& 31)))]) rfl rfl (pc' := 10) rfl ?_
    exact oRetI W4 (by decide +kernel) (lb rfl) (lb rfl) (fun vm' hv => ⟨by rw [shr1 (by omega)], rfl⟩)
abbrev rm_c_draw : Room := { frames := 0, cells := 0, slots := 0, locals := 0 }
set_option maxRecDepth 65536 in
set_option maxHeartbeats 40000000 in
theorem c_draw {l : Launch} {Z : State} {a0 : Array Value} {nb : Bool} (K : Ctx Z a0) {x : Int32} {h0 : Heap} :
    OC l Z EL nb [] (⟨"com/example/irrmirror/irrmirror/RpslObjectIsBlankPinLaw", "draw", "(I)C"⟩ : MethodName) method_3_code 2 (some .char) rm_c_draw #[(.int x)] h0 [] (fun v _ h => (∃ c, v = some (.int c) ∧ U16 c) ∧ h = h0) := by
  have hw := K.1
  have hS : ∀ a ∈ Bundle.stringAtoms, a.before a0 Z = true := K.2.2.1
  refine oEnter (by decide +kernel) K.2.1.2.1 ?_
  intro _p _e _s m _below _meth _c T0 W0 S0
  refine oEq (g' := mkF m 0 #[.val (.int x), .unset] []) (by first | (simp [entryFrame, mkF, argsToLocals, Value.category]; done) | rfl) ?_
  refine oGo W0 [.iload_n 0, .iconst 3, .iand, .istore_n 1, .iload_n 1] (by decide +kernel) (ls' := #[.val (.int x), .val (.int (x &&& (3 : Int32)))]) (st' := [(.int (x &&& (3 : Int32)))]) rfl rfl (pc' := 5) rfl ?_
  by_cases hc1 : (x &&& (3 : Int32)) = (0 : Int32)
  · refine oIfF W0 (cd := .ne) (o := 6) (by decide +kernel) (XT.i0_ne_f hc1) (pc' := 8) rfl ?_
    refine oGo W0 [.bipush 32] (by decide +kernel) (ls' := #[.val (.int x), .val (.int (x &&& (3 : Int32)))]) (st' := [(.int (32 : Int32))]) rfl rfl (pc' := 10) rfl ?_
    exact oRetN (by simp) W0 rfl (by decide +kernel) (lb rfl) (lb rfl) (fun vm' hv => ⟨⟨_, rfl, by decide, by decide⟩, rfl⟩)
  refine oIfT W0 (cd := .ne) (o := 6) (by decide +kernel) (XT.i0_ne_t hc1) (pc' := 11) (by decide) (by decide) ?_
  refine oGo W0 [.iload_n 1, .iconst 1] (by decide +kernel) (ls' := #[.val (.int x), .val (.int (x &&& (3 : Int32)))]) (st' := [(.int (1 : Int32)), (.int (x &&& (3 : Int32)))]) rfl rfl (pc' := 13) rfl ?_
  by_cases hc2 : (x &&& (3 : Int32)) = (1 : Int32)
  · refine oIcF W0 (cd := .ne) (o := 6) (by decide +kernel) (XT.ii_ne_f hc2) (pc' := 16) rfl ?_
    refine oGo W0 [.bipush 9] (by decide +kernel) (ls' := #[.val (.int x), .val (.int (x &&& (3 : Int32)))]) (st' := [(.int (9 : Int32))]) rfl rfl (pc' := 18) rfl ?_
    exact oRetN (by simp) W0 rfl (by decide +kernel) (lb rfl) (lb rfl) (fun vm' hv => ⟨⟨_, rfl, by decide, by decide⟩, rfl⟩)
  refine oIcT W0 (cd := .ne) (o := 6) (by decide +kernel) (XT.ii_ne_t hc2) (pc' := 19) (by decide) (by decide) ?_
  refine oGo W0 [.iload_n 0, .bipush 16, .iushr, .i2c] (by decide +kernel) (ls' := #[.val (.int x), .val (.int (x &&& (3 : Int32)))]) (st' := [(.int ((XT.ushr x (16 : Int32)).toUInt32.toUInt16.toUInt32.toInt32))]) rfl rfl (pc' := 24) rfl ?_
  exact oRetN (by simp) W0 (narU (U16.i2c _)) (by decide +kernel) (lb rfl) (lb rfl) (fun vm' hv => ⟨⟨_, rfl, U16.i2c _⟩, rfl⟩)
abbrev rm_c_bc : Room := { frames := 0, cells := 0, slots := 0, locals := 0 }
set_option maxRecDepth 65536 in
set_option maxHeartbeats 40000000 in
theorem c_bc {l : Launch} {Z : State} {a0 : Array Value} {nb : Bool} (K : Ctx Z a0) {c : Int32} {h0 : Heap} :
    OC l Z EL nb [] (⟨"com/example/irrmirror/irrmirror/RpslObjectIsBlankPinLaw", "blankChar", "(C)Z"⟩ : MethodName) method_4_code 1 (some .boolean) rm_c_bc #[(.int c)] h0 [] (fun v _ h => v = some (.int (bc c)) ∧ h = h0) := by
  have hw := K.1
  have hS : ∀ a ∈ Bundle.stringAtoms, a.before a0 Z = true := K.2.2.1
  refine oEnter (by decide +kernel) K.2.1.2.1 ?_
  intro _p _e _s m _below _meth _c T0 W0 S0
  refine oEq (g' := mkF m 0 #[.val (.int c)] []) (by first | (simp [entryFrame, mkF, argsToLocals, Value.category]; done) | rfl) ?_
  refine oGo W0 [.iload_n 0, .bipush 32] (by decide +kernel) (ls' := #[.val (.int c)]) (st' := [(.int (32 : Int32)), (.int c)]) rfl rfl (pc' := 3) rfl ?_
  by_cases hc1 : c = (32 : Int32)
  · refine oIcT W0 (cd := .eq) (o := 9) (by decide +kernel) (XT.ii_eq_t hc1) (pc' := 12) (by decide) (by decide) ?_
    refine oGo W0 [.iconst 1, .goto 4] (by decide +kernel) (ls' := #[.val (.int c)]) (st' := [(.int (1 : Int32))]) rfl rfl (pc' := 17) rfl ?_
    exact oRetN (by simp) W0 rfl (by decide +kernel) (lb rfl) (lb rfl) (fun vm' hv => ⟨by rw [bc, if_pos hc1], rfl⟩)
  refine oIcF W0 (cd := .eq) (o := 9) (by decide +kernel) (XT.ii_eq_f hc1) (pc' := 6) rfl ?_
  refine oGo W0 [.iload_n 0, .bipush 9] (by decide +kernel) (ls' := #[.val (.int c)]) (st' := [(.int (9 : Int32)), (.int c)]) rfl rfl (pc' := 9) rfl ?_
  by_cases hc2 : c = (9 : Int32)
  · refine oIcF W0 (cd := .ne) (o := 7) (by decide +kernel) (XT.ii_ne_f hc2) (pc' := 12) rfl ?_
    refine oGo W0 [.iconst 1, .goto 4] (by decide +kernel) (ls' := #[.val (.int c)]) (st' := [(.int (1 : Int32))]) rfl rfl (pc' := 17) rfl ?_
    exact oRetN (by simp) W0 rfl (by decide +kernel) (lb rfl) (lb rfl) (fun vm' hv => ⟨by rw [bc, if_neg hc1, if_pos hc2], rfl⟩)
  refine oIcT W0 (cd := .ne) (o := 7) (by decide +kernel) (XT.ii_ne_t hc2) (pc' := 16) (by decide) (by decide) ?_
  refine oGo W0 [.iconst 0] (by decide +kernel) (ls' := #[.val (.int c)]) (st' := [(.int (0 : Int32))]) rfl rfl (pc' := 17) rfl ?_
  exact oRetN (by simp) W0 rfl (by decide +kernel) (lb rfl) (lb rfl) (fun vm' hv => ⟨by rw [bc, if_neg hc1, if_neg hc2], rfl⟩)
abbrev rm_c_ibl : Room := { frames := 5, cells := 0, slots := 0, locals := 66 }
set_option maxRecDepth 65536 in
set_option maxHeartbeats 40000000 in
theorem c_ibl_l {l : Launch} {Z : State} {a0 : Array Value} {nb : Bool} (K : Ctx Z a0) {x : Addr} {cs : List Int32} {h0 : Heap} (F : AStr Z h0 x cs) (hl : cs.length ≤ 4) (hU : ∀ c ∈ cs, U16 c) {p : Program} {e : Env} {s : State} {m : MethodId} {args : Array Value} {below : List Frame} {meth : Method} {cc : Code} :
    ∀ (rest : List Int32) (i : Nat) (s2 : Slot) {vm0 : Vm} {T0 : State} {lc : List Loc} (W0 : OW p l e rm_c_ibl s m args below meth cc Z a0 EL nb "com/example/irrmirror/irrmirror/RpslObject" prog_21_method_12_code 3 (some .boolean) "isBlank" vm0 T0 lc 0 0 h0) (hr : cs.drop i = rest) (hi : i ≤ cs.length) (h2 : s2 = .unset ∨ ∃ k, s2 = .val (.int k)) (hq : blk cs = blk rest), OG p e below s Z EL nb (fun v _ h => v = some (.int (blk cs)) ∧ h = h0) rm_c_ibl.cells rm_c_ibl.slots T0 (mkF m 2 #[.val (.ref x), .val (.int (Int32.ofNat i)), s2] [])
  | [], i, s2, vm0, T0, lc, W0, hr, hi, h2, hq => by
    have hw := K.1
    refine oGo W0 [.iload_n 1, .aload_n 0] (by decide +kernel) (ls' := #[.val (.ref x), .val (.int (Int32.ofNat i)), s2]) (st' := [(.ref x), (.int (Int32.ofNat i))]) rfl rfl (pc' := 4) rfl ?_
    obtain ⟨v101, T101, L101, h101, vm101, W101, ⟨rfl, e101⟩, C101, st101⟩ := oCallV W0 (idx := 193) (pc := 4) (ls := #[.val (.ref x), .val (.int (Int32.ofNat i)), s2]) (st := [(.int (Int32.ofNat i))]) (argsL := []) F.exa (c_lena K F hl) (fun x hx => nomatch hx) (hw _ (List.mem_of_getElem? (i := 31) rfl)) (hw _ (List.mem_of_getElem? (i := 32) rfl)) (notFace_of_selects (args := #[]) (mvT W0.warm (hw _ (List.mem_of_getElem? (i := 34) rfl)))) (hw _ (List.mem_of_getElem? (i := 34) rfl)) (hw _ (List.mem_of_getElem? (i := 33) rfl)) (hw _ (List.mem_of_getElem? (i := 8) rfl)) (hw _ (List.mem_of_getElem? (i := 35) rfl)) (by decide) (na := 0) rfl (by decide +kernel) rfl (stk := [(.ref x), (.int (Int32.ofNat i))]) rfl (by decide +kernel) (V := 1) (lb rfl) (lb rfl) (lb rfl) (lb rfl) (lb rfl)
    refine oLift st101 ?_
    rw [e101] at W101 C101
    show OG _ _ _ _ _ _ _ _ _ _ _ (mkF m 7 #[.val (.ref x), .val (.int (Int32.ofNat i)), s2] [(.int (Int32.ofNat cs.length)), (.int (Int32.ofNat i))])
    refine oIcT W101 (cd := .ge) (o := 29) (by decide +kernel) (XT.ii_ge_t (fun q => absurd ((n_lt (by omega) (by omega)).mp q) (by have := List.drop_eq_nil_iff.mp hr; omega))) (pc' := 36) (by decide) (by decide) ?_
    refine oGo W101 [.iconst 1] (by decide +kernel) (ls' := #[.val (.ref x), .val (.int (Int32.ofNat i)), s2]) (st' := [(.int (1 : Int32))]) rfl rfl (pc' := 37) rfl ?_
    exact oRetN (by simp) W101 rfl (by decide +kernel) (lb rfl) (lb rfl) (fun vm' hv => ⟨by rw [hq]; rfl, rfl⟩)
  | c :: rest, i, s2, vm0, T0, lc, W0, hr, hi, h2, hq => by
    have hw := K.1
    have hc : cs[i]? = some c := by have := congrArg (fun l => l[0]?) hr; simpa [List.getElem?_drop] using this
    have hr1 : cs.drop (i + 1) = rest := by have := congrArg List.tail hr; simpa [List.tail_drop] using this
    have hlt : i < cs.length := (List.getElem?_eq_some_iff.mp hc).1
    have hu := hU c (List.mem_of_getElem? hc)
    refine oGo W0 [.iload_n 1, .aload_n 0] (by decide +kernel) (ls' := #[.val (.ref x), .val (.int (Int32.ofNat i)), s2]) (st' := [(.ref x), (.int (Int32.ofNat i))]) rfl rfl (pc' := 4) rfl ?_
    obtain ⟨v101, T101, L101, h101, vm101, W101, ⟨rfl, e101⟩, C101, st101⟩ := oCallV W0 (idx := 193) (pc := 4) (ls := #[.val (.ref x), .val (.int (Int32.ofNat i)), s2]) (st := [(.int (Int32.ofNat i))]) (argsL := []) F.exa (c_lena K F hl) (fun x hx => nomatch hx) (hw _ (List.mem_of_getElem? (i := 31) rfl)) (hw _ (List.mem_of_getElem? (i := 32) rfl)) (notFace_of_selects (args := #[]) (mvT W0.warm (hw _ (List.mem_of_getElem? (i := 34) rfl)))) (hw _ (List.mem_of_getElem? (i := 34) rfl)) (hw _ (List.mem_of_getElem? (i := 33) rfl)) (hw _ (List.mem_of_getElem? (i := 8) rfl)) (hw _ (List.mem_of_getElem? (i := 35) rfl)) (by decide) (na := 0) rfl (by decide +kernel) rfl (stk := [(.ref x), (.int (Int32.ofNat i))]) rfl (by decide +kernel) (V := 1) (lb rfl) (lb rfl) (lb rfl) (lb rfl) (lb rfl)
    refine oLift st101 ?_
    rw [e101] at W101 C101
    show OG _ _ _ _ _ _ _ _ _ _ _ (mkF m 7 #[.val (.ref x), .val (.int (Int32.ofNat i)), s2] [(.int (Int32.ofNat cs.length)), (.int (Int32.ofNat i))])
    refine oIcF W101 (cd := .ge) (o := 29) (by decide +kernel) (XT.ii_ge_f ((n_lt (by omega) (by omega)).mpr hlt)) (pc' := 10) rfl ?_
    refine oGo W101 [.aload_n 0, .iload_n 1] (by decide +kernel) (ls' := #[.val (.ref x), .val (.int (Int32.ofNat i)), s2]) (st' := [(.int (Int32.ofNat i)), (.ref x)]) rfl rfl (pc' := 12) rfl ?_
    obtain ⟨v102, T102, L102, h102, vm102, W102, ⟨rfl, e102⟩, C102, st102⟩ := oCallV W101 (idx := 197) (pc := 12) (ls := #[.val (.ref x), .val (.int (Int32.ofNat i)), s2]) (st := []) (argsL := [(.int (Int32.ofNat i))]) F.exa (c_cha K F hl hc hu) (fun x hx => nomatch hx) (hw _ (List.mem_of_getElem? (i := 55) rfl)) (hw _ (List.mem_of_getElem? (i := 56) rfl)) (notFace_of_selects (args := #[]) (mvT W101.warm (hw _ (List.mem_of_getElem? (i := 58) rfl)))) (hw _ (List.mem_of_getElem? (i := 58) rfl)) (hw _ (List.mem_of_getElem? (i := 57) rfl)) (hw _ (List.mem_of_getElem? (i := 8) rfl)) (hw _ (List.mem_of_getElem? (i := 59) rfl)) (by decide) (na := 1) rfl (by decide +kernel) rfl (stk := [(.int (Int32.ofNat i)), (.ref x)]) rfl (by decide +kernel) (V := 0) (lb rfl) (lb rfl) (lb rfl) (lb rfl) (lb rfl)
    refine oLift st102 ?_
    rw [e102] at W102 C102
    show OG _ _ _ _ _ _ _ _ _ _ _ (mkF m 15 #[.val (.ref x), .val (.int (Int32.ofNat i)), s2] [(.int c)])
    rcases h2 with rfl | ⟨k, rfl⟩
    · refine oGo W102 [.istore_n 2, .iload_n 2, .bipush 32] (by decide +kernel) (ls' := #[.val (.ref x), .val (.int (Int32.ofNat i)), .val (.int c)]) (st' := [(.int (32 : Int32)), (.int c)]) rfl rfl (pc' := 19) rfl ?_
      by_cases hc103 : c = (32 : Int32)
      · refine oIcT W102 (cd := .eq) (o := 11) (by decide +kernel) (XT.ii_eq_t hc103) (pc' := 30) (by decide) (by decide) ?_
        refine oGo W102 [.iinc 1 1, .goto (-31)] (by decide +kernel) (ls' := #[.val (.ref x), .val (.int ((Int32.ofNat i) + (1 : Int32))), .val (.int c)]) (st' := []) rfl rfl (pc' := 2) rfl ?_
        rw [n_in]
        exact c_ibl_l K F hl hU rest (i + 1) _ W102 hr1 (by omega) (Or.inr ⟨_, rfl⟩) (by rw [hq, blk, if_neg (by rw [bc, if_pos hc103]; decide)])
      refine oIcF W102 (cd := .eq) (o := 11) (by decide +kernel) (XT.ii_eq_f hc103) (pc' := 22) rfl ?_
      refine oGo W102 [.iload_n 2, .bipush 9] (by decide +kernel) (ls' := #[.val (.ref x), .val (.int (Int32.ofNat i)), .val (.int c)]) (st' := [(.int (9 : Int32)), (.int c)]) rfl rfl (pc' := 25) rfl ?_
      by_cases hc104 : c = (9 : Int32)
      · refine oIcT W102 (cd := .eq) (o := 5) (by decide +kernel) (XT.ii_eq_t hc104) (pc' := 30) (by decide) (by decide) ?_
        refine oGo W102 [.iinc 1 1, .goto (-31)] (by decide +kernel) (ls' := #[.val (.ref x), .val (.int ((Int32.ofNat i) + (1 : Int32))), .val (.int c)]) (st' := []) rfl rfl (pc' := 2) rfl ?_
        rw [n_in]
        exact c_ibl_l K F hl hU rest (i + 1) _ W102 hr1 (by omega) (Or.inr ⟨_, rfl⟩) (by rw [hq, blk, if_neg (by rw [bc, if_neg hc103, if_pos hc104]; decide)])
      refine oIcF W102 (cd := .eq) (o := 5) (by decide +kernel) (XT.ii_eq_f hc104) (pc' := 28) rfl ?_
      refine oGo W102 [.iconst 0] (by decide +kernel) (ls' := #[.val (.ref x), .val (.int (Int32.ofNat i)), .val (.int c)]) (st' := [(.int (0 : Int32))]) rfl rfl (pc' := 29) rfl ?_
      exact oRetN (by simp) W102 rfl (by decide +kernel) (lb rfl) (lb rfl) (fun vm' hv => ⟨by rw [hq, blk, if_pos (by rw [bc, if_neg hc103, if_neg hc104])], rfl⟩)
    · refine oGo W102 [.istore_n 2, .iload_n 2, .bipush 32] (by decide +kernel) (ls' := #[.val (.ref x), .val (.int (Int32.ofNat i)), .val (.int c)]) (st' := [(.int (32 : Int32)), (.int c)]) rfl rfl (pc' := 19) rfl ?_
      by_cases hc105 : c = (32 : Int32)
      · refine oIcT W102 (cd := .eq) (o := 11) (by decide +kernel) (XT.ii_eq_t hc105) (pc' := 30) (by decide) (by decide) ?_
        refine oGo W102 [.iinc 1 1, .goto (-31)] (by decide +kernel) (ls' := #[.val (.ref x), .val (.int ((Int32.ofNat i) + (1 : Int32))), .val (.int c)]) (st' := []) rfl rfl (pc' := 2) rfl ?_
        rw [n_in]
        exact c_ibl_l K F hl hU rest (i + 1) _ W102 hr1 (by omega) (Or.inr ⟨_, rfl⟩) (by rw [hq, blk, if_neg (by rw [bc, if_pos hc105]; decide)])
      refine oIcF W102 (cd := .eq) (o := 11) (by decide +kernel) (XT.ii_eq_f hc105) (pc' := 22) rfl ?_
      refine oGo W102 [.iload_n 2, .bipush 9] (by decide +kernel) (ls' := #[.val (.ref x), .val (.int (Int32.ofNat i)), .val (.int c)]) (st' := [(.int (9 : Int32)), (.int c)]) rfl rfl (pc' := 25) rfl ?_
      by_cases hc106 : c = (9 : Int32)
      · refine oIcT W102 (cd := .eq) (o := 5) (by decide +kernel) (XT.ii_eq_t hc106) (pc' := 30) (by decide) (by decide) ?_
        refine oGo W102 [.iinc 1 1, .goto (-31)] (by decide +kernel) (ls' := #[.val (.ref x), .val (.int ((Int32.ofNat i) + (1 : Int32))), .val (.int c)]) (st' := []) rfl rfl (pc' := 2) rfl ?_
        rw [n_in]
        exact c_ibl_l K F hl hU rest (i + 1) _ W102 hr1 (by omega) (Or.inr ⟨_, rfl⟩) (by rw [hq, blk, if_neg (by rw [bc, if_neg hc105, if_pos hc106]; decide)])
      refine oIcF W102 (cd := .eq) (o := 5) (by decide +kernel) (XT.ii_eq_f hc106) (pc' := 28) rfl ?_
      refine oGo W102 [.iconst 0] (by decide +kernel) (ls' := #[.val (.ref x), .val (.int (Int32.ofNat i)), .val (.int c)]) (st' := [(.int (0 : Int32))]) rfl rfl (pc' := 29) rfl ?_
      exact oRetN (by simp) W102 rfl (by decide +kernel) (lb rfl) (lb rfl) (fun vm' hv => ⟨by rw [hq, blk, if_pos (by rw [bc, if_neg hc105, if_neg hc106])], rfl⟩)
set_option maxRecDepth 65536 in
set_option maxHeartbeats 40000000 in
theorem c_ibl {l : Launch} {Z : State} {a0 : Array Value} {nb : Bool} (K : Ctx Z a0) {x : Addr} {cs : List Int32} {h0 : Heap} (F : AStr Z h0 x cs) (hl : cs.length ≤ 4) (hU : ∀ c ∈ cs, U16 c) :
    OC l Z EL nb [] (⟨"com/example/irrmirror/irrmirror/RpslObject", "isBlank", "(Ljava/lang/String;)Z"⟩ : MethodName) prog_21_method_12_code 3 (some .boolean) rm_c_ibl #[(.ref x)] h0 [] (fun v _ h => v = some (.int (blk cs)) ∧ h = h0) := by
  have hw := K.1
  have hS : ∀ a ∈ Bundle.stringAtoms, a.before a0 Z = true := K.2.2.1
  refine oEnter (by decide +kernel) K.2.1.2.1 ?_
  intro _p _e _s m _below _meth _c T0 W0 S0
  refine oEq (g' := mkF m 0 #[.val (.ref x), .unset, .unset] []) (by first | (simp [entryFrame, mkF, argsToLocals, Value.category]; done) | rfl) ?_
  refine oGo W0 [.iconst 0, .istore_n 1] (by decide +kernel) (ls' := #[.val (.ref x), .val (.int (0 : Int32)), .unset]) (st' := []) rfl rfl (pc' := 2) rfl ?_
  exact c_ibl_l K F hl hU cs 0 .unset W0 (by simp) (by omega) (Or.inl rfl) rfl
set_option maxRecDepth 65536 in
set_option maxHeartbeats 40000000 in
theorem c_law {l : Launch} {Z : State} {a0 : Array Value} (K : Ctx Z a0) (i0 i1 i2 i3 i4 : Int32) (h0 : Heap) :
    OC l Z EL false tables_1 x code maxLocals ret room_1 #[(.int i0), (.int i1), (.int i2), (.int i3), (.int i4)] h0 [] (fun v _ h => v = some (.int 1)) := by
  have hw := K.1
  have hS : ∀ a ∈ Bundle.stringAtoms, a.before a0 Z = true := K.2.2.1
  refine oEnter (by decide +kernel) K.2.1.2.1 ?_
  intro _p _e _s m _below _meth _c T0 W0 S0
  refine oEq (g' := mkF m 0 #[.val (.int i0), .val (.int i1), .val (.int i2), .val (.int i3), .val (.int i4), .unset, .unset, .unset, .unset, .unset, .unset, .unset] []) (by first | (simp [entryFrame, mkF, argsToLocals, Value.category, maxLocals]; done) | rfl) ?_
  refine oGo W0 [.iload_n 0] (by decide +kernel) (ls' := #[.val (.int i0), .val (.int i1), .val (.int i2), .val (.int i3), .val (.int i4), .unset, .unset, .unset, .unset, .unset, .unset, .unset]) (st' := [(.int i0)]) rfl rfl (pc' := 1) rfl ?_
  refine oLdcI W0 (hw _ (List.mem_of_getElem? (i := 0) rfl)) (by decide +kernel) ?_
  refine oGo W0 [.iand, .iconst 5, .irem, .istore 5, .iload_n 1] (by decide +kernel) (ls' := #[.val (.int i0), .val (.int i1), .val (.int i2), .val (.int i3), .val (.int i4), .val (.int ((i0 &&& (2147483647 : Int32)) % (5 : Int32))), .unset, .unset, .unset, .unset, .unset, .unset]) (st' := [(.int i1)]) rfl rfl (pc' := 9) rfl ?_
  obtain ⟨v1, T1, L1, h1, vm1, W1, ⟨⟨c0, rfl, u0⟩, e1⟩, C1, st1⟩ := oCallS W0 (idx := 8) (pc := 9) (ls := #[.val (.int i0), .val (.int i1), .val (.int i2), .val (.int i3), .val (.int i4), .val (.int ((i0 &&& (2147483647 : Int32)) % (5 : Int32))), .unset, .unset, .unset, .unset, .unset, .unset]) (st := []) (argsL := [(.int i1)]) (c_draw K) (fun x hx => nomatch hx) (hw _ (List.mem_of_getElem? (i := 1) rfl)) (hw _ (List.mem_of_getElem? (i := 2) rfl)) (hw _ (List.mem_of_getElem? (i := 3) rfl)) (hw _ (List.mem_of_getElem? (i := 4) rfl)) (by decide) (na := 1) rfl (by decide +kernel) rfl (stk := [(.int i1)]) rfl (by decide +kernel) (V := 0) (lb rfl) (lb rfl) (lb rfl) (lb rfl) (lb rfl)
  refine oLift st1 ?_
  rw [e1] at W1 C1
  show OG _ _ _ _ _ _ _ _ _ _ _ (mkF m 12 #[.val (.int i0), .val (.int i1), .val (.int i2), .val (.int i3), .val (.int i4), .val (.int ((i0 &&& (2147483647 : Int32)) % (5 : Int32))), .unset, .unset, .unset, .unset, .unset, .unset] [(.int c0)])
  refine oGo W1 [.istore 6, .iload_n 2] (by decide +kernel) (ls' := #[.val (.int i0), .val (.int i1), .val (.int i2), .val (.int i3), .val (.int i4), .val (.int ((i0 &&& (2147483647 : Int32)) % (5 : Int32))), .val (.int c0), .unset, .unset, .unset, .unset, .unset]) (st' := [(.int i2)]) rfl rfl (pc' := 15) rfl ?_
  obtain ⟨v2, T2, L2, h2, vm2, W2, ⟨⟨c1, rfl, u1⟩, e2⟩, C2, st2⟩ := oCallS W1 (idx := 8) (pc := 15) (ls := #[.val (.int i0), .val (.int i1), .val (.int i2), .val (.int i3), .val (.int i4), .val (.int ((i0 &&& (2147483647 : Int32)) % (5 : Int32))), .val (.int c0), .unset, .unset, .unset, .unset, .unset]) (st := []) (argsL := [(.int i2)]) (c_draw K) (fun x hx => nomatch hx) (hw _ (List.mem_of_getElem? (i := 1) rfl)) (hw _ (List.mem_of_getElem? (i := 2) rfl)) (hw _ (List.mem_of_getElem? (i := 3) rfl)) (hw _ (List.mem_of_getElem? (i := 4) rfl)) (by decide) (na := 1) rfl (by decide +kernel) rfl (stk := [(.int i2)]) rfl (by decide +kernel) (V := 0) (lb rfl) (lb rfl) (lb rfl) (lb rfl) (lb rfl)
  refine oLift st2 ?_
  rw [e2] at W2 C2
  show OG _ _ _ _ _ _ _ _ _ _ _ (mkF m 18 #[.val (.int i0), .val (.int i1), .val (.int i2), .val (.int i3), .val (.int i4), .val (.int ((i0 &&& (2147483647 : Int32)) % (5 : Int32))), .val (.int c0), .unset, .unset, .unset, .unset, .unset] [(.int c1)])
  refine oGo W2 [.istore 7, .iload_n 3] (by decide +kernel) (ls' := #[.val (.int i0), .val (.int i1), .val (.int i2), .val (.int i3), .val (.int i4), .val (.int ((i0 &&& (2147483647 : Int32)) % (5 : Int32))), .val (.int c0), .val (.int c1), .unset, .unset, .unset, .unset]) (st' := [(.int i3)]) rfl rfl (pc' := 21) rfl ?_
  obtain ⟨v3, T3, L3, h3, vm3, W3, ⟨⟨c2, rfl, u2⟩, e3⟩, C3, st3⟩ := oCallS W2 (idx := 8) (pc := 21) (ls := #[.val (.int i0), .val (.int i1), .val (.int i2), .val (.int i3), .val (.int i4), .val (.int ((i0 &&& (2147483647 : Int32)) % (5 : Int32))), .val (.int c0), .val (.int c1), .unset, .unset, .unset, .unset]) (st := []) (argsL := [(.int i3)]) (c_draw K) (fun x hx => nomatch hx) (hw _ (List.mem_of_getElem? (i := 1) rfl)) (hw _ (List.mem_of_getElem? (i := 2) rfl)) (hw _ (List.mem_of_getElem? (i := 3) rfl)) (hw _ (List.mem_of_getElem? (i := 4) rfl)) (by decide) (na := 1) rfl (by decide +kernel) rfl (stk := [(.int i3)]) rfl (by decide +kernel) (V := 0) (lb rfl) (lb rfl) (lb rfl) (lb rfl) (lb rfl)
  refine oLift st3 ?_
  rw [e3] at W3 C3
  show OG _ _ _ _ _ _ _ _ _ _ _ (mkF m 24 #[.val (.int i0), .val (.int i1), .val (.int i2), .val (.int i3), .val (.int i4), .val (.int ((i0 &&& (2147483647 : Int32)) % (5 : Int32))), .val (.int c0), .val (.int c1), .unset, .unset, .unset, .unset] [(.int c2)])
  refine oGo W3 [.istore 8, .iload 4] (by decide +kernel) (ls' := #[.val (.int i0), .val (.int i1), .val (.int i2), .val (.int i3), .val (.int i4), .val (.int ((i0 &&& (2147483647 : Int32)) % (5 : Int32))), .val (.int c0), .val (.int c1), .val (.int c2), .unset, .unset, .unset]) (st' := [(.int i4)]) rfl rfl (pc' := 28) rfl ?_
  obtain ⟨v4, T4, L4, h4, vm4, W4, ⟨⟨c3, rfl, u3⟩, e4⟩, C4, st4⟩ := oCallS W3 (idx := 8) (pc := 28) (ls := #[.val (.int i0), .val (.int i1), .val (.int i2), .val (.int i3), .val (.int i4), .val (.int ((i0 &&& (2147483647 : Int32)) % (5 : Int32))), .val (.int c0), .val (.int c1), .val (.int c2), .unset, .unset, .unset]) (st := []) (argsL := [(.int i4)]) (c_draw K) (fun x hx => nomatch hx) (hw _ (List.mem_of_getElem? (i := 1) rfl)) (hw _ (List.mem_of_getElem? (i := 2) rfl)) (hw _ (List.mem_of_getElem? (i := 3) rfl)) (hw _ (List.mem_of_getElem? (i := 4) rfl)) (by decide) (na := 1) rfl (by decide +kernel) rfl (stk := [(.int i4)]) rfl (by decide +kernel) (V := 0) (lb rfl) (lb rfl) (lb rfl) (lb rfl) (lb rfl)
  refine oLift st4 ?_
  rw [e4] at W4 C4
  show OG _ _ _ _ _ _ _ _ _ _ _ (mkF m 31 #[.val (.int i0), .val (.int i1), .val (.int i2), .val (.int i3), .val (.int i4), .val (.int ((i0 &&& (2147483647 : Int32)) % (5 : Int32))), .val (.int c0), .val (.int c1), .val (.int c2), .unset, .unset, .unset] [(.int c3)])
  refine oGo W4 [.istore 9, .iload 5] (by decide +kernel) (ls' := #[.val (.int i0), .val (.int i1), .val (.int i2), .val (.int i3), .val (.int i4), .val (.int ((i0 &&& (2147483647 : Int32)) % (5 : Int32))), .val (.int c0), .val (.int c1), .val (.int c2), .val (.int c3), .unset, .unset]) (st' := [(.int ((i0 &&& (2147483647 : Int32)) % (5 : Int32)))]) rfl rfl (pc' := 35) rfl ?_
  rcases own_rem5 i0 with hL | hL | hL | hL | hL
  · rw [hL]
    refine oIfF W4 (cd := .ne) (o := 11) (by decide +kernel) (XT.i0_ne_f (by decide)) (pc' := 38) rfl ?_
    refine oGo W4 [.iconst 0] (by decide +kernel) (ls' := #[.val (.int i0), .val (.int i1), .val (.int i2), .val (.int i3), .val (.int i4), .val (.int (0 : Int32)), .val (.int c0), .val (.int c1), .val (.int c2), .val (.int c3), .unset, .unset]) (st' := [(.int (0 : Int32))]) rfl rfl (pc' := 39) rfl ?_
    obtain ⟨T5, h5, a5, k5, W5, g5, E5, A5, S5, C5, st5⟩ := oNewA W4 (aty := .char) (pc := 39) (ls := #[.val (.int i0), .val (.int i1), .val (.int i2), .val (.int i3), .val (.int i4), .val (.int (0 : Int32)), .val (.int c0), .val (.int c1), .val (.int c2), .val (.int c3), .unset, .unset]) (st := []) (hw _ (List.mem_of_getElem? (i := 5) rfl)) (by decide +kernel) (n := (0 : Int32)) (by decide) (cap := 0) (lb rfl) (lb rfl) (lb rfl) (lb rfl)
    refine oLift st5 ?_
    have A5 : OA Z h5 a5 k5 .char [] := A5
    refine oGo W5 [.astore 10, .goto 100, .iload 5, .iconst 1] (by decide +kernel) (ls' := #[.val (.int i0), .val (.int i1), .val (.int i2), .val (.int i3), .val (.int i4), .val (.int (0 : Int32)), .val (.int c0), .val (.int c1), .val (.int c2), .val (.int c3), .val (.ref a5), .unset]) (st' := [(.int (1 : Int32)), (.int (0 : Int32))]) rfl rfl (pc' := 146) rfl ?_
    refine oIcT W5 (cd := .lt) (o := 11) (by decide +kernel) (XT.ii_lt_t (by decide)) (pc' := 157) (by decide) (by decide) ?_
    refine oGo W5 [.iload 5, .iconst 2] (by decide +kernel) (ls' := #[.val (.int i0), .val (.int i1), .val (.int i2), .val (.int i3), .val (.int i4), .val (.int (0 : Int32)), .val (.int c0), .val (.int c1), .val (.int c2), .val (.int c3), .val (.ref a5), .unset]) (st' := [(.int (2 : Int32)), (.int (0 : Int32))]) rfl rfl (pc' := 160) rfl ?_
    refine oIcT W5 (cd := .lt) (o := 11) (by decide +kernel) (XT.ii_lt_t (by decide)) (pc' := 171) (by decide) (by decide) ?_
    refine oGo W5 [.iload 5, .iconst 3] (by decide +kernel) (ls' := #[.val (.int i0), .val (.int i1), .val (.int i2), .val (.int i3), .val (.int i4), .val (.int (0 : Int32)), .val (.int c0), .val (.int c1), .val (.int c2), .val (.int c3), .val (.ref a5), .unset]) (st' := [(.int (3 : Int32)), (.int (0 : Int32))]) rfl rfl (pc' := 174) rfl ?_
    refine oIcT W5 (cd := .lt) (o := 11) (by decide +kernel) (XT.ii_lt_t (by decide)) (pc' := 185) (by decide) (by decide) ?_
    refine oGo W5 [.iload 5, .iconst 4] (by decide +kernel) (ls' := #[.val (.int i0), .val (.int i1), .val (.int i2), .val (.int i3), .val (.int i4), .val (.int (0 : Int32)), .val (.int c0), .val (.int c1), .val (.int c2), .val (.int c3), .val (.ref a5), .unset]) (st' := [(.int (4 : Int32)), (.int (0 : Int32))]) rfl rfl (pc' := 188) rfl ?_
    refine oIcT W5 (cd := .lt) (o := 11) (by decide +kernel) (XT.ii_lt_t (by decide)) (pc' := 199) (by decide) (by decide) ?_
    refine oGo W5 [.iconst 1, .goto 4, .istore 11] (by decide +kernel) (ls' := #[.val (.int i0), .val (.int i1), .val (.int i2), .val (.int i3), .val (.int i4), .val (.int (0 : Int32)), .val (.int c0), .val (.int c1), .val (.int c2), .val (.int c3), .val (.ref a5), .val (.int (1 : Int32))]) (st' := []) rfl rfl (pc' := 206) rfl ?_
    obtain ⟨T6, h6, a6, W6, g6, E6, A6, D6, S6, C6, st6⟩ := oNew W5 (pc := 206) (ls := #[.val (.int i0), .val (.int i1), .val (.int i2), .val (.int i3), .val (.int i4), .val (.int (0 : Int32)), .val (.int c0), .val (.int c1), .val (.int c2), .val (.int c3), .val (.ref a5), .val (.int (1 : Int32))]) (st := []) (hw _ (List.mem_of_getElem? (i := 6) rfl)) (hw _ (List.mem_of_getElem? (i := 7) rfl)) (hw _ (List.mem_of_getElem? (i := 8) rfl)) (by decide +kernel) (lb rfl) (lb rfl)
    refine oLift st6 ?_
    refine oGo W6 [.dup, .aload 10] (by decide +kernel) (ls' := #[.val (.int i0), .val (.int i1), .val (.int i2), .val (.int i3), .val (.int i4), .val (.int (0 : Int32)), .val (.int c0), .val (.int c1), .val (.int c2), .val (.int c3), .val (.ref a5), .val (.int (1 : Int32))]) (st' := [(.ref a5), (.ref a6), (.ref a6)]) rfl rfl (pc' := 212) rfl ?_
    obtain ⟨v7, T7, L7, h7, vm7, W7, ⟨rfl, K7, F7⟩, C7, st7⟩ := oCallN W6 (idx := 20) (pc := 212) (ls := #[.val (.int i0), .val (.int i1), .val (.int i2), .val (.int i3), .val (.int i4), .val (.int (0 : Int32)), .val (.int c0), .val (.int c1), .val (.int c2), .val (.int c3), .val (.ref a5), .val (.int (1 : Int32))]) (st := [(.ref a6)]) (a := a6) (argsL := [(.ref a5)]) (k_I1e K.2.1 hS (hw _ (List.mem_of_getElem? (i := 19) rfl)) (by decide) (A5.ext E6) (Nat.le_trans W5.ext.1 g6) A6 (D6 (Or.inr (hw _ (List.mem_of_getElem? (i := 22) rfl))) (ty := .byte) (by decide)) (D6 (Or.inr (hw _ (List.mem_of_getElem? (i := 21) rfl))) (ty := (.array .byte)) (by decide))) (fun y hy => by cases List.mem_singleton.mp hy; exact ⟨A6.lt, S6⟩) rfl (hw _ (List.mem_of_getElem? (i := 9) rfl)) (hw _ (List.mem_of_getElem? (i := 10) rfl)) (hw _ (List.mem_of_getElem? (i := 8) rfl)) (hw _ (List.mem_of_getElem? (i := 11) rfl)) (by decide) (na := 1) rfl (by decide +kernel) rfl (stk := [(.ref a5), (.ref a6), (.ref a6)]) rfl (by decide +kernel) (V := 1) (lb rfl) (lb rfl) (lb rfl) (lb rfl) (lb rfl)
    refine oLift st7 ?_
    show OG _ _ _ _ _ _ _ _ _ _ _ (mkF m 215 #[.val (.int i0), .val (.int i1), .val (.int i2), .val (.int i3), .val (.int i4), .val (.int (0 : Int32)), .val (.int c0), .val (.int c1), .val (.int c2), .val (.int c3), .val (.ref a5), .val (.int (1 : Int32))] [(.ref a6)])
    obtain ⟨v8, T8, L8, h8, vm8, W8, ⟨rfl, e8⟩, C8, st8⟩ := oCallS W7 (idx := 23) (pc := 215) (ls := #[.val (.int i0), .val (.int i1), .val (.int i2), .val (.int i3), .val (.int i4), .val (.int (0 : Int32)), .val (.int c0), .val (.int c1), .val (.int c2), .val (.int c3), .val (.ref a5), .val (.int (1 : Int32))]) (st := []) (argsL := [(.ref a6)]) (c_ibl K (cs := []) (Or.inl F7) (lb rfl) own_nil) (fun x hx => nomatch hx) (hw _ (List.mem_of_getElem? (i := 27) rfl)) (hw _ (List.mem_of_getElem? (i := 28) rfl)) (hw _ (List.mem_of_getElem? (i := 29) rfl)) (hw _ (List.mem_of_getElem? (i := 30) rfl)) (by decide) (na := 1) rfl (by decide +kernel) rfl (stk := [(.ref a6)]) rfl (by decide +kernel) (V := 0) (lb rfl) (lb rfl) (lb rfl) (lb rfl) (lb rfl)
    refine oLift st8 ?_
    rw [e8] at W8 C8
    show OG _ _ _ _ _ _ _ _ _ _ _ (mkF m 218 #[.val (.int i0), .val (.int i1), .val (.int i2), .val (.int i3), .val (.int i4), .val (.int (0 : Int32)), .val (.int c0), .val (.int c1), .val (.int c2), .val (.int c3), .val (.ref a5), .val (.int (1 : Int32))] [(.int (blk []))])
    refine oGo W8 [.iload 11] (by decide +kernel) (ls' := #[.val (.int i0), .val (.int i1), .val (.int i2), .val (.int i3), .val (.int i4), .val (.int (0 : Int32)), .val (.int c0), .val (.int c1), .val (.int c2), .val (.int c3), .val (.ref a5), .val (.int (1 : Int32))]) (st' := [(.int (1 : Int32)), (.int (blk []))]) rfl rfl (pc' := 220) rfl ?_
    refine oIcF W8 (cd := .ne) (o := 7) (by decide +kernel) (XT.ii_ne_f (by simp [blk])) (pc' := 223) rfl ?_
    refine oGo W8 [.iconst 1, .goto 4] (by decide +kernel) (ls' := #[.val (.int i0), .val (.int i1), .val (.int i2), .val (.int i3), .val (.int i4), .val (.int (0 : Int32)), .val (.int c0), .val (.int c1), .val (.int c2), .val (.int c3), .val (.ref a5), .val (.int (1 : Int32))]) (st' := [(.int (1 : Int32))]) rfl rfl (pc' := 228) rfl ?_
    exact oRetN (by simp) W8 rfl (by decide +kernel) (lb rfl) (lb rfl) (fun vm' hv => rfl)
  · rw [hL]
    refine oIfT W4 (cd := .ne) (o := 11) (by decide +kernel) (XT.i0_ne_t (by decide)) (pc' := 46) (by decide) (by decide) ?_
    refine oGo W4 [.iload 5, .iconst 1] (by decide +kernel) (ls' := #[.val (.int i0), .val (.int i1), .val (.int i2), .val (.int i3), .val (.int i4), .val (.int (1 : Int32)), .val (.int c0), .val (.int c1), .val (.int c2), .val (.int c3), .unset, .unset]) (st' := [(.int (1 : Int32)), (.int (1 : Int32))]) rfl rfl (pc' := 49) rfl ?_
    refine oIcF W4 (cd := .ne) (o := 16) (by decide +kernel) (XT.ii_ne_f (by decide)) (pc' := 52) rfl ?_
    refine oGo W4 [.iconst 1] (by decide +kernel) (ls' := #[.val (.int i0), .val (.int i1), .val (.int i2), .val (.int i3), .val (.int i4), .val (.int (1 : Int32)), .val (.int c0), .val (.int c1), .val (.int c2), .val (.int c3), .unset, .unset]) (st' := [(.int (1 : Int32))]) rfl rfl (pc' := 53) rfl ?_
    obtain ⟨T9, h9, a9, k9, W9, g9, E9, A9, S9, C9, st9⟩ := oNewA W4 (aty := .char) (pc := 53) (ls := #[.val (.int i0), .val (.int i1), .val (.int i2), .val (.int i3), .val (.int i4), .val (.int (1 : Int32)), .val (.int c0), .val (.int c1), .val (.int c2), .val (.int c3), .unset, .unset]) (st := []) (hw _ (List.mem_of_getElem? (i := 5) rfl)) (by decide +kernel) (n := (1 : Int32)) (by decide) (cap := 1) (lb rfl) (lb rfl) (lb rfl) (lb rfl)
    refine oLift st9 ?_
    have A9 : OA Z h9 a9 k9 .char [.int 0] := A9
    refine oGo W9 [.dup, .iconst 0, .iload 6] (by decide +kernel) (ls' := #[.val (.int i0), .val (.int i1), .val (.int i2), .val (.int i3), .val (.int i4), .val (.int (1 : Int32)), .val (.int c0), .val (.int c1), .val (.int c2), .val (.int c3), .unset, .unset]) (st' := [(.int c0), (.int (0 : Int32)), (.ref a9), (.ref a9)]) rfl rfl (pc' := 59) rfl ?_
    obtain ⟨T10, h10, W10, Wr10, A10, C10, st10⟩ := oPut W9 A9 (j := (0 : Int32)) (x := c0) (x' := c0) (pc := 59) (ls := #[.val (.int i0), .val (.int i1), .val (.int i2), .val (.int i3), .val (.int i4), .val (.int (1 : Int32)), .val (.int c0), .val (.int c1), .val (.int c2), .val (.int c3), .unset, .unset]) (st := [(.ref a9)]) (by decide) (i := 0) (by decide) (by simp) (Nat.le_trans W0.ext.1 g9) (A9.safe W9.warm.alike (by decide)) (ins := .castore) (Or.inl ⟨rfl, rfl, (narU u0)⟩) (by decide +kernel)
    refine oLift st10 ?_
    have A10 : OA Z h10 a9 k9 .char [.int c0] := A10
    refine oGo W10 [.astore 10, .goto 81, .iload 5, .iconst 1] (by decide +kernel) (ls' := #[.val (.int i0), .val (.int i1), .val (.int i2), .val (.int i3), .val (.int i4), .val (.int (1 : Int32)), .val (.int c0), .val (.int c1), .val (.int c2), .val (.int c3), .val (.ref a9), .unset]) (st' := [(.int (1 : Int32)), (.int (1 : Int32))]) rfl rfl (pc' := 146) rfl ?_
    refine oIcF W10 (cd := .lt) (o := 11) (by decide +kernel) (XT.ii_lt_f (by decide)) (pc' := 149) rfl ?_
    refine oGo W10 [.iload 6] (by decide +kernel) (ls' := #[.val (.int i0), .val (.int i1), .val (.int i2), .val (.int i3), .val (.int i4), .val (.int (1 : Int32)), .val (.int c0), .val (.int c1), .val (.int c2), .val (.int c3), .val (.ref a9), .unset]) (st' := [(.int c0)]) rfl rfl (pc' := 151) rfl ?_
    obtain ⟨v11, T11, L11, h11, vm11, W11, ⟨rfl, e11⟩, C11, st11⟩ := oCallS W10 (idx := 14) (pc := 151) (ls := #[.val (.int i0), .val (.int i1), .val (.int i2), .val (.int i3), .val (.int i4), .val (.int (1 : Int32)), .val (.int c0), .val (.int c1), .val (.int c2), .val (.int c3), .val (.ref a9), .unset]) (st := []) (argsL := [(.int c0)]) (c_bc K) (fun x hx => nomatch hx) (hw _ (List.mem_of_getElem? (i := 42) rfl)) (hw _ (List.mem_of_getElem? (i := 43) rfl)) (hw _ (List.mem_of_getElem? (i := 3) rfl)) (hw _ (List.mem_of_getElem? (i := 44) rfl)) (by decide) (na := 1) rfl (by decide +kernel) rfl (stk := [(.int c0)]) rfl (by decide +kernel) (V := 0) (lb rfl) (lb rfl) (lb rfl) (lb rfl) (lb rfl)
    refine oLift st11 ?_
    rw [e11] at W11 C11
    show OG _ _ _ _ _ _ _ _ _ _ _ (mkF m 154 #[.val (.int i0), .val (.int i1), .val (.int i2), .val (.int i3), .val (.int i4), .val (.int (1 : Int32)), .val (.int c0), .val (.int c1), .val (.int c2), .val (.int c3), .val (.ref a9), .unset] [(.int (bc c0))])
    by_cases hc12 : (bc c0) = (0 : Int32)
    · refine oIfT W11 (cd := .eq) (o := 49) (by decide +kernel) (XT.i0_eq_t hc12) (pc' := 203) (by decide) (by decide) ?_
      refine oGo W11 [.iconst 0, .istore 11] (by decide +kernel) (ls' := #[.val (.int i0), .val (.int i1), .val (.int i2), .val (.int i3), .val (.int i4), .val (.int (1 : Int32)), .val (.int c0), .val (.int c1), .val (.int c2), .val (.int c3), .val (.ref a9), .val (.int (0 : Int32))]) (st' := []) rfl rfl (pc' := 206) rfl ?_
      obtain ⟨T13, h13, a13, W13, g13, E13, A13, D13, S13, C13, st13⟩ := oNew W11 (pc := 206) (ls := #[.val (.int i0), .val (.int i1), .val (.int i2), .val (.int i3), .val (.int i4), .val (.int (1 : Int32)), .val (.int c0), .val (.int c1), .val (.int c2), .val (.int c3), .val (.ref a9), .val (.int (0 : Int32))]) (st := []) (hw _ (List.mem_of_getElem? (i := 6) rfl)) (hw _ (List.mem_of_getElem? (i := 7) rfl)) (hw _ (List.mem_of_getElem? (i := 8) rfl)) (by decide +kernel) (lb rfl) (lb rfl)
      refine oLift st13 ?_
      refine oGo W13 [.dup, .aload 10] (by decide +kernel) (ls' := #[.val (.int i0), .val (.int i1), .val (.int i2), .val (.int i3), .val (.int i4), .val (.int (1 : Int32)), .val (.int c0), .val (.int c1), .val (.int c2), .val (.int c3), .val (.ref a9), .val (.int (0 : Int32))]) (st' := [(.ref a9), (.ref a13), (.ref a13)]) rfl rfl (pc' := 212) rfl ?_
      obtain ⟨v14, T14, L14, h14, vm14, W14, ⟨rfl, K14, F14⟩, C14, st14⟩ := oCallN W13 (idx := 20) (pc := 212) (ls := #[.val (.int i0), .val (.int i1), .val (.int i2), .val (.int i3), .val (.int i4), .val (.int (1 : Int32)), .val (.int c0), .val (.int c1), .val (.int c2), .val (.int c3), .val (.ref a9), .val (.int (0 : Int32))]) (st := [(.ref a13)]) (a := a13) (argsL := [(.ref a9)]) (c_i1a K [c0] (lb rfl) (Nat.succ_pos _) (A10.ext E13) (own_cons u0 own_nil) (Nat.le_trans W10.ext.1 g13) A13 (D13 (Or.inr (hw _ (List.mem_of_getElem? (i := 22) rfl))) (ty := .byte) (by decide)) (D13 (Or.inr (hw _ (List.mem_of_getElem? (i := 21) rfl))) (ty := (.array .byte)) (by decide))) (fun y hy => by cases List.mem_singleton.mp hy; exact ⟨A13.lt, S13⟩) rfl (hw _ (List.mem_of_getElem? (i := 9) rfl)) (hw _ (List.mem_of_getElem? (i := 10) rfl)) (hw _ (List.mem_of_getElem? (i := 8) rfl)) (hw _ (List.mem_of_getElem? (i := 11) rfl)) (by decide) (na := 1) rfl (by decide +kernel) rfl (stk := [(.ref a9), (.ref a13), (.ref a13)]) rfl (by decide +kernel) (V := 1) (lb rfl) (lb rfl) (lb rfl) (lb rfl) (lb rfl)
      refine oLift st14 ?_
      show OG _ _ _ _ _ _ _ _ _ _ _ (mkF m 215 #[.val (.int i0), .val (.int i1), .val (.int i2), .val (.int i3), .val (.int i4), .val (.int (1 : Int32)), .val (.int c0), .val (.int c1), .val (.int c2), .val (.int c3), .val (.ref a9), .val (.int (0 : Int32))] [(.ref a13)])
      obtain ⟨v15, T15, L15, h15, vm15, W15, ⟨rfl, e15⟩, C15, st15⟩ := oCallS W14 (idx := 23) (pc := 215) (ls := #[.val (.int i0), .val (.int i1), .val (.int i2), .val (.int i3), .val (.int i4), .val (.int (1 : Int32)), .val (.int c0), .val (.int c1), .val (.int c2), .val (.int c3), .val (.ref a9), .val (.int (0 : Int32))]) (st := []) (argsL := [(.ref a13)]) (c_ibl K (cs := [c0]) F14 (lb rfl) (own_cons u0 own_nil)) (fun x hx => nomatch hx) (hw _ (List.mem_of_getElem? (i := 27) rfl)) (hw _ (List.mem_of_getElem? (i := 28) rfl)) (hw _ (List.mem_of_getElem? (i := 29) rfl)) (hw _ (List.mem_of_getElem? (i := 30) rfl)) (by decide) (na := 1) rfl (by decide +kernel) rfl (stk := [(.ref a13)]) rfl (by decide +kernel) (V := 0) (lb rfl) (lb rfl) (lb rfl) (lb rfl) (lb rfl)
      refine oLift st15 ?_
      rw [e15] at W15 C15
      show OG _ _ _ _ _ _ _ _ _ _ _ (mkF m 218 #[.val (.int i0), .val (.int i1), .val (.int i2), .val (.int i3), .val (.int i4), .val (.int (1 : Int32)), .val (.int c0), .val (.int c1), .val (.int c2), .val (.int c3), .val (.ref a9), .val (.int (0 : Int32))] [(.int (blk [c0]))])
      refine oGo W15 [.iload 11] (by decide +kernel) (ls' := #[.val (.int i0), .val (.int i1), .val (.int i2), .val (.int i3), .val (.int i4), .val (.int (1 : Int32)), .val (.int c0), .val (.int c1), .val (.int c2), .val (.int c3), .val (.ref a9), .val (.int (0 : Int32))]) (st' := [(.int (0 : Int32)), (.int (blk [c0]))]) rfl rfl (pc' := 220) rfl ?_
      refine oIcF W15 (cd := .ne) (o := 7) (by decide +kernel) (XT.ii_ne_f (by simp [blk, hc12])) (pc' := 223) rfl ?_
      refine oGo W15 [.iconst 1, .goto 4] (by decide +kernel) (ls' := #[.val (.int i0), .val (.int i1), .val (.int i2), .val (.int i3), .val (.int i4), .val (.int (1 : Int32)), .val (.int c0), .val (.int c1), .val (.int c2), .val (.int c3), .val (.ref a9), .val (.int (0 : Int32))]) (st' := [(.int (1 : Int32))]) rfl rfl (pc' := 228) rfl ?_
      exact oRetN (by simp) W15 rfl (by decide +kernel) (lb rfl) (lb rfl) (fun vm' hv => rfl)
    refine oIfF W11 (cd := .eq) (o := 49) (by decide +kernel) (XT.i0_eq_f hc12) (pc' := 157) rfl ?_
    refine oGo W11 [.iload 5, .iconst 2] (by decide +kernel) (ls' := #[.val (.int i0), .val (.int i1), .val (.int i2), .val (.int i3), .val (.int i4), .val (.int (1 : Int32)), .val (.int c0), .val (.int c1), .val (.int c2), .val (.int c3), .val (.ref a9), .unset]) (st' := [(.int (2 : Int32)), (.int (1 : Int32))]) rfl rfl (pc' := 160) rfl ?_
    refine oIcT W11 (cd := .lt) (o := 11) (by decide +kernel) (XT.ii_lt_t (by decide)) (pc' := 171) (by decide) (by decide) ?_
    refine oGo W11 [.iload 5, .iconst 3] (by decide +kernel) (ls' := #[.val (.int i0), .val (.int i1), .val (.int i2), .val (.int i3), .val (.int i4), .val (.int (1 : Int32)), .val (.int c0), .val (.int c1), .val (.int c2), .val (.int c3), .val (.ref a9), .unset]) (st' := [(.int (3 : Int32)), (.int (1 : Int32))]) rfl rfl (pc' := 174) rfl ?_
    refine oIcT W11 (cd := .lt) (o := 11) (by decide +kernel) (XT.ii_lt_t (by decide)) (pc' := 185) (by decide) (by decide) ?_
    refine oGo W11 [.iload 5, .iconst 4] (by decide +kernel) (ls' := #[.val (.int i0), .val (.int i1), .val (.int i2), .val (.int i3), .val (.int i4), .val (.int (1 : Int32)), .val (.int c0), .val (.int c1), .val (.int c2), .val (.int c3), .val (.ref a9), .unset]) (st' := [(.int (4 : Int32)), (.int (1 : Int32))]) rfl rfl (pc' := 188) rfl ?_
    refine oIcT W11 (cd := .lt) (o := 11) (by decide +kernel) (XT.ii_lt_t (by decide)) (pc' := 199) (by decide) (by decide) ?_
    refine oGo W11 [.iconst 1, .goto 4, .istore 11] (by decide +kernel) (ls' := #[.val (.int i0), .val (.int i1), .val (.int i2), .val (.int i3), .val (.int i4), .val (.int (1 : Int32)), .val (.int c0), .val (.int c1), .val (.int c2), .val (.int c3), .val (.ref a9), .val (.int (1 : Int32))]) (st' := []) rfl rfl (pc' := 206) rfl ?_
    obtain ⟨T16, h16, a16, W16, g16, E16, A16, D16, S16, C16, st16⟩ := oNew W11 (pc := 206) (ls := #[.val (.int i0), .val (.int i1), .val (.int i2), .val (.int i3), .val (.int i4), .val (.int (1 : Int32)), .val (.int c0), .val (.int c1), .val (.int c2), .val (.int c3), .val (.ref a9), .val (.int (1 : Int32))]) (st := []) (hw _ (List.mem_of_getElem? (i := 6) rfl)) (hw _ (List.mem_of_getElem? (i := 7) rfl)) (hw _ (List.mem_of_getElem? (i := 8) rfl)) (by decide +kernel) (lb rfl) (lb rfl)
    refine oLift st16 ?_
    refine oGo W16 [.dup, .aload 10] (by decide +kernel) (ls' := #[.val (.int i0), .val (.int i1), .val (.int i2), .val (.int i3), .val (.int i4), .val (.int (1 : Int32)), .val (.int c0), .val (.int c1), .val (.int c2), .val (.int c3), .val (.ref a9), .val (.int (1 : Int32))]) (st' := [(.ref a9), (.ref a16), (.ref a16)]) rfl rfl (pc' := 212) rfl ?_
    obtain ⟨v17, T17, L17, h17, vm17, W17, ⟨rfl, K17, F17⟩, C17, st17⟩ := oCallN W16 (idx := 20) (pc := 212) (ls := #[.val (.int i0), .val (.int i1), .val (.int i2), .val (.int i3), .val (.int i4), .val (.int (1 : Int32)), .val (.int c0), .val (.int c1), .val (.int c2), .val (.int c3), .val (.ref a9), .val (.int (1 : Int32))]) (st := [(.ref a16)]) (a := a16) (argsL := [(.ref a9)]) (c_i1a K [c0] (lb rfl) (Nat.succ_pos _) (A10.ext E16) (own_cons u0 own_nil) (Nat.le_trans W10.ext.1 g16) A16 (D16 (Or.inr (hw _ (List.mem_of_getElem? (i := 22) rfl))) (ty := .byte) (by decide)) (D16 (Or.inr (hw _ (List.mem_of_getElem? (i := 21) rfl))) (ty := (.array .byte)) (by decide))) (fun y hy => by cases List.mem_singleton.mp hy; exact ⟨A16.lt, S16⟩) rfl (hw _ (List.mem_of_getElem? (i := 9) rfl)) (hw _ (List.mem_of_getElem? (i := 10) rfl)) (hw _ (List.mem_of_getElem? (i := 8) rfl)) (hw _ (List.mem_of_getElem? (i := 11) rfl)) (by decide) (na := 1) rfl (by decide +kernel) rfl (stk := [(.ref a9), (.ref a16), (.ref a16)]) rfl (by decide +kernel) (V := 1) (lb rfl) (lb rfl) (lb rfl) (lb rfl) (lb rfl)
    refine oLift st17 ?_
    show OG _ _ _ _ _ _ _ _ _ _ _ (mkF m 215 #[.val (.int i0), .val (.int i1), .val (.int i2), .val (.int i3), .val (.int i4), .val (.int (1 : Int32)), .val (.int c0), .val (.int c1), .val (.int c2), .val (.int c3), .val (.ref a9), .val (.int (1 : Int32))] [(.ref a16)])
    obtain ⟨v18, T18, L18, h18, vm18, W18, ⟨rfl, e18⟩, C18, st18⟩ := oCallS W17 (idx := 23) (pc := 215) (ls := #[.val (.int i0), .val (.int i1), .val (.int i2), .val (.int i3), .val (.int i4), .val (.int (1 : Int32)), .val (.int c0), .val (.int c1), .val (.int c2), .val (.int c3), .val (.ref a9), .val (.int (1 : Int32))]) (st := []) (argsL := [(.ref a16)]) (c_ibl K (cs := [c0]) F17 (lb rfl) (own_cons u0 own_nil)) (fun x hx => nomatch hx) (hw _ (List.mem_of_getElem? (i := 27) rfl)) (hw _ (List.mem_of_getElem? (i := 28) rfl)) (hw _ (List.mem_of_getElem? (i := 29) rfl)) (hw _ (List.mem_of_getElem? (i := 30) rfl)) (by decide) (na := 1) rfl (by decide +kernel) rfl (stk := [(.ref a16)]) rfl (by decide +kernel) (V := 0) (lb rfl) (lb rfl) (lb rfl) (lb rfl) (lb rfl)
    refine oLift st18 ?_
    rw [e18] at W18 C18
    show OG _ _ _ _ _ _ _ _ _ _ _ (mkF m 218 #[.val (.int i0), .val (.int i1), .val (.int i2), .val (.int i3), .val (.int i4), .val (.int (1 : Int32)), .val (.int c0), .val (.int c1), .val (.int c2), .val (.int c3), .val (.ref a9), .val (.int (1 : Int32))] [(.int (blk [c0]))])
    refine oGo W18 [.iload 11] (by decide +kernel) (ls' := #[.val (.int i0), .val (.int i1), .val (.int i2), .val (.int i3), .val (.int i4), .val (.int (1 : Int32)), .val (.int c0), .val (.int c1), .val (.int c2), .val (.int c3), .val (.ref a9), .val (.int (1 : Int32))]) (st' := [(.int (1 : Int32)), (.int (blk [c0]))]) rfl rfl (pc' := 220) rfl ?_
    refine oIcF W18 (cd := .ne) (o := 7) (by decide +kernel) (XT.ii_ne_f (by simp [blk, hc12])) (pc' := 223) rfl ?_
    refine oGo W18 [.iconst 1, .goto 4] (by decide +kernel) (ls' := #[.val (.int i0), .val (.int i1), .val (.int i2), .val (.int i3), .val (.int i4), .val (.int (1 : Int32)), .val (.int c0), .val (.int c1), .val (.int c2), .val (.int c3), .val (.ref a9), .val (.int (1 : Int32))]) (st' := [(.int (1 : Int32))]) rfl rfl (pc' := 228) rfl ?_
    exact oRetN (by simp) W18 rfl (by decide +kernel) (lb rfl) (lb rfl) (fun vm' hv => rfl)
  · rw [hL]
    refine oIfT W4 (cd := .ne) (o := 11) (by decide +kernel) (XT.i0_ne_t (by decide)) (pc' := 46) (by decide) (by decide) ?_
    refine oGo W4 [.iload 5, .iconst 1] (by decide +kernel) (ls' := #[.val (.int i0), .val (.int i1), .val (.int i2), .val (.int i3), .val (.int i4), .val (.int (2 : Int32)), .val (.int c0), .val (.int c1), .val (.int c2), .val (.int c3), .unset, .unset]) (st' := [(.int (1 : Int32)), (.int (2 : Int32))]) rfl rfl (pc' := 49) rfl ?_
    refine oIcT W4 (cd := .ne) (o := 16) (by decide +kernel) (XT.ii_ne_t (by decide)) (pc' := 65) (by decide) (by decide) ?_
    refine oGo W4 [.iload 5, .iconst 2] (by decide +kernel) (ls' := #[.val (.int i0), .val (.int i1), .val (.int i2), .val (.int i3), .val (.int i4), .val (.int (2 : Int32)), .val (.int c0), .val (.int c1), .val (.int c2), .val (.int c3), .unset, .unset]) (st' := [(.int (2 : Int32)), (.int (2 : Int32))]) rfl rfl (pc' := 68) rfl ?_
    refine oIcF W4 (cd := .ne) (o := 21) (by decide +kernel) (XT.ii_ne_f (by decide)) (pc' := 71) rfl ?_
    refine oGo W4 [.iconst 2] (by decide +kernel) (ls' := #[.val (.int i0), .val (.int i1), .val (.int i2), .val (.int i3), .val (.int i4), .val (.int (2 : Int32)), .val (.int c0), .val (.int c1), .val (.int c2), .val (.int c3), .unset, .unset]) (st' := [(.int (2 : Int32))]) rfl rfl (pc' := 72) rfl ?_
    obtain ⟨T19, h19, a19, k19, W19, g19, E19, A19, S19, C19, st19⟩ := oNewA W4 (aty := .char) (pc := 72) (ls := #[.val (.int i0), .val (.int i1), .val (.int i2), .val (.int i3), .val (.int i4), .val (.int (2 : Int32)), .val (.int c0), .val (.int c1), .val (.int c2), .val (.int c3), .unset, .unset]) (st := []) (hw _ (List.mem_of_getElem? (i := 5) rfl)) (by decide +kernel) (n := (2 : Int32)) (by decide) (cap := 2) (lb rfl) (lb rfl) (lb rfl) (lb rfl)
    refine oLift st19 ?_
    have A19 : OA Z h19 a19 k19 .char [.int 0, .int 0] := A19
    refine oGo W19 [.dup, .iconst 0, .iload 6] (by decide +kernel) (ls' := #[.val (.int i0), .val (.int i1), .val (.int i2), .val (.int i3), .val (.int i4), .val (.int (2 : Int32)), .val (.int c0), .val (.int c1), .val (.int c2), .val (.int c3), .unset, .unset]) (st' := [(.int c0), (.int (0 : Int32)), (.ref a19), (.ref a19)]) rfl rfl (pc' := 78) rfl ?_
    obtain ⟨T20, h20, W20, Wr20, A20, C20, st20⟩ := oPut W19 A19 (j := (0 : Int32)) (x := c0) (x' := c0) (pc := 78) (ls := #[.val (.int i0), .val (.int i1), .val (.int i2), .val (.int i3), .val (.int i4), .val (.int (2 : Int32)), .val (.int c0), .val (.int c1), .val (.int c2), .val (.int c3), .unset, .unset]) (st := [(.ref a19)]) (by decide) (i := 0) (by decide) (by simp) (Nat.le_trans W0.ext.1 g19) (A19.safe W19.warm.alike (by decide)) (ins := .castore) (Or.inl ⟨rfl, rfl, (narU u0)⟩) (by decide +kernel)
    refine oLift st20 ?_
    have A20 : OA Z h20 a19 k19 .char [.int c0, .int 0] := A20
    refine oGo W20 [.dup, .iconst 1, .iload 7] (by decide +kernel) (ls' := #[.val (.int i0), .val (.int i1), .val (.int i2), .val (.int i3), .val (.int i4), .val (.int (2 : Int32)), .val (.int c0), .val (.int c1), .val (.int c2), .val (.int c3), .unset, .unset]) (st' := [(.int c1), (.int (1 : Int32)), (.ref a19), (.ref a19)]) rfl rfl (pc' := 83) rfl ?_
    obtain ⟨T21, h21, W21, Wr21, A21, C21, st21⟩ := oPut W20 A20 (j := (1 : Int32)) (x := c1) (x' := c1) (pc := 83) (ls := #[.val (.int i0), .val (.int i1), .val (.int i2), .val (.int i3), .val (.int i4), .val (.int (2 : Int32)), .val (.int c0), .val (.int c1), .val (.int c2), .val (.int c3), .unset, .unset]) (st := [(.ref a19)]) (by decide) (i := 1) (by decide) (by simp) (Nat.le_trans W0.ext.1 g19) (A20.safe W20.warm.alike (by decide)) (ins := .castore) (Or.inl ⟨rfl, rfl, (narU u1)⟩) (by decide +kernel)
    refine oLift st21 ?_
    have A21 : OA Z h21 a19 k19 .char [.int c0, .int c1] := A21
    refine oGo W21 [.astore 10, .goto 57, .iload 5, .iconst 1] (by decide +kernel) (ls' := #[.val (.int i0), .val (.int i1), .val (.int i2), .val (.int i3), .val (.int i4), .val (.int (2 : Int32)), .val (.int c0), .val (.int c1), .val (.int c2), .val (.int c3), .val (.ref a19), .unset]) (st' := [(.int (1 : Int32)), (.int (2 : Int32))]) rfl rfl (pc' := 146) rfl ?_
    refine oIcF W21 (cd := .lt) (o := 11) (by decide +kernel) (XT.ii_lt_f (by decide)) (pc' := 149) rfl ?_
    refine oGo W21 [.iload 6] (by decide +kernel) (ls' := #[.val (.int i0), .val (.int i1), .val (.int i2), .val (.int i3), .val (.int i4), .val (.int (2 : Int32)), .val (.int c0), .val (.int c1), .val (.int c2), .val (.int c3), .val (.ref a19), .unset]) (st' := [(.int c0)]) rfl rfl (pc' := 151) rfl ?_
    obtain ⟨v22, T22, L22, h22, vm22, W22, ⟨rfl, e22⟩, C22, st22⟩ := oCallS W21 (idx := 14) (pc := 151) (ls := #[.val (.int i0), .val (.int i1), .val (.int i2), .val (.int i3), .val (.int i4), .val (.int (2 : Int32)), .val (.int c0), .val (.int c1), .val (.int c2), .val (.int c3), .val (.ref a19), .unset]) (st := []) (argsL := [(.int c0)]) (c_bc K) (fun x hx => nomatch hx) (hw _ (List.mem_of_getElem? (i := 42) rfl)) (hw _ (List.mem_of_getElem? (i := 43) rfl)) (hw _ (List.mem_of_getElem? (i := 3) rfl)) (hw _ (List.mem_of_getElem? (i := 44) rfl)) (by decide) (na := 1) rfl (by decide +kernel) rfl (stk := [(.int c0)]) rfl (by decide +kernel) (V := 0) (lb rfl) (lb rfl) (lb rfl) (lb rfl) (lb rfl)
    refine oLift st22 ?_
    rw [e22] at W22 C22
    show OG _ _ _ _ _ _ _ _ _ _ _ (mkF m 154 #[.val (.int i0), .val (.int i1), .val (.int i2), .val (.int i3), .val (.int i4), .val (.int (2 : Int32)), .val (.int c0), .val (.int c1), .val (.int c2), .val (.int c3), .val (.ref a19), .unset] [(.int (bc c0))])
    by_cases hc23 : (bc c0) = (0 : Int32)
    · refine oIfT W22 (cd := .eq) (o := 49) (by decide +kernel) (XT.i0_eq_t hc23) (pc' := 203) (by decide) (by decide) ?_
      refine oGo W22 [.iconst 0, .istore 11] (by decide +kernel) (ls' := #[.val (.int i0), .val (.int i1), .val (.int i2), .val (.int i3), .val (.int i4), .val (.int (2 : Int32)), .val (.int c0), .val (.int c1), .val (.int c2), .val (.int c3), .val (.ref a19), .val (.int (0 : Int32))]) (st' := []) rfl rfl (pc' := 206) rfl ?_
      obtain ⟨T24, h24, a24, W24, g24, E24, A24, D24, S24, C24, st24⟩ := oNew W22 (pc := 206) (ls := #[.val (.int i0), .val (.int i1), .val (.int i2), .val (.int i3), .val (.int i4), .val (.int (2 : Int32)), .val (.int c0), .val (.int c1), .val (.int c2), .val (.int c3), .val (.ref a19), .val (.int (0 : Int32))]) (st := []) (hw _ (List.mem_of_getElem? (i := 6) rfl)) (hw _ (List.mem_of_getElem? (i := 7) rfl)) (hw _ (List.mem_of_getElem? (i := 8) rfl)) (by decide +kernel) (lb rfl) (lb rfl)
      refine oLift st24 ?_
      refine oGo W24 [.dup, .aload 10] (by decide +kernel) (ls' := #[.val (.int i0), .val (.int i1), .val (.int i2), .val (.int i3), .val (.int i4), .val (.int (2 : Int32)), .val (.int c0), .val (.int c1), .val (.int c2), .val (.int c3), .val (.ref a19), .val (.int (0 : Int32))]) (st' := [(.ref a19), (.ref a24), (.ref a24)]) rfl rfl (pc' := 212) rfl ?_
      obtain ⟨v25, T25, L25, h25, vm25, W25, ⟨rfl, K25, F25⟩, C25, st25⟩ := oCallN W24 (idx := 20) (pc := 212) (ls := #[.val (.int i0), .val (.int i1), .val (.int i2), .val (.int i3), .val (.int i4), .val (.int (2 : Int32)), .val (.int c0), .val (.int c1), .val (.int c2), .val (.int c3), .val (.ref a19), .val (.int (0 : Int32))]) (st := [(.ref a24)]) (a := a24) (argsL := [(.ref a19)]) (c_i1a K [c0, c1] (lb rfl) (Nat.succ_pos _) (A21.ext E24) (own_cons u0 (own_cons u1 own_nil)) (Nat.le_trans W21.ext.1 g24) A24 (D24 (Or.inr (hw _ (List.mem_of_getElem? (i := 22) rfl))) (ty := .byte) (by decide)) (D24 (Or.inr (hw _ (List.mem_of_getElem? (i := 21) rfl))) (ty := (.array .byte)) (by decide))) (fun y hy => by cases List.mem_singleton.mp hy; exact ⟨A24.lt, S24⟩) rfl (hw _ (List.mem_of_getElem? (i := 9) rfl)) (hw _ (List.mem_of_getElem? (i := 10) rfl)) (hw _ (List.mem_of_getElem? (i := 8) rfl)) (hw _ (List.mem_of_getElem? (i := 11) rfl)) (by decide) (na := 1) rfl (by decide +kernel) rfl (stk := [(.ref a19), (.ref a24), (.ref a24)]) rfl (by decide +kernel) (V := 1) (lb rfl) (lb rfl) (lb rfl) (lb rfl) (lb rfl)
      refine oLift st25 ?_
      show OG _ _ _ _ _ _ _ _ _ _ _ (mkF m 215 #[.val (.int i0), .val (.int i1), .val (.int i2), .val (.int i3), .val (.int i4), .val (.int (2 : Int32)), .val (.int c0), .val (.int c1), .val (.int c2), .val (.int c3), .val (.ref a19), .val (.int (0 : Int32))] [(.ref a24)])
      obtain ⟨v26, T26, L26, h26, vm26, W26, ⟨rfl, e26⟩, C26, st26⟩ := oCallS W25 (idx := 23) (pc := 215) (ls := #[.val (.int i0), .val (.int i1), .val (.int i2), .val (.int i3), .val (.int i4), .val (.int (2 : Int32)), .val (.int c0), .val (.int c1), .val (.int c2), .val (.int c3), .val (.ref a19), .val (.int (0 : Int32))]) (st := []) (argsL := [(.ref a24)]) (c_ibl K (cs := [c0, c1]) F25 (lb rfl) (own_cons u0 (own_cons u1 own_nil))) (fun x hx => nomatch hx) (hw _ (List.mem_of_getElem? (i := 27) rfl)) (hw _ (List.mem_of_getElem? (i := 28) rfl)) (hw _ (List.mem_of_getElem? (i := 29) rfl)) (hw _ (List.mem_of_getElem? (i := 30) rfl)) (by decide) (na := 1) rfl (by decide +kernel) rfl (stk := [(.ref a24)]) rfl (by decide +kernel) (V := 0) (lb rfl) (lb rfl) (lb rfl) (lb rfl) (lb rfl)
      refine oLift st26 ?_
      rw [e26] at W26 C26
      show OG _ _ _ _ _ _ _ _ _ _ _ (mkF m 218 #[.val (.int i0), .val (.int i1), .val (.int i2), .val (.int i3), .val (.int i4), .val (.int (2 : Int32)), .val (.int c0), .val (.int c1), .val (.int c2), .val (.int c3), .val (.ref a19), .val (.int (0 : Int32))] [(.int (blk [c0, c1]))])
      refine oGo W26 [.iload 11] (by decide +kernel) (ls' := #[.val (.int i0), .val (.int i1), .val (.int i2), .val (.int i3), .val (.int i4), .val (.int (2 : Int32)), .val (.int c0), .val (.int c1), .val (.int c2), .val (.int c3), .val (.ref a19), .val (.int (0 : Int32))]) (st' := [(.int (0 : Int32)), (.int (blk [c0, c1]))]) rfl rfl (pc' := 220) rfl ?_
      refine oIcF W26 (cd := .ne) (o := 7) (by decide +kernel) (XT.ii_ne_f (by simp [blk, hc23])) (pc' := 223) rfl ?_
      refine oGo W26 [.iconst 1, .goto 4] (by decide +kernel) (ls' := #[.val (.int i0), .val (.int i1), .val (.int i2), .val (.int i3), .val (.int i4), .val (.int (2 : Int32)), .val (.int c0), .val (.int c1), .val (.int c2), .val (.int c3), .val (.ref a19), .val (.int (0 : Int32))]) (st' := [(.int (1 : Int32))]) rfl rfl (pc' := 228) rfl ?_
      exact oRetN (by simp) W26 rfl (by decide +kernel) (lb rfl) (lb rfl) (fun vm' hv => rfl)
    refine oIfF W22 (cd := .eq) (o := 49) (by decide +kernel) (XT.i0_eq_f hc23) (pc' := 157) rfl ?_
    refine oGo W22 [.iload 5, .iconst 2] (by decide +kernel) (ls' := #[.val (.int i0), .val (.int i1), .val (.int i2), .val (.int i3), .val (.int i4), .val (.int (2 : Int32)), .val (.int c0), .val (.int c1), .val (.int c2), .val (.int c3), .val (.ref a19), .unset]) (st' := [(.int (2 : Int32)), (.int (2 : Int32))]) rfl rfl (pc' := 160) rfl ?_
    refine oIcF W22 (cd := .lt) (o := 11) (by decide +kernel) (XT.ii_lt_f (by decide)) (pc' := 163) rfl ?_
    refine oGo W22 [.iload 7] (by decide +kernel) (ls' := #[.val (.int i0), .val (.int i1), .val (.int i2), .val (.int i3), .val (.int i4), .val (.int (2 : Int32)), .val (.int c0), .val (.int c1), .val (.int c2), .val (.int c3), .val (.ref a19), .unset]) (st' := [(.int c1)]) rfl rfl (pc' := 165) rfl ?_
    obtain ⟨v27, T27, L27, h27, vm27, W27, ⟨rfl, e27⟩, C27, st27⟩ := oCallS W22 (idx := 14) (pc := 165) (ls := #[.val (.int i0), .val (.int i1), .val (.int i2), .val (.int i3), .val (.int i4), .val (.int (2 : Int32)), .val (.int c0), .val (.int c1), .val (.int c2), .val (.int c3), .val (.ref a19), .unset]) (st := []) (argsL := [(.int c1)]) (c_bc K) (fun x hx => nomatch hx) (hw _ (List.mem_of_getElem? (i := 42) rfl)) (hw _ (List.mem_of_getElem? (i := 43) rfl)) (hw _ (List.mem_of_getElem? (i := 3) rfl)) (hw _ (List.mem_of_getElem? (i := 44) rfl)) (by decide) (na := 1) rfl (by decide +kernel) rfl (stk := [(.int c1)]) rfl (by decide +kernel) (V := 0) (lb rfl) (lb rfl) (lb rfl) (lb rfl) (lb rfl)
    refine oLift st27 ?_
    rw [e27] at W27 C27
    show OG _ _ _ _ _ _ _ _ _ _ _ (mkF m 168 #[.val (.int i0), .val (.int i1), .val (.int i2), .val (.int i3), .val (.int i4), .val (.int (2 : Int32)), .val (.int c0), .val (.int c1), .val (.int c2), .val (.int c3), .val (.ref a19), .unset] [(.int (bc c1))])
    by_cases hc28 : (bc c1) = (0 : Int32)
    · refine oIfT W27 (cd := .eq) (o := 35) (by decide +kernel) (XT.i0_eq_t hc28) (pc' := 203) (by decide) (by decide) ?_
      refine oGo W27 [.iconst 0, .istore 11] (by decide +kernel) (ls' := #[.val (.int i0), .val (.int i1), .val (.int i2), .val (.int i3), .val (.int i4), .val (.int (2 : Int32)), .val (.int c0), .val (.int c1), .val (.int c2), .val (.int c3), .val (.ref a19), .val (.int (0 : Int32))]) (st' := []) rfl rfl (pc' := 206) rfl ?_
      obtain ⟨T29, h29, a29, W29, g29, E29, A29, D29, S29, C29, st29⟩ := oNew W27 (pc := 206) (ls := #[.val (.int i0), .val (.int i1), .val (.int i2), .val (.int i3), .val (.int i4), .val (.int (2 : Int32)), .val (.int c0), .val (.int c1), .val (.int c2), .val (.int c3), .val (.ref a19), .val (.int (0 : Int32))]) (st := []) (hw _ (List.mem_of_getElem? (i := 6) rfl)) (hw _ (List.mem_of_getElem? (i := 7) rfl)) (hw _ (List.mem_of_getElem? (i := 8) rfl)) (by decide +kernel) (lb rfl) (lb rfl)
      refine oLift st29 ?_
      refine oGo W29 [.dup, .aload 10] (by decide +kernel) (ls' := #[.val (.int i0), .val (.int i1), .val (.int i2), .val (.int i3), .val (.int i4), .val (.int (2 : Int32)), .val (.int c0), .val (.int c1), .val (.int c2), .val (.int c3), .val (.ref a19), .val (.int (0 : Int32))]) (st' := [(.ref a19), (.ref a29), (.ref a29)]) rfl rfl (pc' := 212) rfl ?_
      obtain ⟨v30, T30, L30, h30, vm30, W30, ⟨rfl, K30, F30⟩, C30, st30⟩ := oCallN W29 (idx := 20) (pc := 212) (ls := #[.val (.int i0), .val (.int i1), .val (.int i2), .val (.int i3), .val (.int i4), .val (.int (2 : Int32)), .val (.int c0), .val (.int c1), .val (.int c2), .val (.int c3), .val (.ref a19), .val (.int (0 : Int32))]) (st := [(.ref a29)]) (a := a29) (argsL := [(.ref a19)]) (c_i1a K [c0, c1] (lb rfl) (Nat.succ_pos _) (A21.ext E29) (own_cons u0 (own_cons u1 own_nil)) (Nat.le_trans W21.ext.1 g29) A29 (D29 (Or.inr (hw _ (List.mem_of_getElem? (i := 22) rfl))) (ty := .byte) (by decide)) (D29 (Or.inr (hw _ (List.mem_of_getElem? (i := 21) rfl))) (ty := (.array .byte)) (by decide))) (fun y hy => by cases List.mem_singleton.mp hy; exact ⟨A29.lt, S29⟩) rfl (hw _ (List.mem_of_getElem? (i := 9) rfl)) (hw _ (List.mem_of_getElem? (i := 10) rfl)) (hw _ (List.mem_of_getElem? (i := 8) rfl)) (hw _ (List.mem_of_getElem? (i := 11) rfl)) (by decide) (na := 1) rfl (by decide +kernel) rfl (stk := [(.ref a19), (.ref a29), (.ref a29)]) rfl (by decide +kernel) (V := 1) (lb rfl) (lb rfl) (lb rfl) (lb rfl) (lb rfl)
      refine oLift st30 ?_
      show OG _ _ _ _ _ _ _ _ _ _ _ (mkF m 215 #[.val (.int i0), .val (.int i1), .val (.int i2), .val (.int i3), .val (.int i4), .val (.int (2 : Int32)), .val (.int c0), .val (.int c1), .val (.int c2), .val (.int c3), .val (.ref a19), .val (.int (0 : Int32))] [(.ref a29)])
      obtain ⟨v31, T31, L31, h31, vm31, W31, ⟨rfl, e31⟩, C31, st31⟩ := oCallS W30 (idx := 23) (pc := 215) (ls := #[.val (.int i0), .val (.int i1), .val (.int i2), .val (.int i3), .val (.int i4), .val (.int (2 : Int32)), .val (.int c0), .val (.int c1), .val (.int c2), .val (.int c3), .val (.ref a19), .val (.int (0 : Int32))]) (st := []) (argsL := [(.ref a29)]) (c_ibl K (cs := [c0, c1]) F30 (lb rfl) (own_cons u0 (own_cons u1 own_nil))) (fun x hx => nomatch hx) (hw _ (List.mem_of_getElem? (i := 27) rfl)) (hw _ (List.mem_of_getElem? (i := 28) rfl)) (hw _ (List.mem_of_getElem? (i := 29) rfl)) (hw _ (List.mem_of_getElem? (i := 30) rfl)) (by decide) (na := 1) rfl (by decide +kernel) rfl (stk := [(.ref a29)]) rfl (by decide +kernel) (V := 0) (lb rfl) (lb rfl) (lb rfl) (lb rfl) (lb rfl)
      refine oLift st31 ?_
      rw [e31] at W31 C31
      show OG _ _ _ _ _ _ _ _ _ _ _ (mkF m 218 #[.val (.int i0), .val (.int i1), .val (.int i2), .val (.int i3), .val (.int i4), .val (.int (2 : Int32)), .val (.int c0), .val (.int c1), .val (.int c2), .val (.int c3), .val (.ref a19), .val (.int (0 : Int32))] [(.int (blk [c0, c1]))])
      refine oGo W31 [.iload 11] (by decide +kernel) (ls' := #[.val (.int i0), .val (.int i1), .val (.int i2), .val (.int i3), .val (.int i4), .val (.int (2 : Int32)), .val (.int c0), .val (.int c1), .val (.int c2), .val (.int c3), .val (.ref a19), .val (.int (0 : Int32))]) (st' := [(.int (0 : Int32)), (.int (blk [c0, c1]))]) rfl rfl (pc' := 220) rfl ?_
      refine oIcF W31 (cd := .ne) (o := 7) (by decide +kernel) (XT.ii_ne_f (by simp [blk, hc23, hc28])) (pc' := 223) rfl ?_
      refine oGo W31 [.iconst 1, .goto 4] (by decide +kernel) (ls' := #[.val (.int i0), .val (.int i1), .val (.int i2), .val (.int i3), .val (.int i4), .val (.int (2 : Int32)), .val (.int c0), .val (.int c1), .val (.int c2), .val (.int c3), .val (.ref a19), .val (.int (0 : Int32))]) (st' := [(.int (1 : Int32))]) rfl rfl (pc' := 228) rfl ?_
      exact oRetN (by simp) W31 rfl (by decide +kernel) (lb rfl) (lb rfl) (fun vm' hv => rfl)
    refine oIfF W27 (cd := .eq) (o := 35) (by decide +kernel) (XT.i0_eq_f hc28) (pc' := 171) rfl ?_
    refine oGo W27 [.iload 5, .iconst 3] (by decide +kernel) (ls' := #[.val (.int i0), .val (.int i1), .val (.int i2), .val (.int i3), .val (.int i4), .val (.int (2 : Int32)), .val (.int c0), .val (.int c1), .val (.int c2), .val (.int c3), .val (.ref a19), .unset]) (st' := [(.int (3 : Int32)), (.int (2 : Int32))]) rfl rfl (pc' := 174) rfl ?_
    refine oIcT W27 (cd := .lt) (o := 11) (by decide +kernel) (XT.ii_lt_t (by decide)) (pc' := 185) (by decide) (by decide) ?_
    refine oGo W27 [.iload 5, .iconst 4] (by decide +kernel) (ls' := #[.val (.int i0), .val (.int i1), .val (.int i2), .val (.int i3), .val (.int i4), .val (.int (2 : Int32)), .val (.int c0), .val (.int c1), .val (.int c2), .val (.int c3), .val (.ref a19), .unset]) (st' := [(.int (4 : Int32)), (.int (2 : Int32))]) rfl rfl (pc' := 188) rfl ?_
    refine oIcT W27 (cd := .lt) (o := 11) (by decide +kernel) (XT.ii_lt_t (by decide)) (pc' := 199) (by decide) (by decide) ?_
    refine oGo W27 [.iconst 1, .goto 4, .istore 11] (by decide +kernel) (ls' := #[.val (.int i0), .val (.int i1), .val (.int i2), .val (.int i3), .val (.int i4), .val (.int (2 : Int32)), .val (.int c0), .val (.int c1), .val (.int c2), .val (.int c3), .val (.ref a19), .val (.int (1 : Int32))]) (st' := []) rfl rfl (pc' := 206) rfl ?_
    obtain ⟨T32, h32, a32, W32, g32, E32, A32, D32, S32, C32, st32⟩ := oNew W27 (pc := 206) (ls := #[.val (.int i0), .val (.int i1), .val (.int i2), .val (.int i3), .val (.int i4), .val (.int (2 : Int32)), .val (.int c0), .val (.int c1), .val (.int c2), .val (.int c3), .val (.ref a19), .val (.int (1 : Int32))]) (st := []) (hw _ (List.mem_of_getElem? (i := 6) rfl)) (hw _ (List.mem_of_getElem? (i := 7) rfl)) (hw _ (List.mem_of_getElem? (i := 8) rfl)) (by decide +kernel) (lb rfl) (lb rfl)
    refine oLift st32 ?_
    refine oGo W32 [.dup, .aload 10] (by decide +kernel) (ls' := #[.val (.int i0), .val (.int i1), .val (.int i2), .val (.int i3), .val (.int i4), .val (.int (2 : Int32)), .val (.int c0), .val (.int c1), .val (.int c2), .val (.int c3), .val (.ref a19), .val (.int (1 : Int32))]) (st' := [(.ref a19), (.ref a32), (.ref a32)]) rfl rfl (pc' := 212) rfl ?_
    obtain ⟨v33, T33, L33, h33, vm33, W33, ⟨rfl, K33, F33⟩, C33, st33⟩ := oCallN W32 (idx := 20) (pc := 212) (ls := #[.val (.int i0), .val (.int i1), .val (.int i2), .val (.int i3), .val (.int i4), .val (.int (2 : Int32)), .val (.int c0), .val (.int c1), .val (.int c2), .val (.int c3), .val (.ref a19), .val (.int (1 : Int32))]) (st := [(.ref a32)]) (a := a32) (argsL := [(.ref a19)]) (c_i1a K [c0, c1] (lb rfl) (Nat.succ_pos _) (A21.ext E32) (own_cons u0 (own_cons u1 own_nil)) (Nat.le_trans W21.ext.1 g32) A32 (D32 (Or.inr (hw _ (List.mem_of_getElem? (i := 22) rfl))) (ty := .byte) (by decide)) (D32 (Or.inr (hw _ (List.mem_of_getElem? (i := 21) rfl))) (ty := (.array .byte)) (by decide))) (fun y hy => by cases List.mem_singleton.mp hy; exact ⟨A32.lt, S32⟩) rfl (hw _ (List.mem_of_getElem? (i := 9) rfl)) (hw _ (List.mem_of_getElem? (i := 10) rfl)) (hw _ (List.mem_of_getElem? (i := 8) rfl)) (hw _ (List.mem_of_getElem? (i := 11) rfl)) (by decide) (na := 1) rfl (by decide +kernel) rfl (stk := [(.ref a19), (.ref a32), (.ref a32)]) rfl (by decide +kernel) (V := 1) (lb rfl) (lb rfl) (lb rfl) (lb rfl) (lb rfl)
    refine oLift st33 ?_
    show OG _ _ _ _ _ _ _ _ _ _ _ (mkF m 215 #[.val (.int i0), .val (.int i1), .val (.int i2), .val (.int i3), .val (.int i4), .val (.int (2 : Int32)), .val (.int c0), .val (.int c1), .val (.int c2), .val (.int c3), .val (.ref a19), .val (.int (1 : Int32))] [(.ref a32)])
    obtain ⟨v34, T34, L34, h34, vm34, W34, ⟨rfl, e34⟩, C34, st34⟩ := oCallS W33 (idx := 23) (pc := 215) (ls := #[.val (.int i0), .val (.int i1), .val (.int i2), .val (.int i3), .val (.int i4), .val (.int (2 : Int32)), .val (.int c0), .val (.int c1), .val (.int c2), .val (.int c3), .val (.ref a19), .val (.int (1 : Int32))]) (st := []) (argsL := [(.ref a32)]) (c_ibl K (cs := [c0, c1]) F33 (lb rfl) (own_cons u0 (own_cons u1 own_nil))) (fun x hx => nomatch hx) (hw _ (List.mem_of_getElem? (i := 27) rfl)) (hw _ (List.mem_of_getElem? (i := 28) rfl)) (hw _ (List.mem_of_getElem? (i := 29) rfl)) (hw _ (List.mem_of_getElem? (i := 30) rfl)) (by decide) (na := 1) rfl (by decide +kernel) rfl (stk := [(.ref a32)]) rfl (by decide +kernel) (V := 0) (lb rfl) (lb rfl) (lb rfl) (lb rfl) (lb rfl)
    refine oLift st34 ?_
    rw [e34] at W34 C34
    show OG _ _ _ _ _ _ _ _ _ _ _ (mkF m 218 #[.val (.int i0), .val (.int i1), .val (.int i2), .val (.int i3), .val (.int i4), .val (.int (2 : Int32)), .val (.int c0), .val (.int c1), .val (.int c2), .val (.int c3), .val (.ref a19), .val (.int (1 : Int32))] [(.int (blk [c0, c1]))])
    refine oGo W34 [.iload 11] (by decide +kernel) (ls' := #[.val (.int i0), .val (.int i1), .val (.int i2), .val (.int i3), .val (.int i4), .val (.int (2 : Int32)), .val (.int c0), .val (.int c1), .val (.int c2), .val (.int c3), .val (.ref a19), .val (.int (1 : Int32))]) (st' := [(.int (1 : Int32)), (.int (blk [c0, c1]))]) rfl rfl (pc' := 220) rfl ?_
    refine oIcF W34 (cd := .ne) (o := 7) (by decide +kernel) (XT.ii_ne_f (by simp [blk, hc23, hc28])) (pc' := 223) rfl ?_
    refine oGo W34 [.iconst 1, .goto 4] (by decide +kernel) (ls' := #[.val (.int i0), .val (.int i1), .val (.int i2), .val (.int i3), .val (.int i4), .val (.int (2 : Int32)), .val (.int c0), .val (.int c1), .val (.int c2), .val (.int c3), .val (.ref a19), .val (.int (1 : Int32))]) (st' := [(.int (1 : Int32))]) rfl rfl (pc' := 228) rfl ?_
    exact oRetN (by simp) W34 rfl (by decide +kernel) (lb rfl) (lb rfl) (fun vm' hv => rfl)
  · rw [hL]
    refine oIfT W4 (cd := .ne) (o := 11) (by decide +kernel) (XT.i0_ne_t (by decide)) (pc' := 46) (by decide) (by decide) ?_
    refine oGo W4 [.iload 5, .iconst 1] (by decide +kernel) (ls' := #[.val (.int i0), .val (.int i1), .val (.int i2), .val (.int i3), .val (.int i4), .val (.int (3 : Int32)), .val (.int c0), .val (.int c1), .val (.int c2), .val (.int c3), .unset, .unset]) (st' := [(.int (1 : Int32)), (.int (3 : Int32))]) rfl rfl (pc' := 49) rfl ?_
    refine oIcT W4 (cd := .ne) (o := 16) (by decide +kernel) (XT.ii_ne_t (by decide)) (pc' := 65) (by decide) (by decide) ?_
    refine oGo W4 [.iload 5, .iconst 2] (by decide +kernel) (ls' := #[.val (.int i0), .val (.int i1), .val (.int i2), .val (.int i3), .val (.int i4), .val (.int (3 : Int32)), .val (.int c0), .val (.int c1), .val (.int c2), .val (.int c3), .unset, .unset]) (st' := [(.int (2 : Int32)), (.int (3 : Int32))]) rfl rfl (pc' := 68) rfl ?_
    refine oIcT W4 (cd := .ne) (o := 21) (by decide +kernel) (XT.ii_ne_t (by decide)) (pc' := 89) (by decide) (by decide) ?_
    refine oGo W4 [.iload 5, .iconst 3] (by decide +kernel) (ls' := #[.val (.int i0), .val (.int i1), .val (.int i2), .val (.int i3), .val (.int i4), .val (.int (3 : Int32)), .val (.int c0), .val (.int c1), .val (.int c2), .val (.int c3), .unset, .unset]) (st' := [(.int (3 : Int32)), (.int (3 : Int32))]) rfl rfl (pc' := 92) rfl ?_
    refine oIcF W4 (cd := .ne) (o := 26) (by decide +kernel) (XT.ii_ne_f (by decide)) (pc' := 95) rfl ?_
    refine oGo W4 [.iconst 3] (by decide +kernel) (ls' := #[.val (.int i0), .val (.int i1), .val (.int i2), .val (.int i3), .val (.int i4), .val (.int (3 : Int32)), .val (.int c0), .val (.int c1), .val (.int c2), .val (.int c3), .unset, .unset]) (st' := [(.int (3 : Int32))]) rfl rfl (pc' := 96) rfl ?_
    obtain ⟨T35, h35, a35, k35, W35, g35, E35, A35, S35, C35, st35⟩ := oNewA W4 (aty := .char) (pc := 96) (ls := #[.val (.int i0), .val (.int i1), .val (.int i2), .val (.int i3), .val (.int i4), .val (.int (3 : Int32)), .val (.int c0), .val (.int c1), .val (.int c2), .val (.int c3), .unset, .unset]) (st := []) (hw _ (List.mem_of_getElem? (i := 5) rfl)) (by decide +kernel) (n := (3 : Int32)) (by decide) (cap := 3) (lb rfl) (lb rfl) (lb rfl) (lb rfl)
    refine oLift st35 ?_
    have A35 : OA Z h35 a35 k35 .char [.int 0, .int 0, .int 0] := A35
    refine oGo W35 [.dup, .iconst 0, .iload 6] (by decide +kernel) (ls' := #[.val (.int i0), .val (.int i1), .val (.int i2), .val (.int i3), .val (.int i4), .val (.int (3 : Int32)), .val (.int c0), .val (.int c1), .val (.int c2), .val (.int c3), .unset, .unset]) (st' := [(.int c0), (.int (0 : Int32)), (.ref a35), (.ref a35)]) rfl rfl (pc' := 102) rfl ?_
    obtain ⟨T36, h36, W36, Wr36, A36, C36, st36⟩ := oPut W35 A35 (j := (0 : Int32)) (x := c0) (x' := c0) (pc := 102) (ls := #[.val (.int i0), .val (.int i1), .val (.int i2), .val (.int i3), .val (.int i4), .val (.int (3 : Int32)), .val (.int c0), .val (.int c1), .val (.int c2), .val (.int c3), .unset, .unset]) (st := [(.ref a35)]) (by decide) (i := 0) (by decide) (by simp) (Nat.le_trans W0.ext.1 g35) (A35.safe W35.warm.alike (by decide)) (ins := .castore) (Or.inl ⟨rfl, rfl, (narU u0)⟩) (by decide +kernel)
    refine oLift st36 ?_
    have A36 : OA Z h36 a35 k35 .char [.int c0, .int 0, .int 0] := A36
    refine oGo W36 [.dup, .iconst 1, .iload 7] (by decide +kernel) (ls' := #[.val (.int i0), .val (.int i1), .val (.int i2), .val (.int i3), .val (.int i4), .val (.int (3 : Int32)), .val (.int c0), .val (.int c1), .val (.int c2), .val (.int c3), .unset, .unset]) (st' := [(.int c1), (.int (1 : Int32)), (.ref a35), (.ref a35)]) rfl rfl (pc' := 107) rfl ?_
    obtain ⟨T37, h37, W37, Wr37, A37, C37, st37⟩ := oPut W36 A36 (j := (1 : Int32)) (x := c1) (x' := c1) (pc := 107) (ls := #[.val (.int i0), .val (.int i1), .val (.int i2), .val (.int i3), .val (.int i4), .val (.int (3 : Int32)), .val (.int c0), .val (.int c1), .val (.int c2), .val (.int c3), .unset, .unset]) (st := [(.ref a35)]) (by decide) (i := 1) (by decide) (by simp) (Nat.le_trans W0.ext.1 g35) (A36.safe W36.warm.alike (by decide)) (ins := .castore) (Or.inl ⟨rfl, rfl, (narU u1)⟩) (by decide +kernel)
    refine oLift st37 ?_
    have A37 : OA Z h37 a35 k35 .char [.int c0, .int c1, .int 0] := A37
    refine oGo W37 [.dup, .iconst 2, .iload 8] (by decide +kernel) (ls' := #[.val (.int i0), .val (.int i1), .val (.int i2), .val (.int i3), .val (.int i4), .val (.int (3 : Int32)), .val (.int c0), .val (.int c1), .val (.int c2), .val (.int c3), .unset, .unset]) (st' := [(.int c2), (.int (2 : Int32)), (.ref a35), (.ref a35)]) rfl rfl (pc' := 112) rfl ?_
    obtain ⟨T38, h38, W38, Wr38, A38, C38, st38⟩ := oPut W37 A37 (j := (2 : Int32)) (x := c2) (x' := c2) (pc := 112) (ls := #[.val (.int i0), .val (.int i1), .val (.int i2), .val (.int i3), .val (.int i4), .val (.int (3 : Int32)), .val (.int c0), .val (.int c1), .val (.int c2), .val (.int c3), .unset, .unset]) (st := [(.ref a35)]) (by decide) (i := 2) (by decide) (by simp) (Nat.le_trans W0.ext.1 g35) (A37.safe W37.warm.alike (by decide)) (ins := .castore) (Or.inl ⟨rfl, rfl, (narU u2)⟩) (by decide +kernel)
    refine oLift st38 ?_
    have A38 : OA Z h38 a35 k35 .char [.int c0, .int c1, .int c2] := A38
    refine oGo W38 [.astore 10, .goto 28, .iload 5, .iconst 1] (by decide +kernel) (ls' := #[.val (.int i0), .val (.int i1), .val (.int i2), .val (.int i3), .val (.int i4), .val (.int (3 : Int32)), .val (.int c0), .val (.int c1), .val (.int c2), .val (.int c3), .val (.ref a35), .unset]) (st' := [(.int (1 : Int32)), (.int (3 : Int32))]) rfl rfl (pc' := 146) rfl ?_
    refine oIcF W38 (cd := .lt) (o := 11) (by decide +kernel) (XT.ii_lt_f (by decide)) (pc' := 149) rfl ?_
    refine oGo W38 [.iload 6] (by decide +kernel) (ls' := #[.val (.int i0), .val (.int i1), .val (.int i2), .val (.int i3), .val (.int i4), .val (.int (3 : Int32)), .val (.int c0), .val (.int c1), .val (.int c2), .val (.int c3), .val (.ref a35), .unset]) (st' := [(.int c0)]) rfl rfl (pc' := 151) rfl ?_
    obtain ⟨v39, T39, L39, h39, vm39, W39, ⟨rfl, e39⟩, C39, st39⟩ := oCallS W38 (idx := 14) (pc := 151) (ls := #[.val (.int i0), .val (.int i1), .val (.int i2), .val (.int i3), .val (.int i4), .val (.int (3 : Int32)), .val (.int c0), .val (.int c1), .val (.int c2), .val (.int c3), .val (.ref a35), .unset]) (st := []) (argsL := [(.int c0)]) (c_bc K) (fun x hx => nomatch hx) (hw _ (List.mem_of_getElem? (i := 42) rfl)) (hw _ (List.mem_of_getElem? (i := 43) rfl)) (hw _ (List.mem_of_getElem? (i := 3) rfl)) (hw _ (List.mem_of_getElem? (i := 44) rfl)) (by decide) (na := 1) rfl (by decide +kernel) rfl (stk := [(.int c0)]) rfl (by decide +kernel) (V := 0) (lb rfl) (lb rfl) (lb rfl) (lb rfl) (lb rfl)
    refine oLift st39 ?_
    rw [e39] at W39 C39
    show OG _ _ _ _ _ _ _ _ _ _ _ (mkF m 154 #[.val (.int i0), .val (.int i1), .val (.int i2), .val (.int i3), .val (.int i4), .val (.int (3 : Int32)), .val (.int c0), .val (.int c1), .val (.int c2), .val (.int c3), .val (.ref a35), .unset] [(.int (bc c0))])
    by_cases hc40 : (bc c0) = (0 : Int32)
    · refine oIfT W39 (cd := .eq) (o := 49) (by decide +kernel) (XT.i0_eq_t hc40) (pc' := 203) (by decide) (by decide) ?_
      refine oGo W39 [.iconst 0, .istore 11] (by decide +kernel) (ls' := #[.val (.int i0), .val (.int i1), .val (.int i2), .val (.int i3), .val (.int i4), .val (.int (3 : Int32)), .val (.int c0), .val (.int c1), .val (.int c2), .val (.int c3), .val (.ref a35), .val (.int (0 : Int32))]) (st' := []) rfl rfl (pc' := 206) rfl ?_
      obtain ⟨T41, h41, a41, W41, g41, E41, A41, D41, S41, C41, st41⟩ := oNew W39 (pc := 206) (ls := #[.val (.int i0), .val (.int i1), .val (.int i2), .val (.int i3), .val (.int i4), .val (.int (3 : Int32)), .val (.int c0), .val (.int c1), .val (.int c2), .val (.int c3), .val (.ref a35), .val (.int (0 : Int32))]) (st := []) (hw _ (List.mem_of_getElem? (i := 6) rfl)) (hw _ (List.mem_of_getElem? (i := 7) rfl)) (hw _ (List.mem_of_getElem? (i := 8) rfl)) (by decide +kernel) (lb rfl) (lb rfl)
      refine oLift st41 ?_
      refine oGo W41 [.dup, .aload 10] (by decide +kernel) (ls' := #[.val (.int i0), .val (.int i1), .val (.int i2), .val (.int i3), .val (.int i4), .val (.int (3 : Int32)), .val (.int c0), .val (.int c1), .val (.int c2), .val (.int c3), .val (.ref a35), .val (.int (0 : Int32))]) (st' := [(.ref a35), (.ref a41), (.ref a41)]) rfl rfl (pc' := 212) rfl ?_
      obtain ⟨v42, T42, L42, h42, vm42, W42, ⟨rfl, K42, F42⟩, C42, st42⟩ := oCallN W41 (idx := 20) (pc := 212) (ls := #[.val (.int i0), .val (.int i1), .val (.int i2), .val (.int i3), .val (.int i4), .val (.int (3 : Int32)), .val (.int c0), .val (.int c1), .val (.int c2), .val (.int c3), .val (.ref a35), .val (.int (0 : Int32))]) (st := [(.ref a41)]) (a := a41) (argsL := [(.ref a35)]) (c_i1a K [c0, c1, c2] (lb rfl) (Nat.succ_pos _) (A38.ext E41) (own_cons u0 (own_cons u1 (own_cons u2 own_nil))) (Nat.le_trans W38.ext.1 g41) A41 (D41 (Or.inr (hw _ (List.mem_of_getElem? (i := 22) rfl))) (ty := .byte) (by decide)) (D41 (Or.inr (hw _ (List.mem_of_getElem? (i := 21) rfl))) (ty := (.array .byte)) (by decide))) (fun y hy => by cases List.mem_singleton.mp hy; exact ⟨A41.lt, S41⟩) rfl (hw _ (List.mem_of_getElem? (i := 9) rfl)) (hw _ (List.mem_of_getElem? (i := 10) rfl)) (hw _ (List.mem_of_getElem? (i := 8) rfl)) (hw _ (List.mem_of_getElem? (i := 11) rfl)) (by decide) (na := 1) rfl (by decide +kernel) rfl (stk := [(.ref a35), (.ref a41), (.ref a41)]) rfl (by decide +kernel) (V := 1) (lb rfl) (lb rfl) (lb rfl) (lb rfl) (lb rfl)
      refine oLift st42 ?_
      show OG _ _ _ _ _ _ _ _ _ _ _ (mkF m 215 #[.val (.int i0), .val (.int i1), .val (.int i2), .val (.int i3), .val (.int i4), .val (.int (3 : Int32)), .val (.int c0), .val (.int c1), .val (.int c2), .val (.int c3), .val (.ref a35), .val (.int (0 : Int32))] [(.ref a41)])
      obtain ⟨v43, T43, L43, h43, vm43, W43, ⟨rfl, e43⟩, C43, st43⟩ := oCallS W42 (idx := 23) (pc := 215) (ls := #[.val (.int i0), .val (.int i1), .val (.int i2), .val (.int i3), .val (.int i4), .val (.int (3 : Int32)), .val (.int c0), .val (.int c1), .val (.int c2), .val (.int c3), .val (.ref a35), .val (.int (0 : Int32))]) (st := []) (argsL := [(.ref a41)]) (c_ibl K (cs := [c0, c1, c2]) F42 (lb rfl) (own_cons u0 (own_cons u1 (own_cons u2 own_nil)))) (fun x hx => nomatch hx) (hw _ (List.mem_of_getElem? (i := 27) rfl)) (hw _ (List.mem_of_getElem? (i := 28) rfl)) (hw _ (List.mem_of_getElem? (i := 29) rfl)) (hw _ (List.mem_of_getElem? (i := 30) rfl)) (by decide) (na := 1) rfl (by decide +kernel) rfl (stk := [(.ref a41)]) rfl (by decide +kernel) (V := 0) (lb rfl) (lb rfl) (lb rfl) (lb rfl) (lb rfl)
      refine oLift st43 ?_
      rw [e43] at W43 C43
      show OG _ _ _ _ _ _ _ _ _ _ _ (mkF m 218 #[.val (.int i0), .val (.int i1), .val (.int i2), .val (.int i3), .val (.int i4), .val (.int (3 : Int32)), .val (.int c0), .val (.int c1), .val (.int c2), .val (.int c3), .val (.ref a35), .val (.int (0 : Int32))] [(.int (blk [c0, c1, c2]))])
      refine oGo W43 [.iload 11] (by decide +kernel) (ls' := #[.val (.int i0), .val (.int i1), .val (.int i2), .val (.int i3), .val (.int i4), .val (.int (3 : Int32)), .val (.int c0), .val (.int c1), .val (.int c2), .val (.int c3), .val (.ref a35), .val (.int (0 : Int32))]) (st' := [(.int (0 : Int32)), (.int (blk [c0, c1, c2]))]) rfl rfl (pc' := 220) rfl ?_
      refine oIcF W43 (cd := .ne) (o := 7) (by decide +kernel) (XT.ii_ne_f (by simp [blk, hc40])) (pc' := 223) rfl ?_
      refine oGo W43 [.iconst 1, .goto 4] (by decide +kernel) (ls' := #[.val (.int i0), .val (.int i1), .val (.int i2), .val (.int i3), .val (.int i4), .val (.int (3 : Int32)), .val (.int c0), .val (.int c1), .val (.int c2), .val (.int c3), .val (.ref a35), .val (.int (0 : Int32))]) (st' := [(.int (1 : Int32))]) rfl rfl (pc' := 228) rfl ?_
      exact oRetN (by simp) W43 rfl (by decide +kernel) (lb rfl) (lb rfl) (fun vm' hv => rfl)
    refine oIfF W39 (cd := .eq) (o := 49) (by decide +kernel) (XT.i0_eq_f hc40) (pc' := 157) rfl ?_
    refine oGo W39 [.iload 5, .iconst 2] (by decide +kernel) (ls' := #[.val (.int i0), .val (.int i1), .val (.int i2), .val (.int i3), .val (.int i4), .val (.int (3 : Int32)), .val (.int c0), .val (.int c1), .val (.int c2), .val (.int c3), .val (.ref a35), .unset]) (st' := [(.int (2 : Int32)), (.int (3 : Int32))]) rfl rfl (pc' := 160) rfl ?_
    refine oIcF W39 (cd := .lt) (o := 11) (by decide +kernel) (XT.ii_lt_f (by decide)) (pc' := 163) rfl ?_
    refine oGo W39 [.iload 7] (by decide +kernel) (ls' := #[.val (.int i0), .val (.int i1), .val (.int i2), .val (.int i3), .val (.int i4), .val (.int (3 : Int32)), .val (.int c0), .val (.int c1), .val (.int c2), .val (.int c3), .val (.ref a35), .unset]) (st' := [(.int c1)]) rfl rfl (pc' := 165) rfl ?_
    obtain ⟨v44, T44, L44, h44, vm44, W44, ⟨rfl, e44⟩, C44, st44⟩ := oCallS W39 (idx := 14) (pc := 165) (ls := #[.val (.int i0), .val (.int i1), .val (.int i2), .val (.int i3), .val (.int i4), .val (.int (3 : Int32)), .val (.int c0), .val (.int c1), .val (.int c2), .val (.int c3), .val (.ref a35), .unset]) (st := []) (argsL := [(.int c1)]) (c_bc K) (fun x hx => nomatch hx) (hw _ (List.mem_of_getElem? (i := 42) rfl)) (hw _ (List.mem_of_getElem? (i := 43) rfl)) (hw _ (List.mem_of_getElem? (i := 3) rfl)) (hw _ (List.mem_of_getElem? (i := 44) rfl)) (by decide) (na := 1) rfl (by decide +kernel) rfl (stk := [(.int c1)]) rfl (by decide +kernel) (V := 0) (lb rfl) (lb rfl) (lb rfl) (lb rfl) (lb rfl)
    refine oLift st44 ?_
    rw [e44] at W44 C44
    show OG _ _ _ _ _ _ _ _ _ _ _ (mkF m 168 #[.val (.int i0), .val (.int i1), .val (.int i2), .val (.int i3), .val (.int i4), .val (.int (3 : Int32)), .val (.int c0), .val (.int c1), .val (.int c2), .val (.int c3), .val (.ref a35), .unset] [(.int (bc c1))])
    by_cases hc45 : (bc c1) = (0 : Int32)
    · refine oIfT W44 (cd := .eq) (o := 35) (by decide +kernel) (XT.i0_eq_t hc45) (pc' := 203) (by decide) (by decide) ?_
      refine oGo W44 [.iconst 0, .istore 11] (by decide +kernel) (ls' := #[.val (.int i0), .val (.int i1), .val (.int i2), .val (.int i3), .val (.int i4), .val (.int (3 : Int32)), .val (.int c0), .val (.int c1), .val (.int c2), .val (.int c3), .val (.ref a35), .val (.int (0 : Int32))]) (st' := []) rfl rfl (pc' := 206) rfl ?_
      obtain ⟨T46, h46, a46, W46, g46, E46, A46, D46, S46, C46, st46⟩ := oNew W44 (pc := 206) (ls := #[.val (.int i0), .val (.int i1), .val (.int i2), .val (.int i3), .val (.int i4), .val (.int (3 : Int32)), .val (.int c0), .val (.int c1), .val (.int c2), .val (.int c3), .val (.ref a35), .val (.int (0 : Int32))]) (st := []) (hw _ (List.mem_of_getElem? (i := 6) rfl)) (hw _ (List.mem_of_getElem? (i := 7) rfl)) (hw _ (List.mem_of_getElem? (i := 8) rfl)) (by decide +kernel) (lb rfl) (lb rfl)
      refine oLift st46 ?_
      refine oGo W46 [.dup, .aload 10] (by decide +kernel) (ls' := #[.val (.int i0), .val (.int i1), .val (.int i2), .val (.int i3), .val (.int i4), .val (.int (3 : Int32)), .val (.int c0), .val (.int c1), .val (.int c2), .val (.int c3), .val (.ref a35), .val (.int (0 : Int32))]) (st' := [(.ref a35), (.ref a46), (.ref a46)]) rfl rfl (pc' := 212) rfl ?_
      obtain ⟨v47, T47, L47, h47, vm47, W47, ⟨rfl, K47, F47⟩, C47, st47⟩ := oCallN W46 (idx := 20) (pc := 212) (ls := #[.val (.int i0), .val (.int i1), .val (.int i2), .val (.int i3), .val (.int i4), .val (.int (3 : Int32)), .val (.int c0), .val (.int c1), .val (.int c2), .val (.int c3), .val (.ref a35), .val (.int (0 : Int32))]) (st := [(.ref a46)]) (a := a46) (argsL := [(.ref a35)]) (c_i1a K [c0, c1, c2] (lb rfl) (Nat.succ_pos _) (A38.ext E46) (own_cons u0 (own_cons u1 (own_cons u2 own_nil))) (Nat.le_trans W38.ext.1 g46) A46 (D46 (Or.inr (hw _ (List.mem_of_getElem? (i := 22) rfl))) (ty := .byte) (by decide)) (D46 (Or.inr (hw _ (List.mem_of_getElem? (i := 21) rfl))) (ty := (.array .byte)) (by decide))) (fun y hy => by cases List.mem_singleton.mp hy; exact ⟨A46.lt, S46⟩) rfl (hw _ (List.mem_of_getElem? (i := 9) rfl)) (hw _ (List.mem_of_getElem? (i := 10) rfl)) (hw _ (List.mem_of_getElem? (i := 8) rfl)) (hw _ (List.mem_of_getElem? (i := 11) rfl)) (by decide) (na := 1) rfl (by decide +kernel) rfl (stk := [(.ref a35), (.ref a46), (.ref a46)]) rfl (by decide +kernel) (V := 1) (lb rfl) (lb rfl) (lb rfl) (lb rfl) (lb rfl)
      refine oLift st47 ?_
      show OG _ _ _ _ _ _ _ _ _ _ _ (mkF m 215 #[.val (.int i0), .val (.int i1), .val (.int i2), .val (.int i3), .val (.int i4), .val (.int (3 : Int32)), .val (.int c0), .val (.int c1), .val (.int c2), .val (.int c3), .val (.ref a35), .val (.int (0 : Int32))] [(.ref a46)])
      obtain ⟨v48, T48, L48, h48, vm48, W48, ⟨rfl, e48⟩, C48, st48⟩ := oCallS W47 (idx := 23) (pc := 215) (ls := #[.val (.int i0), .val (.int i1), .val (.int i2), .val (.int i3), .val (.int i4), .val (.int (3 : Int32)), .val (.int c0), .val (.int c1), .val (.int c2), .val (.int c3), .val (.ref a35), .val (.int (0 : Int32))]) (st := []) (argsL := [(.ref a46)]) (c_ibl K (cs := [c0, c1, c2]) F47 (lb rfl) (own_cons u0 (own_cons u1 (own_cons u2 own_nil)))) (fun x hx => nomatch hx) (hw _ (List.mem_of_getElem? (i := 27) rfl)) (hw _ (List.mem_of_getElem? (i := 28) rfl)) (hw _ (List.mem_of_getElem? (i := 29) rfl)) (hw _ (List.mem_of_getElem? (i := 30) rfl)) (by decide) (na := 1) rfl (by decide +kernel) rfl (stk := [(.ref a46)]) rfl (by decide +kernel) (V := 0) (lb rfl) (lb rfl) (lb rfl) (lb rfl) (lb rfl)
      refine oLift st48 ?_
      rw [e48] at W48 C48
      show OG _ _ _ _ _ _ _ _ _ _ _ (mkF m 218 #[.val (.int i0), .val (.int i1), .val (.int i2), .val (.int i3), .val (.int i4), .val (.int (3 : Int32)), .val (.int c0), .val (.int c1), .val (.int c2), .val (.int c3), .val (.ref a35), .val (.int (0 : Int32))] [(.int (blk [c0, c1, c2]))])
      refine oGo W48 [.iload 11] (by decide +kernel) (ls' := #[.val (.int i0), .val (.int i1), .val (.int i2), .val (.int i3), .val (.int i4), .val (.int (3 : Int32)), .val (.int c0), .val (.int c1), .val (.int c2), .val (.int c3), .val (.ref a35), .val (.int (0 : Int32))]) (st' := [(.int (0 : Int32)), (.int (blk [c0, c1, c2]))]) rfl rfl (pc' := 220) rfl ?_
      refine oIcF W48 (cd := .ne) (o := 7) (by decide +kernel) (XT.ii_ne_f (by simp [blk, hc40, hc45])) (pc' := 223) rfl ?_
      refine oGo W48 [.iconst 1, .goto 4] (by decide +kernel) (ls' := #[.val (.int i0), .val (.int i1), .val (.int i2), .val (.int i3), .val (.int i4), .val (.int (3 : Int32)), .val (.int c0), .val (.int c1), .val (.int c2), .val (.int c3), .val (.ref a35), .val (.int (0 : Int32))]) (st' := [(.int (1 : Int32))]) rfl rfl (pc' := 228) rfl ?_
      exact oRetN (by simp) W48 rfl (by decide +kernel) (lb rfl) (lb rfl) (fun vm' hv => rfl)
    refine oIfF W44 (cd := .eq) (o := 35) (by decide +kernel) (XT.i0_eq_f hc45) (pc' := 171) rfl ?_
    refine oGo W44 [.iload 5, .iconst 3] (by decide +kernel) (ls' := #[.val (.int i0), .val (.int i1), .val (.int i2), .val (.int i3), .val (.int i4), .val (.int (3 : Int32)), .val (.int c0), .val (.int c1), .val (.int c2), .val (.int c3), .val (.ref a35), .unset]) (st' := [(.int (3 : Int32)), (.int (3 : Int32))]) rfl rfl (pc' := 174) rfl ?_
    refine oIcF W44 (cd := .lt) (o := 11) (by decide +kernel) (XT.ii_lt_f (by decide)) (pc' := 177) rfl ?_
    refine oGo W44 [.iload 8] (by decide +kernel) (ls' := #[.val (.int i0), .val (.int i1), .val (.int i2), .val (.int i3), .val (.int i4), .val (.int (3 : Int32)), .val (.int c0), .val (.int c1), .val (.int c2), .val (.int c3), .val (.ref a35), .unset]) (st' := [(.int c2)]) rfl rfl (pc' := 179) rfl ?_
    obtain ⟨v49, T49, L49, h49, vm49, W49, ⟨rfl, e49⟩, C49, st49⟩ := oCallS W44 (idx := 14) (pc := 179) (ls := #[.val (.int i0), .val (.int i1), .val (.int i2), .val (.int i3), .val (.int i4), .val (.int (3 : Int32)), .val (.int c0), .val (.int c1), .val (.int c2), .val (.int c3), .val (.ref a35), .unset]) (st := []) (argsL := [(.int c2)]) (c_bc K) (fun x hx => nomatch hx) (hw _ (List.mem_of_getElem? (i := 42) rfl)) (hw _ (List.mem_of_getElem? (i := 43) rfl)) (hw _ (List.mem_of_getElem? (i := 3) rfl)) (hw _ (List.mem_of_getElem? (i := 44) rfl)) (by decide) (na := 1) rfl (by decide +kernel) rfl (stk := [(.int c2)]) rfl (by decide +kernel) (V := 0) (lb rfl) (lb rfl) (lb rfl) (lb rfl) (lb rfl)
    refine oLift st49 ?_
    rw [e49] at W49 C49
    show OG _ _ _ _ _ _ _ _ _ _ _ (mkF m 182 #[.val (.int i0), .val (.int i1), .val (.int i2), .val (.int i3), .val (.int i4), .val (.int (3 : Int32)), .val (.int c0), .val (.int c1), .val (.int c2), .val (.int c3), .val (.ref a35), .unset] [(.int (bc c2))])
    by_cases hc50 : (bc c2) = (0 : Int32)
    · refine oIfT W49 (cd := .eq) (o := 21) (by decide +kernel) (XT.i0_eq_t hc50) (pc' := 203) (by decide) (by decide) ?_
      refine oGo W49 [.iconst 0, .istore 11] (by decide +kernel) (ls' := #[.val (.int i0), .val (.int i1), .val (.int i2), .val (.int i3), .val (.int i4), .val (.int (3 : Int32)), .val (.int c0), .val (.int c1), .val (.int c2), .val (.int c3), .val (.ref a35), .val (.int (0 : Int32))]) (st' := []) rfl rfl (pc' := 206) rfl ?_
      obtain ⟨T51, h51, a51, W51, g51, E51, A51, D51, S51, C51, st51⟩ := oNew W49 (pc := 206) (ls := #[.val (.int i0), .val (.int i1), .val (.int i2), .val (.int i3), .val (.int i4), .val (.int (3 : Int32)), .val (.int c0), .val (.int c1), .val (.int c2), .val (.int c3), .val (.ref a35), .val (.int (0 : Int32))]) (st := []) (hw _ (List.mem_of_getElem? (i := 6) rfl)) (hw _ (List.mem_of_getElem? (i := 7) rfl)) (hw _ (List.mem_of_getElem? (i := 8) rfl)) (by decide +kernel) (lb rfl) (lb rfl)
      refine oLift st51 ?_
      refine oGo W51 [.dup, .aload 10] (by decide +kernel) (ls' := #[.val (.int i0), .val (.int i1), .val (.int i2), .val (.int i3), .val (.int i4), .val (.int (3 : Int32)), .val (.int c0), .val (.int c1), .val (.int c2), .val (.int c3), .val (.ref a35), .val (.int (0 : Int32))]) (st' := [(.ref a35), (.ref a51), (.ref a51)]) rfl rfl (pc' := 212) rfl ?_
      obtain ⟨v52, T52, L52, h52, vm52, W52, ⟨rfl, K52, F52⟩, C52, st52⟩ := oCallN W51 (idx := 20) (pc := 212) (ls := #[.val (.int i0), .val (.int i1), .val (.int i2), .val (.int i3), .val (.int i4), .val (.int (3 : Int32)), .val (.int c0), .val (.int c1), .val (.int c2), .val (.int c3), .val (.ref a35), .val (.int (0 : Int32))]) (st := [(.ref a51)]) (a := a51) (argsL := [(.ref a35)]) (c_i1a K [c0, c1, c2] (lb rfl) (Nat.succ_pos _) (A38.ext E51) (own_cons u0 (own_cons u1 (own_cons u2 own_nil))) (Nat.le_trans W38.ext.1 g51) A51 (D51 (Or.inr (hw _ (List.mem_of_getElem? (i := 22) rfl))) (ty := .byte) (by decide)) (D51 (Or.inr (hw _ (List.mem_of_getElem? (i := 21) rfl))) (ty := (.array .byte)) (by decide))) (fun y hy => by cases List.mem_singleton.mp hy; exact ⟨A51.lt, S51⟩) rfl (hw _ (List.mem_of_getElem? (i := 9) rfl)) (hw _ (List.mem_of_getElem? (i := 10) rfl)) (hw _ (List.mem_of_getElem? (i := 8) rfl)) (hw _ (List.mem_of_getElem? (i := 11) rfl)) (by decide) (na := 1) rfl (by decide +kernel) rfl (stk := [(.ref a35), (.ref a51), (.ref a51)]) rfl (by decide +kernel) (V := 1) (lb rfl) (lb rfl) (lb rfl) (lb rfl) (lb rfl)
      refine oLift st52 ?_
      show OG _ _ _ _ _ _ _ _ _ _ _ (mkF m 215 #[.val (.int i0), .val (.int i1), .val (.int i2), .val (.int i3), .val (.int i4), .val (.int (3 : Int32)), .val (.int c0), .val (.int c1), .val (.int c2), .val (.int c3), .val (.ref a35), .val (.int (0 : Int32))] [(.ref a51)])
      obtain ⟨v53, T53, L53, h53, vm53, W53, ⟨rfl, e53⟩, C53, st53⟩ := oCallS W52 (idx := 23) (pc := 215) (ls := #[.val (.int i0), .val (.int i1), .val (.int i2), .val (.int i3), .val (.int i4), .val (.int (3 : Int32)), .val (.int c0), .val (.int c1), .val (.int c2), .val (.int c3), .val (.ref a35), .val (.int (0 : Int32))]) (st := []) (argsL := [(.ref a51)]) (c_ibl K (cs := [c0, c1, c2]) F52 (lb rfl) (own_cons u0 (own_cons u1 (own_cons u2 own_nil)))) (fun x hx => nomatch hx) (hw _ (List.mem_of_getElem? (i := 27) rfl)) (hw _ (List.mem_of_getElem? (i := 28) rfl)) (hw _ (List.mem_of_getElem? (i := 29) rfl)) (hw _ (List.mem_of_getElem? (i := 30) rfl)) (by decide) (na := 1) rfl (by decide +kernel) rfl (stk := [(.ref a51)]) rfl (by decide +kernel) (V := 0) (lb rfl) (lb rfl) (lb rfl) (lb rfl) (lb rfl)
      refine oLift st53 ?_
      rw [e53] at W53 C53
      show OG _ _ _ _ _ _ _ _ _ _ _ (mkF m 218 #[.val (.int i0), .val (.int i1), .val (.int i2), .val (.int i3), .val (.int i4), .val (.int (3 : Int32)), .val (.int c0), .val (.int c1), .val (.int c2), .val (.int c3), .val (.ref a35), .val (.int (0 : Int32))] [(.int (blk [c0, c1, c2]))])
      refine oGo W53 [.iload 11] (by decide +kernel) (ls' := #[.val (.int i0), .val (.int i1), .val (.int i2), .val (.int i3), .val (.int i4), .val (.int (3 : Int32)), .val (.int c0), .val (.int c1), .val (.int c2), .val (.int c3), .val (.ref a35), .val (.int (0 : Int32))]) (st' := [(.int (0 : Int32)), (.int (blk [c0, c1, c2]))]) rfl rfl (pc' := 220) rfl ?_
      refine oIcF W53 (cd := .ne) (o := 7) (by decide +kernel) (XT.ii_ne_f (by simp [blk, hc40, hc45, hc50])) (pc' := 223) rfl ?_
      refine oGo W53 [.iconst 1, .goto 4] (by decide +kernel) (ls' := #[.val (.int i0), .val (.int i1), .val (.int i2), .val (.int i3), .val (.int i4), .val (.int (3 : Int32)), .val (.int c0), .val (.int c1), .val (.int c2), .val (.int c3), .val (.ref a35), .val (.int (0 : Int32))]) (st' := [(.int (1 : Int32))]) rfl rfl (pc' := 228) rfl ?_
      exact oRetN (by simp) W53 rfl (by decide +kernel) (lb rfl) (lb rfl) (fun vm' hv => rfl)
    refine oIfF W49 (cd := .eq) (o := 21) (by decide +kernel) (XT.i0_eq_f hc50) (pc' := 185) rfl ?_
    refine oGo W49 [.iload 5, .iconst 4] (by decide +kernel) (ls' := #[.val (.int i0), .val (.int i1), .val (.int i2), .val (.int i3), .val (.int i4), .val (.int (3 : Int32)), .val (.int c0), .val (.int c1), .val (.int c2), .val (.int c3), .val (.ref a35), .unset]) (st' := [(.int (4 : Int32)), (.int (3 : Int32))]) rfl rfl (pc' := 188) rfl ?_
    refine oIcT W49 (cd := .lt) (o := 11) (by decide +kernel) (XT.ii_lt_t (by decide)) (pc' := 199) (by decide) (by decide) ?_
    refine oGo W49 [.iconst 1, .goto 4, .istore 11] (by decide +kernel) (ls' := #[.val (.int i0), .val (.int i1), .val (.int i2), .val (.int i3), .val (.int i4), .val (.int (3 : Int32)), .val (.int c0), .val (.int c1), .val (.int c2), .val (.int c3), .val (.ref a35), .val (.int (1 : Int32))]) (st' := []) rfl rfl (pc' := 206) rfl ?_
    obtain ⟨T54, h54, a54, W54, g54, E54, A54, D54, S54, C54, st54⟩ := oNew W49 (pc := 206) (ls := #[.val (.int i0), .val (.int i1), .val (.int i2), .val (.int i3), .val (.int i4), .val (.int (3 : Int32)), .val (.int c0), .val (.int c1), .val (.int c2), .val (.int c3), .val (.ref a35), .val (.int (1 : Int32))]) (st := []) (hw _ (List.mem_of_getElem? (i := 6) rfl)) (hw _ (List.mem_of_getElem? (i := 7) rfl)) (hw _ (List.mem_of_getElem? (i := 8) rfl)) (by decide +kernel) (lb rfl) (lb rfl)
    refine oLift st54 ?_
    refine oGo W54 [.dup, .aload 10] (by decide +kernel) (ls' := #[.val (.int i0), .val (.int i1), .val (.int i2), .val (.int i3), .val (.int i4), .val (.int (3 : Int32)), .val (.int c0), .val (.int c1), .val (.int c2), .val (.int c3), .val (.ref a35), .val (.int (1 : Int32))]) (st' := [(.ref a35), (.ref a54), (.ref a54)]) rfl rfl (pc' := 212) rfl ?_
    obtain ⟨v55, T55, L55, h55, vm55, W55, ⟨rfl, K55, F55⟩, C55, st55⟩ := oCallN W54 (idx := 20) (pc := 212) (ls := #[.val (.int i0), .val (.int i1), .val (.int i2), .val (.int i3), .val (.int i4), .val (.int (3 : Int32)), .val (.int c0), .val (.int c1), .val (.int c2), .val (.int c3), .val (.ref a35), .val (.int (1 : Int32))]) (st := [(.ref a54)]) (a := a54) (argsL := [(.ref a35)]) (c_i1a K [c0, c1, c2] (lb rfl) (Nat.succ_pos _) (A38.ext E54) (own_cons u0 (own_cons u1 (own_cons u2 own_nil))) (Nat.le_trans W38.ext.1 g54) A54 (D54 (Or.inr (hw _ (List.mem_of_getElem? (i := 22) rfl))) (ty := .byte) (by decide)) (D54 (Or.inr (hw _ (List.mem_of_getElem? (i := 21) rfl))) (ty := (.array .byte)) (by decide))) (fun y hy => by cases List.mem_singleton.mp hy; exact ⟨A54.lt, S54⟩) rfl (hw _ (List.mem_of_getElem? (i := 9) rfl)) (hw _ (List.mem_of_getElem? (i := 10) rfl)) (hw _ (List.mem_of_getElem? (i := 8) rfl)) (hw _ (List.mem_of_getElem? (i := 11) rfl)) (by decide) (na := 1) rfl (by decide +kernel) rfl (stk := [(.ref a35), (.ref a54), (.ref a54)]) rfl (by decide +kernel) (V := 1) (lb rfl) (lb rfl) (lb rfl) (lb rfl) (lb rfl)
    refine oLift st55 ?_
    show OG _ _ _ _ _ _ _ _ _ _ _ (mkF m 215 #[.val (.int i0), .val (.int i1), .val (.int i2), .val (.int i3), .val (.int i4), .val (.int (3 : Int32)), .val (.int c0), .val (.int c1), .val (.int c2), .val (.int c3), .val (.ref a35), .val (.int (1 : Int32))] [(.ref a54)])
    obtain ⟨v56, T56, L56, h56, vm56, W56, ⟨rfl, e56⟩, C56, st56⟩ := oCallS W55 (idx := 23) (pc := 215) (ls := #[.val (.int i0), .val (.int i1), .val (.int i2), .val (.int i3), .val (.int i4), .val (.int (3 : Int32)), .val (.int c0), .val (.int c1), .val (.int c2), .val (.int c3), .val (.ref a35), .val (.int (1 : Int32))]) (st := []) (argsL := [(.ref a54)]) (c_ibl K (cs := [c0, c1, c2]) F55 (lb rfl) (own_cons u0 (own_cons u1 (own_cons u2 own_nil)))) (fun x hx => nomatch hx) (hw _ (List.mem_of_getElem? (i := 27) rfl)) (hw _ (List.mem_of_getElem? (i := 28) rfl)) (hw _ (List.mem_of_getElem? (i := 29) rfl)) (hw _ (List.mem_of_getElem? (i := 30) rfl)) (by decide) (na := 1) rfl (by decide +kernel) rfl (stk := [(.ref a54)]) rfl (by decide +kernel) (V := 0) (lb rfl) (lb rfl) (lb rfl) (lb rfl) (lb rfl)
    refine oLift st56 ?_
    rw [e56] at W56 C56
    show OG _ _ _ _ _ _ _ _ _ _ _ (mkF m 218 #[.val (.int i0), .val (.int i1), .val (.int i2), .val (.int i3), .val (.int i4), .val (.int (3 : Int32)), .val (.int c0), .val (.int c1), .val (.int c2), .val (.int c3), .val (.ref a35), .val (.int (1 : Int32))] [(.int (blk [c0, c1, c2]))])
    refine oGo W56 [.iload 11] (by decide +kernel) (ls' := #[.val (.int i0), .val (.int i1), .val (.int i2), .val (.int i3), .val (.int i4), .val (.int (3 : Int32)), .val (.int c0), .val (.int c1), .val (.int c2), .val (.int c3), .val (.ref a35), .val (.int (1 : Int32))]) (st' := [(.int (1 : Int32)), (.int (blk [c0, c1, c2]))]) rfl rfl (pc' := 220) rfl ?_
    refine oIcF W56 (cd := .ne) (o := 7) (by decide +kernel) (XT.ii_ne_f (by simp [blk, hc40, hc45, hc50])) (pc' := 223) rfl ?_
    refine oGo W56 [.iconst 1, .goto 4] (by decide +kernel) (ls' := #[.val (.int i0), .val (.int i1), .val (.int i2), .val (.int i3), .val (.int i4), .val (.int (3 : Int32)), .val (.int c0), .val (.int c1), .val (.int c2), .val (.int c3), .val (.ref a35), .val (.int (1 : Int32))]) (st' := [(.int (1 : Int32))]) rfl rfl (pc' := 228) rfl ?_
    exact oRetN (by simp) W56 rfl (by decide +kernel) (lb rfl) (lb rfl) (fun vm' hv => rfl)
  · rw [hL]
    refine oIfT W4 (cd := .ne) (o := 11) (by decide +kernel) (XT.i0_ne_t (by decide)) (pc' := 46) (by decide) (by decide) ?_
    refine oGo W4 [.iload 5, .iconst 1] (by decide +kernel) (ls' := #[.val (.int i0), .val (.int i1), .val (.int i2), .val (.int i3), .val (.int i4), .val (.int (4 : Int32)), .val (.int c0), .val (.int c1), .val (.int c2), .val (.int c3), .unset, .unset]) (st' := [(.int (1 : Int32)), (.int (4 : Int32))]) rfl rfl (pc' := 49) rfl ?_
    refine oIcT W4 (cd := .ne) (o := 16) (by decide +kernel) (XT.ii_ne_t (by decide)) (pc' := 65) (by decide) (by decide) ?_
    refine oGo W4 [.iload 5, .iconst 2] (by decide +kernel) (ls' := #[.val (.int i0), .val (.int i1), .val (.int i2), .val (.int i3), .val (.int i4), .val (.int (4 : Int32)), .val (.int c0), .val (.int c1), .val (.int c2), .val (.int c3), .unset, .unset]) (st' := [(.int (2 : Int32)), (.int (4 : Int32))]) rfl rfl (pc' := 68) rfl ?_
    refine oIcT W4 (cd := .ne) (o := 21) (by decide +kernel) (XT.ii_ne_t (by decide)) (pc' := 89) (by decide) (by decide) ?_
    refine oGo W4 [.iload 5, .iconst 3] (by decide +kernel) (ls' := #[.val (.int i0), .val (.int i1), .val (.int i2), .val (.int i3), .val (.int i4), .val (.int (4 : Int32)), .val (.int c0), .val (.int c1), .val (.int c2), .val (.int c3), .unset, .unset]) (st' := [(.int (3 : Int32)), (.int (4 : Int32))]) rfl rfl (pc' := 92) rfl ?_
    refine oIcT W4 (cd := .ne) (o := 26) (by decide +kernel) (XT.ii_ne_t (by decide)) (pc' := 118) (by decide) (by decide) ?_
    refine oGo W4 [.iconst 4] (by decide +kernel) (ls' := #[.val (.int i0), .val (.int i1), .val (.int i2), .val (.int i3), .val (.int i4), .val (.int (4 : Int32)), .val (.int c0), .val (.int c1), .val (.int c2), .val (.int c3), .unset, .unset]) (st' := [(.int (4 : Int32))]) rfl rfl (pc' := 119) rfl ?_
    obtain ⟨T57, h57, a57, k57, W57, g57, E57, A57, S57, C57, st57⟩ := oNewA W4 (aty := .char) (pc := 119) (ls := #[.val (.int i0), .val (.int i1), .val (.int i2), .val (.int i3), .val (.int i4), .val (.int (4 : Int32)), .val (.int c0), .val (.int c1), .val (.int c2), .val (.int c3), .unset, .unset]) (st := []) (hw _ (List.mem_of_getElem? (i := 5) rfl)) (by decide +kernel) (n := (4 : Int32)) (by decide) (cap := 4) (lb rfl) (lb rfl) (lb rfl) (lb rfl)
    refine oLift st57 ?_
    have A57 : OA Z h57 a57 k57 .char [.int 0, .int 0, .int 0, .int 0] := A57
    refine oGo W57 [.dup, .iconst 0, .iload 6] (by decide +kernel) (ls' := #[.val (.int i0), .val (.int i1), .val (.int i2), .val (.int i3), .val (.int i4), .val (.int (4 : Int32)), .val (.int c0), .val (.int c1), .val (.int c2), .val (.int c3), .unset, .unset]) (st' := [(.int c0), (.int (0 : Int32)), (.ref a57), (.ref a57)]) rfl rfl (pc' := 125) rfl ?_
    obtain ⟨T58, h58, W58, Wr58, A58, C58, st58⟩ := oPut W57 A57 (j := (0 : Int32)) (x := c0) (x' := c0) (pc := 125) (ls := #[.val (.int i0), .val (.int i1), .val (.int i2), .val (.int i3), .val (.int i4), .val (.int (4 : Int32)), .val (.int c0), .val (.int c1), .val (.int c2), .val (.int c3), .unset, .unset]) (st := [(.ref a57)]) (by decide) (i := 0) (by decide) (by simp) (Nat.le_trans W0.ext.1 g57) (A57.safe W57.warm.alike (by decide)) (ins := .castore) (Or.inl ⟨rfl, rfl, (narU u0)⟩) (by decide +kernel)
    refine oLift st58 ?_
    have A58 : OA Z h58 a57 k57 .char [.int c0, .int 0, .int 0, .int 0] := A58
    refine oGo W58 [.dup, .iconst 1, .iload 7] (by decide +kernel) (ls' := #[.val (.int i0), .val (.int i1), .val (.int i2), .val (.int i3), .val (.int i4), .val (.int (4 : Int32)), .val (.int c0), .val (.int c1), .val (.int c2), .val (.int c3), .unset, .unset]) (st' := [(.int c1), (.int (1 : Int32)), (.ref a57), (.ref a57)]) rfl rfl (pc' := 130) rfl ?_
    obtain ⟨T59, h59, W59, Wr59, A59, C59, st59⟩ := oPut W58 A58 (j := (1 : Int32)) (x := c1) (x' := c1) (pc := 130) (ls := #[.val (.int i0), .val (.int i1), .val (.int i2), .val (.int i3), .val (.int i4), .val (.int (4 : Int32)), .val (.int c0), .val (.int c1), .val (.int c2), .val (.int c3), .unset, .unset]) (st := [(.ref a57)]) (by decide) (i := 1) (by decide) (by simp) (Nat.le_trans W0.ext.1 g57) (A58.safe W58.warm.alike (by decide)) (ins := .castore) (Or.inl ⟨rfl, rfl, (narU u1)⟩) (by decide +kernel)
    refine oLift st59 ?_
    have A59 : OA Z h59 a57 k57 .char [.int c0, .int c1, .int 0, .int 0] := A59
    refine oGo W59 [.dup, .iconst 2, .iload 8] (by decide +kernel) (ls' := #[.val (.int i0), .val (.int i1), .val (.int i2), .val (.int i3), .val (.int i4), .val (.int (4 : Int32)), .val (.int c0), .val (.int c1), .val (.int c2), .val (.int c3), .unset, .unset]) (st' := [(.int c2), (.int (2 : Int32)), (.ref a57), (.ref a57)]) rfl rfl (pc' := 135) rfl ?_
    obtain ⟨T60, h60, W60, Wr60, A60, C60, st60⟩ := oPut W59 A59 (j := (2 : Int32)) (x := c2) (x' := c2) (pc := 135) (ls := #[.val (.int i0), .val (.int i1), .val (.int i2), .val (.int i3), .val (.int i4), .val (.int (4 : Int32)), .val (.int c0), .val (.int c1), .val (.int c2), .val (.int c3), .unset, .unset]) (st := [(.ref a57)]) (by decide) (i := 2) (by decide) (by simp) (Nat.le_trans W0.ext.1 g57) (A59.safe W59.warm.alike (by decide)) (ins := .castore) (Or.inl ⟨rfl, rfl, (narU u2)⟩) (by decide +kernel)
    refine oLift st60 ?_
    have A60 : OA Z h60 a57 k57 .char [.int c0, .int c1, .int c2, .int 0] := A60
    refine oGo W60 [.dup, .iconst 3, .iload 9] (by decide +kernel) (ls' := #[.val (.int i0), .val (.int i1), .val (.int i2), .val (.int i3), .val (.int i4), .val (.int (4 : Int32)), .val (.int c0), .val (.int c1), .val (.int c2), .val (.int c3), .unset, .unset]) (st' := [(.int c3), (.int (3 : Int32)), (.ref a57), (.ref a57)]) rfl rfl (pc' := 140) rfl ?_
    obtain ⟨T61, h61, W61, Wr61, A61, C61, st61⟩ := oPut W60 A60 (j := (3 : Int32)) (x := c3) (x' := c3) (pc := 140) (ls := #[.val (.int i0), .val (.int i1), .val (.int i2), .val (.int i3), .val (.int i4), .val (.int (4 : Int32)), .val (.int c0), .val (.int c1), .val (.int c2), .val (.int c3), .unset, .unset]) (st := [(.ref a57)]) (by decide) (i := 3) (by decide) (by simp) (Nat.le_trans W0.ext.1 g57) (A60.safe W60.warm.alike (by decide)) (ins := .castore) (Or.inl ⟨rfl, rfl, (narU u3)⟩) (by decide +kernel)
    refine oLift st61 ?_
    have A61 : OA Z h61 a57 k57 .char [.int c0, .int c1, .int c2, .int c3] := A61
    refine oGo W61 [.astore 10, .iload 5, .iconst 1] (by decide +kernel) (ls' := #[.val (.int i0), .val (.int i1), .val (.int i2), .val (.int i3), .val (.int i4), .val (.int (4 : Int32)), .val (.int c0), .val (.int c1), .val (.int c2), .val (.int c3), .val (.ref a57), .unset]) (st' := [(.int (1 : Int32)), (.int (4 : Int32))]) rfl rfl (pc' := 146) rfl ?_
    refine oIcF W61 (cd := .lt) (o := 11) (by decide +kernel) (XT.ii_lt_f (by decide)) (pc' := 149) rfl ?_
    refine oGo W61 [.iload 6] (by decide +kernel) (ls' := #[.val (.int i0), .val (.int i1), .val (.int i2), .val (.int i3), .val (.int i4), .val (.int (4 : Int32)), .val (.int c0), .val (.int c1), .val (.int c2), .val (.int c3), .val (.ref a57), .unset]) (st' := [(.int c0)]) rfl rfl (pc' := 151) rfl ?_
    obtain ⟨v62, T62, L62, h62, vm62, W62, ⟨rfl, e62⟩, C62, st62⟩ := oCallS W61 (idx := 14) (pc := 151) (ls := #[.val (.int i0), .val (.int i1), .val (.int i2), .val (.int i3), .val (.int i4), .val (.int (4 : Int32)), .val (.int c0), .val (.int c1), .val (.int c2), .val (.int c3), .val (.ref a57), .unset]) (st := []) (argsL := [(.int c0)]) (c_bc K) (fun x hx => nomatch hx) (hw _ (List.mem_of_getElem? (i := 42) rfl)) (hw _ (List.mem_of_getElem? (i := 43) rfl)) (hw _ (List.mem_of_getElem? (i := 3) rfl)) (hw _ (List.mem_of_getElem? (i := 44) rfl)) (by decide) (na := 1) rfl (by decide +kernel) rfl (stk := [(.int c0)]) rfl (by decide +kernel) (V := 0) (lb rfl) (lb rfl) (lb rfl) (lb rfl) (lb rfl)
    refine oLift st62 ?_
    rw [e62] at W62 C62
    show OG _ _ _ _ _ _ _ _ _ _ _ (mkF m 154 #[.val (.int i0), .val (.int i1), .val (.int i2), .val (.int i3), .val (.int i4), .val (.int (4 : Int32)), .val (.int c0), .val (.int c1), .val (.int c2), .val (.int c3), .val (.ref a57), .unset] [(.int (bc c0))])
    by_cases hc63 : (bc c0) = (0 : Int32)
    · refine oIfT W62 (cd := .eq) (o := 49) (by decide +kernel) (XT.i0_eq_t hc63) (pc' := 203) (by decide) (by decide) ?_
      refine oGo W62 [.iconst 0, .istore 11] (by decide +kernel) (ls' := #[.val (.int i0), .val (.int i1), .val (.int i2), .val (.int i3), .val (.int i4), .val (.int (4 : Int32)), .val (.int c0), .val (.int c1), .val (.int c2), .val (.int c3), .val (.ref a57), .val (.int (0 : Int32))]) (st' := []) rfl rfl (pc' := 206) rfl ?_
      obtain ⟨T64, h64, a64, W64, g64, E64, A64, D64, S64, C64, st64⟩ := oNew W62 (pc := 206) (ls := #[.val (.int i0), .val (.int i1), .val (.int i2), .val (.int i3), .val (.int i4), .val (.int (4 : Int32)), .val (.int c0), .val (.int c1), .val (.int c2), .val (.int c3), .val (.ref a57), .val (.int (0 : Int32))]) (st := []) (hw _ (List.mem_of_getElem? (i := 6) rfl)) (hw _ (List.mem_of_getElem? (i := 7) rfl)) (hw _ (List.mem_of_getElem? (i := 8) rfl)) (by decide +kernel) (lb rfl) (lb rfl)
      refine oLift st64 ?_
      refine oGo W64 [.dup, .aload 10] (by decide +kernel) (ls' := #[.val (.int i0), .val (.int i1), .val (.int i2), .val (.int i3), .val (.int i4), .val (.int (4 : Int32)), .val (.int c0), .val (.int c1), .val (.int c2), .val (.int c3), .val (.ref a57), .val (.int (0 : Int32))]) (st' := [(.ref a57), (.ref a64), (.ref a64)]) rfl rfl (pc' := 212) rfl ?_
      obtain ⟨v65, T65, L65, h65, vm65, W65, ⟨rfl, K65, F65⟩, C65, st65⟩ := oCallN W64 (idx := 20) (pc := 212) (ls := #[.val (.int i0), .val (.int i1), .val (.int i2), .val (.int i3), .val (.int i4), .val (.int (4 : Int32)), .val (.int c0), .val (.int c1), .val (.int c2), .val (.int c3), .val (.ref a57), .val (.int (0 : Int32))]) (st := [(.ref a64)]) (a := a64) (argsL := [(.ref a57)]) (c_i1a K [c0, c1, c2, c3] (lb rfl) (Nat.succ_pos _) (A61.ext E64) (own_cons u0 (own_cons u1 (own_cons u2 (own_cons u3 own_nil)))) (Nat.le_trans W61.ext.1 g64) A64 (D64 (Or.inr (hw _ (List.mem_of_getElem? (i := 22) rfl))) (ty := .byte) (by decide)) (D64 (Or.inr (hw _ (List.mem_of_getElem? (i := 21) rfl))) (ty := (.array .byte)) (by decide))) (fun y hy => by cases List.mem_singleton.mp hy; exact ⟨A64.lt, S64⟩) rfl (hw _ (List.mem_of_getElem? (i := 9) rfl)) (hw _ (List.mem_of_getElem? (i := 10) rfl)) (hw _ (List.mem_of_getElem? (i := 8) rfl)) (hw _ (List.mem_of_getElem? (i := 11) rfl)) (by decide) (na := 1) rfl (by decide +kernel) rfl (stk := [(.ref a57), (.ref a64), (.ref a64)]) rfl (by decide +kernel) (V := 1) (lb rfl) (lb rfl) (lb rfl) (lb rfl) (lb rfl)
      refine oLift st65 ?_
      show OG _ _ _ _ _ _ _ _ _ _ _ (mkF m 215 #[.val (.int i0), .val (.int i1), .val (.int i2), .val (.int i3), .val (.int i4), .val (.int (4 : Int32)), .val (.int c0), .val (.int c1), .val (.int c2), .val (.int c3), .val (.ref a57), .val (.int (0 : Int32))] [(.ref a64)])
      obtain ⟨v66, T66, L66, h66, vm66, W66, ⟨rfl, e66⟩, C66, st66⟩ := oCallS W65 (idx := 23) (pc := 215) (ls := #[.val (.int i0), .val (.int i1), .val (.int i2), .val (.int i3), .val (.int i4), .val (.int (4 : Int32)), .val (.int c0), .val (.int c1), .val (.int c2), .val (.int c3), .val (.ref a57), .val (.int (0 : Int32))]) (st := []) (argsL := [(.ref a64)]) (c_ibl K (cs := [c0, c1, c2, c3]) F65 (lb rfl) (own_cons u0 (own_cons u1 (own_cons u2 (own_cons u3 own_nil))))) (fun x hx => nomatch hx) (hw _ (List.mem_of_getElem? (i := 27) rfl)) (hw _ (List.mem_of_getElem? (i := 28) rfl)) (hw _ (List.mem_of_getElem? (i := 29) rfl)) (hw _ (List.mem_of_getElem? (i := 30) rfl)) (by decide) (na := 1) rfl (by decide +kernel) rfl (stk := [(.ref a64)]) rfl (by decide +kernel) (V := 0) (lb rfl) (lb rfl) (lb rfl) (lb rfl) (lb rfl)
      refine oLift st66 ?_
      rw [e66] at W66 C66
      show OG _ _ _ _ _ _ _ _ _ _ _ (mkF m 218 #[.val (.int i0), .val (.int i1), .val (.int i2), .val (.int i3), .val (.int i4), .val (.int (4 : Int32)), .val (.int c0), .val (.int c1), .val (.int c2), .val (.int c3), .val (.ref a57), .val (.int (0 : Int32))] [(.int (blk [c0, c1, c2, c3]))])
      refine oGo W66 [.iload 11] (by decide +kernel) (ls' := #[.val (.int i0), .val (.int i1), .val (.int i2), .val (.int i3), .val (.int i4), .val (.int (4 : Int32)), .val (.int c0), .val (.int c1), .val (.int c2), .val (.int c3), .val (.ref a57), .val (.int (0 : Int32))]) (st' := [(.int (0 : Int32)), (.int (blk [c0, c1, c2, c3]))]) rfl rfl (pc' := 220) rfl ?_
      refine oIcF W66 (cd := .ne) (o := 7) (by decide +kernel) (XT.ii_ne_f (by simp [blk, hc63])) (pc' := 223) rfl ?_
      refine oGo W66 [.iconst 1, .goto 4] (by decide +kernel) (ls' := #[.val (.int i0), .val (.int i1), .val (.int i2), .val (.int i3), .val (.int i4), .val (.int (4 : Int32)), .val (.int c0), .val (.int c1), .val (.int c2), .val (.int c3), .val (.ref a57), .val (.int (0 : Int32))]) (st' := [(.int (1 : Int32))]) rfl rfl (pc' := 228) rfl ?_
      exact oRetN (by simp) W66 rfl (by decide +kernel) (lb rfl) (lb rfl) (fun vm' hv => rfl)
    refine oIfF W62 (cd := .eq) (o := 49) (by decide +kernel) (XT.i0_eq_f hc63) (pc' := 157) rfl ?_
    refine oGo W62 [.iload 5, .iconst 2] (by decide +kernel) (ls' := #[.val (.int i0), .val (.int i1), .val (.int i2), .val (.int i3), .val (.int i4), .val (.int (4 : Int32)), .val (.int c0), .val (.int c1), .val (.int c2), .val (.int c3), .val (.ref a57), .unset]) (st' := [(.int (2 : Int32)), (.int (4 : Int32))]) rfl rfl (pc' := 160) rfl ?_
    refine oIcF W62 (cd := .lt) (o := 11) (by decide +kernel) (XT.ii_lt_f (by decide)) (pc' := 163) rfl ?_
    refine oGo W62 [.iload 7] (by decide +kernel) (ls' := #[.val (.int i0), .val (.int i1), .val (.int i2), .val (.int i3), .val (.int i4), .val (.int (4 : Int32)), .val (.int c0), .val (.int c1), .val (.int c2), .val (.int c3), .val (.ref a57), .unset]) (st' := [(.int c1)]) rfl rfl (pc' := 165) rfl ?_
    obtain ⟨v67, T67, L67, h67, vm67, W67, ⟨rfl, e67⟩, C67, st67⟩ := oCallS W62 (idx := 14) (pc := 165) (ls := #[.val (.int i0), .val (.int i1), .val (.int i2), .val (.int i3), .val (.int i4), .val (.int (4 : Int32)), .val (.int c0), .val (.int c1), .val (.int c2), .val (.int c3), .val (.ref a57), .unset]) (st := []) (argsL := [(.int c1)]) (c_bc K) (fun x hx => nomatch hx) (hw _ (List.mem_of_getElem? (i := 42) rfl)) (hw _ (List.mem_of_getElem? (i := 43) rfl)) (hw _ (List.mem_of_getElem? (i := 3) rfl)) (hw _ (List.mem_of_getElem? (i := 44) rfl)) (by decide) (na := 1) rfl (by decide +kernel) rfl (stk := [(.int c1)]) rfl (by decide +kernel) (V := 0) (lb rfl) (lb rfl) (lb rfl) (lb rfl) (lb rfl)
    refine oLift st67 ?_
    rw [e67] at W67 C67
    show OG _ _ _ _ _ _ _ _ _ _ _ (mkF m 168 #[.val (.int i0), .val (.int i1), .val (.int i2), .val (.int i3), .val (.int i4), .val (.int (4 : Int32)), .val (.int c0), .val (.int c1), .val (.int c2), .val (.int c3), .val (.ref a57), .unset] [(.int (bc c1))])
    by_cases hc68 : (bc c1) = (0 : Int32)
    · refine oIfT W67 (cd := .eq) (o := 35) (by decide +kernel) (XT.i0_eq_t hc68) (pc' := 203) (by decide) (by decide) ?_
      refine oGo W67 [.iconst 0, .istore 11] (by decide +kernel) (ls' := #[.val (.int i0), .val (.int i1), .val (.int i2), .val (.int i3), .val (.int i4), .val (.int (4 : Int32)), .val (.int c0), .val (.int c1), .val (.int c2), .val (.int c3), .val (.ref a57), .val (.int (0 : Int32))]) (st' := []) rfl rfl (pc' := 206) rfl ?_
      obtain ⟨T69, h69, a69, W69, g69, E69, A69, D69, S69, C69, st69⟩ := oNew W67 (pc := 206) (ls := #[.val (.int i0), .val (.int i1), .val (.int i2), .val (.int i3), .val (.int i4), .val (.int (4 : Int32)), .val (.int c0), .val (.int c1), .val (.int c2), .val (.int c3), .val (.ref a57), .val (.int (0 : Int32))]) (st := []) (hw _ (List.mem_of_getElem? (i := 6) rfl)) (hw _ (List.mem_of_getElem? (i := 7) rfl)) (hw _ (List.mem_of_getElem? (i := 8) rfl)) (by decide +kernel) (lb rfl) (lb rfl)
      refine oLift st69 ?_
      refine oGo W69 [.dup, .aload 10] (by decide +kernel) (ls' := #[.val (.int i0), .val (.int i1), .val (.int i2), .val (.int i3), .val (.int i4), .val (.int (4 : Int32)), .val (.int c0), .val (.int c1), .val (.int c2), .val (.int c3), .val (.ref a57), .val (.int (0 : Int32))]) (st' := [(.ref a57), (.ref a69), (.ref a69)]) rfl rfl (pc' := 212) rfl ?_
      obtain ⟨v70, T70, L70, h70, vm70, W70, ⟨rfl, K70, F70⟩, C70, st70⟩ := oCallN W69 (idx := 20) (pc := 212) (ls := #[.val (.int i0), .val (.int i1), .val (.int i2), .val (.int i3), .val (.int i4), .val (.int (4 : Int32)), .val (.int c0), .val (.int c1), .val (.int c2), .val (.int c3), .val (.ref a57), .val (.int (0 : Int32))]) (st := [(.ref a69)]) (a := a69) (argsL := [(.ref a57)]) (c_i1a K [c0, c1, c2, c3] (lb rfl) (Nat.succ_pos _) (A61.ext E69) (own_cons u0 (own_cons u1 (own_cons u2 (own_cons u3 own_nil)))) (Nat.le_trans W61.ext.1 g69) A69 (D69 (Or.inr (hw _ (List.mem_of_getElem? (i := 22) rfl))) (ty := .byte) (by decide)) (D69 (Or.inr (hw _ (List.mem_of_getElem? (i := 21) rfl))) (ty := (.array .byte)) (by decide))) (fun y hy => by cases List.mem_singleton.mp hy; exact ⟨A69.lt, S69⟩) rfl (hw _ (List.mem_of_getElem? (i := 9) rfl)) (hw _ (List.mem_of_getElem? (i := 10) rfl)) (hw _ (List.mem_of_getElem? (i := 8) rfl)) (hw _ (List.mem_of_getElem? (i := 11) rfl)) (by decide) (na := 1) rfl (by decide +kernel) rfl (stk := [(.ref a57), (.ref a69), (.ref a69)]) rfl (by decide +kernel) (V := 1) (lb rfl) (lb rfl) (lb rfl) (lb rfl) (lb rfl)
      refine oLift st70 ?_
      show OG _ _ _ _ _ _ _ _ _ _ _ (mkF m 215 #[.val (.int i0), .val (.int i1), .val (.int i2), .val (.int i3), .val (.int i4), .val (.int (4 : Int32)), .val (.int c0), .val (.int c1), .val (.int c2), .val (.int c3), .val (.ref a57), .val (.int (0 : Int32))] [(.ref a69)])
      obtain ⟨v71, T71, L71, h71, vm71, W71, ⟨rfl, e71⟩, C71, st71⟩ := oCallS W70 (idx := 23) (pc := 215) (ls := #[.val (.int i0), .val (.int i1), .val (.int i2), .val (.int i3), .val (.int i4), .val (.int (4 : Int32)), .val (.int c0), .val (.int c1), .val (.int c2), .val (.int c3), .val (.ref a57), .val (.int (0 : Int32))]) (st := []) (argsL := [(.ref a69)]) (c_ibl K (cs := [c0, c1, c2, c3]) F70 (lb rfl) (own_cons u0 (own_cons u1 (own_cons u2 (own_cons u3 own_nil))))) (fun x hx => nomatch hx) (hw _ (List.mem_of_getElem? (i := 27) rfl)) (hw _ (List.mem_of_getElem? (i := 28) rfl)) (hw _ (List.mem_of_getElem? (i := 29) rfl)) (hw _ (List.mem_of_getElem? (i := 30) rfl)) (by decide) (na := 1) rfl (by decide +kernel) rfl (stk := [(.ref a69)]) rfl (by decide +kernel) (V := 0) (lb rfl) (lb rfl) (lb rfl) (lb rfl) (lb rfl)
      refine oLift st71 ?_
      rw [e71] at W71 C71
      show OG _ _ _ _ _ _ _ _ _ _ _ (mkF m 218 #[.val (.int i0), .val (.int i1), .val (.int i2), .val (.int i3), .val (.int i4), .val (.int (4 : Int32)), .val (.int c0), .val (.int c1), .val (.int c2), .val (.int c3), .val (.ref a57), .val (.int (0 : Int32))] [(.int (blk [c0, c1, c2, c3]))])
      refine oGo W71 [.iload 11] (by decide +kernel) (ls' := #[.val (.int i0), .val (.int i1), .val (.int i2), .val (.int i3), .val (.int i4), .val (.int (4 : Int32)), .val (.int c0), .val (.int c1), .val (.int c2), .val (.int c3), .val (.ref a57), .val (.int (0 : Int32))]) (st' := [(.int (0 : Int32)), (.int (blk [c0, c1, c2, c3]))]) rfl rfl (pc' := 220) rfl ?_
      refine oIcF W71 (cd := .ne) (o := 7) (by decide +kernel) (XT.ii_ne_f (by simp [blk, hc63, hc68])) (pc' := 223) rfl ?_
      refine oGo W71 [.iconst 1, .goto 4] (by decide +kernel) (ls' := #[.val (.int i0), .val (.int i1), .val (.int i2), .val (.int i3), .val (.int i4), .val (.int (4 : Int32)), .val (.int c0), .val (.int c1), .val (.int c2), .val (.int c3), .val (.ref a57), .val (.int (0 : Int32))]) (st' := [(.int (1 : Int32))]) rfl rfl (pc' := 228) rfl ?_
      exact oRetN (by simp) W71 rfl (by decide +kernel) (lb rfl) (lb rfl) (fun vm' hv => rfl)
    refine oIfF W67 (cd := .eq) (o := 35) (by decide +kernel) (XT.i0_eq_f hc68) (pc' := 171) rfl ?_
    refine oGo W67 [.iload 5, .iconst 3] (by decide +kernel) (ls' := #[.val (.int i0), .val (.int i1), .val (.int i2), .val (.int i3), .val (.int i4), .val (.int (4 : Int32)), .val (.int c0), .val (.int c1), .val (.int c2), .val (.int c3), .val (.ref a57), .unset]) (st' := [(.int (3 : Int32)), (.int (4 : Int32))]) rfl rfl (pc' := 174) rfl ?_
    refine oIcF W67 (cd := .lt) (o := 11) (by decide +kernel) (XT.ii_lt_f (by decide)) (pc' := 177) rfl ?_
    refine oGo W67 [.iload 8] (by decide +kernel) (ls' := #[.val (.int i0), .val (.int i1), .val (.int i2), .val (.int i3), .val (.int i4), .val (.int (4 : Int32)), .val (.int c0), .val (.int c1), .val (.int c2), .val (.int c3), .val (.ref a57), .unset]) (st' := [(.int c2)]) rfl rfl (pc' := 179) rfl ?_
    obtain ⟨v72, T72, L72, h72, vm72, W72, ⟨rfl, e72⟩, C72, st72⟩ := oCallS W67 (idx := 14) (pc := 179) (ls := #[.val (.int i0), .val (.int i1), .val (.int i2), .val (.int i3), .val (.int i4), .val (.int (4 : Int32)), .val (.int c0), .val (.int c1), .val (.int c2), .val (.int c3), .val (.ref a57), .unset]) (st := []) (argsL := [(.int c2)]) (c_bc K) (fun x hx => nomatch hx) (hw _ (List.mem_of_getElem? (i := 42) rfl)) (hw _ (List.mem_of_getElem? (i := 43) rfl)) (hw _ (List.mem_of_getElem? (i := 3) rfl)) (hw _ (List.mem_of_getElem? (i := 44) rfl)) (by decide) (na := 1) rfl (by decide +kernel) rfl (stk := [(.int c2)]) rfl (by decide +kernel) (V := 0) (lb rfl) (lb rfl) (lb rfl) (lb rfl) (lb rfl)
    refine oLift st72 ?_
    rw [e72] at W72 C72
    show OG _ _ _ _ _ _ _ _ _ _ _ (mkF m 182 #[.val (.int i0), .val (.int i1), .val (.int i2), .val (.int i3), .val (.int i4), .val (.int (4 : Int32)), .val (.int c0), .val (.int c1), .val (.int c2), .val (.int c3), .val (.ref a57), .unset] [(.int (bc c2))])
    by_cases hc73 : (bc c2) = (0 : Int32)
    · refine oIfT W72 (cd := .eq) (o := 21) (by decide +kernel) (XT.i0_eq_t hc73) (pc' := 203) (by decide) (by decide) ?_
      refine oGo W72 [.iconst 0, .istore 11] (by decide +kernel) (ls' := #[.val (.int i0), .val (.int i1), .val (.int i2), .val (.int i3), .val (.int i4), .val (.int (4 : Int32)), .val (.int c0), .val (.int c1), .val (.int c2), .val (.int c3), .val (.ref a57), .val (.int (0 : Int32))]) (st' := []) rfl rfl (pc' := 206) rfl ?_
      obtain ⟨T74, h74, a74, W74, g74, E74, A74, D74, S74, C74, st74⟩ := oNew W72 (pc := 206) (ls := #[.val (.int i0), .val (.int i1), .val (.int i2), .val (.int i3), .val (.int i4), .val (.int (4 : Int32)), .val (.int c0), .val (.int c1), .val (.int c2), .val (.int c3), .val (.ref a57), .val (.int (0 : Int32))]) (st := []) (hw _ (List.mem_of_getElem? (i := 6) rfl)) (hw _ (List.mem_of_getElem? (i := 7) rfl)) (hw _ (List.mem_of_getElem? (i := 8) rfl)) (by decide +kernel) (lb rfl) (lb rfl)
      refine oLift st74 ?_
      refine oGo W74 [.dup, .aload 10] (by decide +kernel) (ls' := #[.val (.int i0), .val (.int i1), .val (.int i2), .val (.int i3), .val (.int i4), .val (.int (4 : Int32)), .val (.int c0), .val (.int c1), .val (.int c2), .val (.int c3), .val (.ref a57), .val (.int (0 : Int32))]) (st' := [(.ref a57), (.ref a74), (.ref a74)]) rfl rfl (pc' := 212) rfl ?_
      obtain ⟨v75, T75, L75, h75, vm75, W75, ⟨rfl, K75, F75⟩, C75, st75⟩ := oCallN W74 (idx := 20) (pc := 212) (ls := #[.val (.int i0), .val (.int i1), .val (.int i2), .val (.int i3), .val (.int i4), .val (.int (4 : Int32)), .val (.int c0), .val (.int c1), .val (.int c2), .val (.int c3), .val (.ref a57), .val (.int (0 : Int32))]) (st := [(.ref a74)]) (a := a74) (argsL := [(.ref a57)]) (c_i1a K [c0, c1, c2, c3] (lb rfl) (Nat.succ_pos _) (A61.ext E74) (own_cons u0 (own_cons u1 (own_cons u2 (own_cons u3 own_nil)))) (Nat.le_trans W61.ext.1 g74) A74 (D74 (Or.inr (hw _ (List.mem_of_getElem? (i := 22) rfl))) (ty := .byte) (by decide)) (D74 (Or.inr (hw _ (List.mem_of_getElem? (i := 21) rfl))) (ty := (.array .byte)) (by decide))) (fun y hy => by cases List.mem_singleton.mp hy; exact ⟨A74.lt, S74⟩) rfl (hw _ (List.mem_of_getElem? (i := 9) rfl)) (hw _ (List.mem_of_getElem? (i := 10) rfl)) (hw _ (List.mem_of_getElem? (i := 8) rfl)) (hw _ (List.mem_of_getElem? (i := 11) rfl)) (by decide) (na := 1) rfl (by decide +kernel) rfl (stk := [(.ref a57), (.ref a74), (.ref a74)]) rfl (by decide +kernel) (V := 1) (lb rfl) (lb rfl) (lb rfl) (lb rfl) (lb rfl)
      refine oLift st75 ?_
      show OG _ _ _ _ _ _ _ _ _ _ _ (mkF m 215 #[.val (.int i0), .val (.int i1), .val (.int i2), .val (.int i3), .val (.int i4), .val (.int (4 : Int32)), .val (.int c0), .val (.int c1), .val (.int c2), .val (.int c3), .val (.ref a57), .val (.int (0 : Int32))] [(.ref a74)])
      obtain ⟨v76, T76, L76, h76, vm76, W76, ⟨rfl, e76⟩, C76, st76⟩ := oCallS W75 (idx := 23) (pc := 215) (ls := #[.val (.int i0), .val (.int i1), .val (.int i2), .val (.int i3), .val (.int i4), .val (.int (4 : Int32)), .val (.int c0), .val (.int c1), .val (.int c2), .val (.int c3), .val (.ref a57), .val (.int (0 : Int32))]) (st := []) (argsL := [(.ref a74)]) (c_ibl K (cs := [c0, c1, c2, c3]) F75 (lb rfl) (own_cons u0 (own_cons u1 (own_cons u2 (own_cons u3 own_nil))))) (fun x hx => nomatch hx) (hw _ (List.mem_of_getElem? (i := 27) rfl)) (hw _ (List.mem_of_getElem? (i := 28) rfl)) (hw _ (List.mem_of_getElem? (i := 29) rfl)) (hw _ (List.mem_of_getElem? (i := 30) rfl)) (by decide) (na := 1) rfl (by decide +kernel) rfl (stk := [(.ref a74)]) rfl (by decide +kernel) (V := 0) (lb rfl) (lb rfl) (lb rfl) (lb rfl) (lb rfl)
      refine oLift st76 ?_
      rw [e76] at W76 C76
      show OG _ _ _ _ _ _ _ _ _ _ _ (mkF m 218 #[.val (.int i0), .val (.int i1), .val (.int i2), .val (.int i3), .val (.int i4), .val (.int (4 : Int32)), .val (.int c0), .val (.int c1), .val (.int c2), .val (.int c3), .val (.ref a57), .val (.int (0 : Int32))] [(.int (blk [c0, c1, c2, c3]))])
      refine oGo W76 [.iload 11] (by decide +kernel) (ls' := #[.val (.int i0), .val (.int i1), .val (.int i2), .val (.int i3), .val (.int i4), .val (.int (4 : Int32)), .val (.int c0), .val (.int c1), .val (.int c2), .val (.int c3), .val (.ref a57), .val (.int (0 : Int32))]) (st' := [(.int (0 : Int32)), (.int (blk [c0, c1, c2, c3]))]) rfl rfl (pc' := 220) rfl ?_
      refine oIcF W76 (cd := .ne) (o := 7) (by decide +kernel) (XT.ii_ne_f (by simp [blk, hc63, hc68, hc73])) (pc' := 223) rfl ?_
      refine oGo W76 [.iconst 1, .goto 4] (by decide +kernel) (ls' := #[.val (.int i0), .val (.int i1), .val (.int i2), .val (.int i3), .val (.int i4), .val (.int (4 : Int32)), .val (.int c0), .val (.int c1), .val (.int c2), .val (.int c3), .val (.ref a57), .val (.int (0 : Int32))]) (st' := [(.int (1 : Int32))]) rfl rfl (pc' := 228) rfl ?_
      exact oRetN (by simp) W76 rfl (by decide +kernel) (lb rfl) (lb rfl) (fun vm' hv => rfl)
    refine oIfF W72 (cd := .eq) (o := 21) (by decide +kernel) (XT.i0_eq_f hc73) (pc' := 185) rfl ?_
    refine oGo W72 [.iload 5, .iconst 4] (by decide +kernel) (ls' := #[.val (.int i0), .val (.int i1), .val (.int i2), .val (.int i3), .val (.int i4), .val (.int (4 : Int32)), .val (.int c0), .val (.int c1), .val (.int c2), .val (.int c3), .val (.ref a57), .unset]) (st' := [(.int (4 : Int32)), (.int (4 : Int32))]) rfl rfl (pc' := 188) rfl ?_
    refine oIcF W72 (cd := .lt) (o := 11) (by decide +kernel) (XT.ii_lt_f (by decide)) (pc' := 191) rfl ?_
    refine oGo W72 [.iload 9] (by decide +kernel) (ls' := #[.val (.int i0), .val (.int i1), .val (.int i2), .val (.int i3), .val (.int i4), .val (.int (4 : Int32)), .val (.int c0), .val (.int c1), .val (.int c2), .val (.int c3), .val (.ref a57), .unset]) (st' := [(.int c3)]) rfl rfl (pc' := 193) rfl ?_
    obtain ⟨v77, T77, L77, h77, vm77, W77, ⟨rfl, e77⟩, C77, st77⟩ := oCallS W72 (idx := 14) (pc := 193) (ls := #[.val (.int i0), .val (.int i1), .val (.int i2), .val (.int i3), .val (.int i4), .val (.int (4 : Int32)), .val (.int c0), .val (.int c1), .val (.int c2), .val (.int c3), .val (.ref a57), .unset]) (st := []) (argsL := [(.int c3)]) (c_bc K) (fun x hx => nomatch hx) (hw _ (List.mem_of_getElem? (i := 42) rfl)) (hw _ (List.mem_of_getElem? (i := 43) rfl)) (hw _ (List.mem_of_getElem? (i := 3) rfl)) (hw _ (List.mem_of_getElem? (i := 44) rfl)) (by decide) (na := 1) rfl (by decide +kernel) rfl (stk := [(.int c3)]) rfl (by decide +kernel) (V := 0) (lb rfl) (lb rfl) (lb rfl) (lb rfl) (lb rfl)
    refine oLift st77 ?_
    rw [e77] at W77 C77
    show OG _ _ _ _ _ _ _ _ _ _ _ (mkF m 196 #[.val (.int i0), .val (.int i1), .val (.int i2), .val (.int i3), .val (.int i4), .val (.int (4 : Int32)), .val (.int c0), .val (.int c1), .val (.int c2), .val (.int c3), .val (.ref a57), .unset] [(.int (bc c3))])
    by_cases hc78 : (bc c3) = (0 : Int32)
    · refine oIfT W77 (cd := .eq) (o := 7) (by decide +kernel) (XT.i0_eq_t hc78) (pc' := 203) (by decide) (by decide) ?_
      refine oGo W77 [.iconst 0, .istore 11] (by decide +kernel) (ls' := #[.val (.int i0), .val (.int i1), .val (.int i2), .val (.int i3), .val (.int i4), .val (.int (4 : Int32)), .val (.int c0), .val (.int c1), .val (.int c2), .val (.int c3), .val (.ref a57), .val (.int (0 : Int32))]) (st' := []) rfl rfl (pc' := 206) rfl ?_
      obtain ⟨T79, h79, a79, W79, g79, E79, A79, D79, S79, C79, st79⟩ := oNew W77 (pc := 206) (ls := #[.val (.int i0), .val (.int i1), .val (.int i2), .val (.int i3), .val (.int i4), .val (.int (4 : Int32)), .val (.int c0), .val (.int c1), .val (.int c2), .val (.int c3), .val (.ref a57), .val (.int (0 : Int32))]) (st := []) (hw _ (List.mem_of_getElem? (i := 6) rfl)) (hw _ (List.mem_of_getElem? (i := 7) rfl)) (hw _ (List.mem_of_getElem? (i := 8) rfl)) (by decide +kernel) (lb rfl) (lb rfl)
      refine oLift st79 ?_
      refine oGo W79 [.dup, .aload 10] (by decide +kernel) (ls' := #[.val (.int i0), .val (.int i1), .val (.int i2), .val (.int i3), .val (.int i4), .val (.int (4 : Int32)), .val (.int c0), .val (.int c1), .val (.int c2), .val (.int c3), .val (.ref a57), .val (.int (0 : Int32))]) (st' := [(.ref a57), (.ref a79), (.ref a79)]) rfl rfl (pc' := 212) rfl ?_
      obtain ⟨v80, T80, L80, h80, vm80, W80, ⟨rfl, K80, F80⟩, C80, st80⟩ := oCallN W79 (idx := 20) (pc := 212) (ls := #[.val (.int i0), .val (.int i1), .val (.int i2), .val (.int i3), .val (.int i4), .val (.int (4 : Int32)), .val (.int c0), .val (.int c1), .val (.int c2), .val (.int c3), .val (.ref a57), .val (.int (0 : Int32))]) (st := [(.ref a79)]) (a := a79) (argsL := [(.ref a57)]) (c_i1a K [c0, c1, c2, c3] (lb rfl) (Nat.succ_pos _) (A61.ext E79) (own_cons u0 (own_cons u1 (own_cons u2 (own_cons u3 own_nil)))) (Nat.le_trans W61.ext.1 g79) A79 (D79 (Or.inr (hw _ (List.mem_of_getElem? (i := 22) rfl))) (ty := .byte) (by decide)) (D79 (Or.inr (hw _ (List.mem_of_getElem? (i := 21) rfl))) (ty := (.array .byte)) (by decide))) (fun y hy => by cases List.mem_singleton.mp hy; exact ⟨A79.lt, S79⟩) rfl (hw _ (List.mem_of_getElem? (i := 9) rfl)) (hw _ (List.mem_of_getElem? (i := 10) rfl)) (hw _ (List.mem_of_getElem? (i := 8) rfl)) (hw _ (List.mem_of_getElem? (i := 11) rfl)) (by decide) (na := 1) rfl (by decide +kernel) rfl (stk := [(.ref a57), (.ref a79), (.ref a79)]) rfl (by decide +kernel) (V := 1) (lb rfl) (lb rfl) (lb rfl) (lb rfl) (lb rfl)
      refine oLift st80 ?_
      show OG _ _ _ _ _ _ _ _ _ _ _ (mkF m 215 #[.val (.int i0), .val (.int i1), .val (.int i2), .val (.int i3), .val (.int i4), .val (.int (4 : Int32)), .val (.int c0), .val (.int c1), .val (.int c2), .val (.int c3), .val (.ref a57), .val (.int (0 : Int32))] [(.ref a79)])
      obtain ⟨v81, T81, L81, h81, vm81, W81, ⟨rfl, e81⟩, C81, st81⟩ := oCallS W80 (idx := 23) (pc := 215) (ls := #[.val (.int i0), .val (.int i1), .val (.int i2), .val (.int i3), .val (.int i4), .val (.int (4 : Int32)), .val (.int c0), .val (.int c1), .val (.int c2), .val (.int c3), .val (.ref a57), .val (.int (0 : Int32))]) (st := []) (argsL := [(.ref a79)]) (c_ibl K (cs := [c0, c1, c2, c3]) F80 (lb rfl) (own_cons u0 (own_cons u1 (own_cons u2 (own_cons u3 own_nil))))) (fun x hx => nomatch hx) (hw _ (List.mem_of_getElem? (i := 27) rfl)) (hw _ (List.mem_of_getElem? (i := 28) rfl)) (hw _ (List.mem_of_getElem? (i := 29) rfl)) (hw _ (List.mem_of_getElem? (i := 30) rfl)) (by decide) (na := 1) rfl (by decide +kernel) rfl (stk := [(.ref a79)]) rfl (by decide +kernel) (V := 0) (lb rfl) (lb rfl) (lb rfl) (lb rfl) (lb rfl)
      refine oLift st81 ?_
      rw [e81] at W81 C81
      show OG _ _ _ _ _ _ _ _ _ _ _ (mkF m 218 #[.val (.int i0), .val (.int i1), .val (.int i2), .val (.int i3), .val (.int i4), .val (.int (4 : Int32)), .val (.int c0), .val (.int c1), .val (.int c2), .val (.int c3), .val (.ref a57), .val (.int (0 : Int32))] [(.int (blk [c0, c1, c2, c3]))])
      refine oGo W81 [.iload 11] (by decide +kernel) (ls' := #[.val (.int i0), .val (.int i1), .val (.int i2), .val (.int i3), .val (.int i4), .val (.int (4 : Int32)), .val (.int c0), .val (.int c1), .val (.int c2), .val (.int c3), .val (.ref a57), .val (.int (0 : Int32))]) (st' := [(.int (0 : Int32)), (.int (blk [c0, c1, c2, c3]))]) rfl rfl (pc' := 220) rfl ?_
      refine oIcF W81 (cd := .ne) (o := 7) (by decide +kernel) (XT.ii_ne_f (by simp [blk, hc63, hc68, hc73, hc78])) (pc' := 223) rfl ?_
      refine oGo W81 [.iconst 1, .goto 4] (by decide +kernel) (ls' := #[.val (.int i0), .val (.int i1), .val (.int i2), .val (.int i3), .val (.int i4), .val (.int (4 : Int32)), .val (.int c0), .val (.int c1), .val (.int c2), .val (.int c3), .val (.ref a57), .val (.int (0 : Int32))]) (st' := [(.int (1 : Int32))]) rfl rfl (pc' := 228) rfl ?_
      exact oRetN (by simp) W81 rfl (by decide +kernel) (lb rfl) (lb rfl) (fun vm' hv => rfl)
    refine oIfF W77 (cd := .eq) (o := 7) (by decide +kernel) (XT.i0_eq_f hc78) (pc' := 199) rfl ?_
    refine oGo W77 [.iconst 1, .goto 4, .istore 11] (by decide +kernel) (ls' := #[.val (.int i0), .val (.int i1), .val (.int i2), .val (.int i3), .val (.int i4), .val (.int (4 : Int32)), .val (.int c0), .val (.int c1), .val (.int c2), .val (.int c3), .val (.ref a57), .val (.int (1 : Int32))]) (st' := []) rfl rfl (pc' := 206) rfl ?_
    obtain ⟨T82, h82, a82, W82, g82, E82, A82, D82, S82, C82, st82⟩ := oNew W77 (pc := 206) (ls := #[.val (.int i0), .val (.int i1), .val (.int i2), .val (.int i3), .val (.int i4), .val (.int (4 : Int32)), .val (.int c0), .val (.int c1), .val (.int c2), .val (.int c3), .val (.ref a57), .val (.int (1 : Int32))]) (st := []) (hw _ (List.mem_of_getElem? (i := 6) rfl)) (hw _ (List.mem_of_getElem? (i := 7) rfl)) (hw _ (List.mem_of_getElem? (i := 8) rfl)) (by decide +kernel) (lb rfl) (lb rfl)
    refine oLift st82 ?_
    refine oGo W82 [.dup, .aload 10] (by decide +kernel) (ls' := #[.val (.int i0), .val (.int i1), .val (.int i2), .val (.int i3), .val (.int i4), .val (.int (4 : Int32)), .val (.int c0), .val (.int c1), .val (.int c2), .val (.int c3), .val (.ref a57), .val (.int (1 : Int32))]) (st' := [(.ref a57), (.ref a82), (.ref a82)]) rfl rfl (pc' := 212) rfl ?_
    obtain ⟨v83, T83, L83, h83, vm83, W83, ⟨rfl, K83, F83⟩, C83, st83⟩ := oCallN W82 (idx := 20) (pc := 212) (ls := #[.val (.int i0), .val (.int i1), .val (.int i2), .val (.int i3), .val (.int i4), .val (.int (4 : Int32)), .val (.int c0), .val (.int c1), .val (.int c2), .val (.int c3), .val (.ref a57), .val (.int (1 : Int32))]) (st := [(.ref a82)]) (a := a82) (argsL := [(.ref a57)]) (c_i1a K [c0, c1, c2, c3] (lb rfl) (Nat.succ_pos _) (A61.ext E82) (own_cons u0 (own_cons u1 (own_cons u2 (own_cons u3 own_nil)))) (Nat.le_trans W61.ext.1 g82) A82 (D82 (Or.inr (hw _ (List.mem_of_getElem? (i := 22) rfl))) (ty := .byte) (by decide)) (D82 (Or.inr (hw _ (List.mem_of_getElem? (i := 21) rfl))) (ty := (.array .byte)) (by decide))) (fun y hy => by cases List.mem_singleton.mp hy; exact ⟨A82.lt, S82⟩) rfl (hw _ (List.mem_of_getElem? (i := 9) rfl)) (hw _ (List.mem_of_getElem? (i := 10) rfl)) (hw _ (List.mem_of_getElem? (i := 8) rfl)) (hw _ (List.mem_of_getElem? (i := 11) rfl)) (by decide) (na := 1) rfl (by decide +kernel) rfl (stk := [(.ref a57), (.ref a82), (.ref a82)]) rfl (by decide +kernel) (V := 1) (lb rfl) (lb rfl) (lb rfl) (lb rfl) (lb rfl)
    refine oLift st83 ?_
    show OG _ _ _ _ _ _ _ _ _ _ _ (mkF m 215 #[.val (.int i0), .val (.int i1), .val (.int i2), .val (.int i3), .val (.int i4), .val (.int (4 : Int32)), .val (.int c0), .val (.int c1), .val (.int c2), .val (.int c3), .val (.ref a57), .val (.int (1 : Int32))] [(.ref a82)])
    obtain ⟨v84, T84, L84, h84, vm84, W84, ⟨rfl, e84⟩, C84, st84⟩ := oCallS W83 (idx := 23) (pc := 215) (ls := #[.val (.int i0), .val (.int i1), .val (.int i2), .val (.int i3), .val (.int i4), .val (.int (4 : Int32)), .val (.int c0), .val (.int c1), .val (.int c2), .val (.int c3), .val (.ref a57), .val (.int (1 : Int32))]) (st := []) (argsL := [(.ref a82)]) (c_ibl K (cs := [c0, c1, c2, c3]) F83 (lb rfl) (own_cons u0 (own_cons u1 (own_cons u2 (own_cons u3 own_nil))))) (fun x hx => nomatch hx) (hw _ (List.mem_of_getElem? (i := 27) rfl)) (hw _ (List.mem_of_getElem? (i := 28) rfl)) (hw _ (List.mem_of_getElem? (i := 29) rfl)) (hw _ (List.mem_of_getElem? (i := 30) rfl)) (by decide) (na := 1) rfl (by decide +kernel) rfl (stk := [(.ref a82)]) rfl (by decide +kernel) (V := 0) (lb rfl) (lb rfl) (lb rfl) (lb rfl) (lb rfl)
    refine oLift st84 ?_
    rw [e84] at W84 C84
    show OG _ _ _ _ _ _ _ _ _ _ _ (mkF m 218 #[.val (.int i0), .val (.int i1), .val (.int i2), .val (.int i3), .val (.int i4), .val (.int (4 : Int32)), .val (.int c0), .val (.int c1), .val (.int c2), .val (.int c3), .val (.ref a57), .val (.int (1 : Int32))] [(.int (blk [c0, c1, c2, c3]))])
    refine oGo W84 [.iload 11] (by decide +kernel) (ls' := #[.val (.int i0), .val (.int i1), .val (.int i2), .val (.int i3), .val (.int i4), .val (.int (4 : Int32)), .val (.int c0), .val (.int c1), .val (.int c2), .val (.int c3), .val (.ref a57), .val (.int (1 : Int32))]) (st' := [(.int (1 : Int32)), (.int (blk [c0, c1, c2, c3]))]) rfl rfl (pc' := 220) rfl ?_
    refine oIcF W84 (cd := .ne) (o := 7) (by decide +kernel) (XT.ii_ne_f (by simp [blk, hc63, hc68, hc73, hc78])) (pc' := 223) rfl ?_
    refine oGo W84 [.iconst 1, .goto 4] (by decide +kernel) (ls' := #[.val (.int i0), .val (.int i1), .val (.int i2), .val (.int i3), .val (.int i4), .val (.int (4 : Int32)), .val (.int c0), .val (.int c1), .val (.int c2), .val (.int c3), .val (.ref a57), .val (.int (1 : Int32))]) (st' := [(.int (1 : Int32))]) rfl rfl (pc' := 228) rfl ?_
    exact oRetN (by simp) W84 rfl (by decide +kernel) (lb rfl) (lb rfl) (fun vm' hv => rfl)
set_option maxRecDepth 65536 in
set_option maxHeartbeats 40000000 in
theorem comes_1 {Post : Tables → Env → Array Value → State → Outcome → State → Prop} (hpost : ∀ tb e args s v u, (limb_1_1.after args s (.returned v) u = true ∧ limb_1_2.after args s (.returned v) u = true ∧ True) → ReturnedEndW s (.returned v) u (Jvm.fieldLocs frame_1_writes args s ++ Jvm.arrayLocs frame_1_arrays args s ++ Jvm.staticLocs frame_1_statics s) 24 1152 → Post tb e args s (.returned v) u) :
    ArmFor flags0 classFile x code maxLocals ret World_1 tables_1 room_1 Calls_1 rest_1 Pre_1 Post := by
  intro l hfl _ _ p e ha hc hk s m args below hf hA hF happ hP
  obtain ⟨hcalls, hrest, hpre⟩ := hP
  obtain ⟨-, -, -, hnamed, -, -, -, hat⟩ := (Spec.applies_iff hf).mp happ
  obtain ⟨hg, hn⟩ := and_e (Cond.before_iff.mp (show (Jvm.Cond.and given_1 narrow_1).before args s = true from hpre))
  obtain ⟨hcnt, t0⟩ := and_e hg
  obtain ⟨g0, t1⟩ := and_e t0
  obtain ⟨g1, t2⟩ := and_e t1
  obtain ⟨g2, t3⟩ := and_e t2
  obtain ⟨g3, t4⟩ := and_e t3
  obtain ⟨w0, w1, w2, w3, w4, rfl⟩ : ∃ w0 w1 w2 w3 w4 : Value, args = #[w0, w1, w2, w3, w4] := by
    have hs : args.size = 5 := by simpa [Cond.value, given_1] using hcnt
    obtain ⟨L⟩ := args
    match L, hs with
    | [w0, w1, w2, w3, w4], _ => exact ⟨w0, w1, w2, w3, w4, rfl⟩
  have hw := fun d (hd : d ∈ tables_1) => atoms_spec (ws := Jvm.Cond.code x code maxLocals ret :: tables_1) hat d (List.mem_cons_of_mem _ hd)
  obtain ⟨hsets, hown0⟩ := atoms_of _ (rest_1_c_eq ▸ (show rest_1_c.before _ s = true from hrest))
  obtain ⟨i0, e0⟩ := is_v g0
  obtain rfl : w0 = (.int i0) := Option.some.inj e0
  obtain ⟨i1, e1⟩ := is_v g1
  obtain rfl : w1 = (.int i1) := Option.some.inj e1
  obtain ⟨i2, e2⟩ := is_v g2
  obtain rfl : w2 = (.int i2) := Option.some.inj e2
  obtain ⟨i3, e3⟩ := is_v g3
  obtain rfl : w3 = (.int i3) := Option.some.inj e3
  obtain ⟨i4, e4⟩ := is_v t4
  obtain rfl : w4 = (.int i4) := Option.some.inj e4
  have n5 := not_v (Cond.before_iff.mp (hsets _ (List.mem_of_getElem? (i := 2) rfl)))
  obtain ⟨z, ez⟩ := is_v (Cond.before_iff.mp (hsets _ (List.mem_of_getElem? (i := 1) rfl)))
  have Sz : Sta s s.heap "java/lang/String" "COMPACT_STRINGS" "Z" (.int z) := Sta.start ez (Or.inl (hsets _ (List.mem_of_getElem? (i := 0) rfl)))
  have cz : ¬ (z = (0 : Int32)) := gotF (Cond.eq_ints ez (Term.int_eval (0))) n5
  obtain ⟨fs, efs, rfs⟩ := own_isref (Cond.before_iff.mp (hsets _ (List.mem_of_getElem? (i := 8) rfl)))
  have hSx : Sx s := ⟨fs, Sta.start efs (Or.inl (hsets _ (List.mem_of_getElem? (i := 7) rfl))), rfs⟩
  have hUx : Ux s := ⟨Sta.start (eqv (Cond.before_iff.mp (hsets _ (List.mem_of_getElem? (i := 12) rfl))) rfl (Or.inr ⟨_, rfl⟩)) (Or.inl (hsets _ (List.mem_of_getElem? (i := 11) rfl))), Sta.start (eqv (Cond.before_iff.mp (hsets _ (List.mem_of_getElem? (i := 15) rfl))) rfl (Or.inr ⟨_, rfl⟩)) (Or.inl (hsets _ (List.mem_of_getElem? (i := 14) rfl))), Sta.start (eqv (Cond.before_iff.mp (hsets _ (List.mem_of_getElem? (i := 18) rfl))) rfl (Or.inr ⟨_, rfl⟩)) (Or.inl (hsets _ (List.mem_of_getElem? (i := 17) rfl)))⟩
  have hEW : EW s #[.int i0, .int i1, .int i2, .int i3, .int i4] EL := EW.cons (hw _ (List.mem_of_getElem? (i := 19) rfl)) (by decide) EW.nil
  have hCH : CHv s EL s.vm s.heap := CHv.start hEW (fun p hp => hcalls.1 p hp) (hsets _ (List.mem_of_getElem? (i := 2) rfl)) (hw _ (List.mem_of_getElem? (i := 20) rfl)) (hw _ (List.mem_of_getElem? (i := 7) rfl))
  have K : Ctx s #[.int i0, .int i1, .int i2, .int i3, .int i4] := ⟨hw, ⟨fun d hd => hw d (sW_in d hd), hEW, z, Sz, cz⟩, fun d hd => hw d (sA_in d hd), hSx, hUx, trivial⟩
  obtain ⟨n, o, q1, q2, q3, v, L, rfl, ⟨rfl, N, -⟩, hnb, -, r1, r2, r3, r4⟩ := c_law (l := l) K i0 i1 i2 i3 i4 s.heap p e ha hc hk s m _ below hf ((Spec.applies_iff_loose hf).mp happ).1 ⟨rfl, State.Warmed39.refl s, rfl, hCH, exR _, fun _ hp => nomatch hp⟩ trivial
  exact ⟨n, _, q1, q2, q3, hpost _ _ _ _ _ _ ⟨Cond.after_iff.mpr rfl, Cond.after_iff.mpr (eq_i res_at (Term.int_eval (1)) rfl), trivial⟩ ⟨r1, r2, r3, (r4.sift fun y hy => Or.inr (N y hy)).mono (by decide) (by decide)⟩⟩
theorem main_1_1 : Claimed_1_1 := comes_1 fun _ _ _ _ _ _ h hF => ⟨h.1, hF⟩
theorem main_1_2 : Claimed_1_2 := comes_1 fun _ _ _ _ _ _ h hF => ⟨h.2.1, hF⟩
end Jvm.Pilot.@@N@@
namespace Jvm.Pilot.@@N@@
open Jvm Jvm.ClassFile Sem Op Lib Jvm.Free Jvm.Stand Jvm.Pilot.@@N@@.Jvm.D
/-! MADE BY PROGRAM (witnessworld.py) out of the Statement's table words and the real class files: 20 classes; the members and pool entries that the words name. The judged class is class 1, her method 1. -/
namespace start1
open Jvm.ClassFile
def u (s : String) : CpInfo := .utf8 (stringToUtf16 s)
/-- a pool by its gaps: so many unusable entries, then the entry; so many at the end -/
def gap : Nat → List CpInfo → List CpInfo
  | 0, r => r
  | n + 1, r => .unusable :: gap n r
def poolList (es : List (Nat × CpInfo)) (last : Nat) : List CpInfo := es.foldr (fun e r => gap e.1 (e.2 :: r)) (gap last [])
def pool (es : List (Nat × CpInfo)) (last : Nat) : Array CpInfo := ⟨poolList es last⟩
def fileOf (pool : Array CpInfo) (this : Nat) (attrs : Array Attribute := #[]) (ms : Array MethodInfo := #[]) (fl : Nat := 33) (sup : Nat := 0) (ifs : Array Nat := #[]) (fds : Array FieldInfo := #[]) : ClassFile where
  minorVersion := 0
  majorVersion := 65
  constantPool := pool
  accessFlags := fl
  thisClass := this
  superClass := sup
  interfaces := ifs
  fields := fds
  methods := ms
  attributes := attrs
def plain (name : String) (sup : Option ClassId) : Class where
  name := name
  kind := .ordinary
  loader := none
  accessFlags := 33
  super := sup
  interfaces := #[]
  cf := none
  fields := #[]
  methods := #[]
  instanceTypes := #[]
  staticTypes := #[]
  resolved := #[]
  callSites := []
  init := .initialized
  statics := none
  mirror := none

def pool0 : Array CpInfo := pool [(5, u "<init>"), (0, u "()V"), (1, .class_ 10), (1, u "java/lang/Object")] 113

def k0c0 : Code := { maxStack := 0, maxLocals := 1, code := object_method_1_code, exceptionTable := #[], attributes := #[] }
def k0m0 : Method := { name := "<init>", desc := "()V", sig := { parameters := [], returnType := none }, accessFlags := 1, code := some k0c0 }
/-- java/lang/Object -/
def k0 : Class := { plain "java/lang/Object" none with
  accessFlags := 33
  interfaces := #[]
  cf := some (fileOf pool0 8 #[] #[{ accessFlags := 1, nameIndex := 5, descriptorIndex := 6, attributes := #[] }] 33 0 #[] #[])
  fields := #[]
  methods := #[k0m0]
  instanceTypes := #[]
  staticTypes := #[]
  resolved := Array.replicate 124 none
  statics := none }

def pool1 : Array CpInfo := pool [(2, .class_ 4), (1, u "java/lang/Object"), (0, u "<init>"), (0, u "()V"), (0, .integer 2147483647), (0, .methodref 9 10), (0, .class_ 11), (0, .nameAndType 12 13), (0, u "com/example/irrmirror/irrmirror/RpslObjectIsBlankPinLaw"), (0, u "draw"), (0, u "(I)C"), (0, .methodref 9 15), (0, .nameAndType 16 17), (0, u "blankChar"), (0, u "(C)Z"), (0, .class_ 19), (0, u "java/lang/String"), (0, .methodref 18 21), (0, .nameAndType 5 22), (0, u "([C)V"), (0, .methodref 24 25), (0, .class_ 26), (0, .nameAndType 27 28), (0, u "com/example/irrmirror/irrmirror/RpslObject"), (0, u "isBlank"), (0, u "(Ljava/lang/String;)Z"), (2, u "law"), (0, u "(IIIII)Z")] 5

def k1m0 : Method := { name := "<init>", desc := "()V", sig := { parameters := [], returnType := none }, accessFlags := 1, code := none }
def k1c1 : Code := { maxStack := 4, maxLocals := 12, code := code, exceptionTable := #[], attributes := #[] }
def k1m1 : Method := { name := "law", desc := "(IIIII)Z", sig := { parameters := [.int, .int, .int, .int, .int], returnType := some .boolean }, accessFlags := 9, code := some k1c1 }
def k1c2 : Code := { maxStack := 2, maxLocals := 2, code := method_3_code, exceptionTable := #[], attributes := #[] }
def k1m2 : Method := { name := "draw", desc := "(I)C", sig := { parameters := [.int], returnType := some .char }, accessFlags := 10, code := some k1c2 }
def k1c3 : Code := { maxStack := 2, maxLocals := 1, code := method_4_code, exceptionTable := #[], attributes := #[] }
def k1m3 : Method := { name := "blankChar", desc := "(C)Z", sig := { parameters := [.char], returnType := some .boolean }, accessFlags := 10, code := some k1c3 }
/-- com/example/irrmirror/irrmirror/RpslObjectIsBlankPinLaw -/
def k1 : Class := { plain "com/example/irrmirror/irrmirror/RpslObjectIsBlankPinLaw" (some 0) with
  accessFlags := 49
  interfaces := #[]
  cf := some (fileOf pool1 9 #[] #[{ accessFlags := 1, nameIndex := 5, descriptorIndex := 6, attributes := #[] }, { accessFlags := 9, nameIndex := 31, descriptorIndex := 32, attributes := #[] }, { accessFlags := 10, nameIndex := 12, descriptorIndex := 13, attributes := #[] }, { accessFlags := 10, nameIndex := 16, descriptorIndex := 17, attributes := #[] }] 49 2 #[] #[])
  fields := #[]
  methods := #[k1m0, k1m1, k1m2, k1m3]
  instanceTypes := #[]
  staticTypes := #[]
  resolved := Array.replicate 38 none
  statics := none }

def pool2 : Array CpInfo := pool [(1, .class_ 2), (0, u "java/io/Serializable"), (0, .class_ 4), (0, u "java/lang/Object")] 2

/-- java/io/Serializable -/
def k2 : Class := { plain "java/io/Serializable" (some 0) with
  accessFlags := 1537
  interfaces := #[]
  cf := some (fileOf pool2 1 #[] #[] 1537 3 #[] #[])
  fields := #[]
  methods := #[]
  instanceTypes := #[]
  staticTypes := #[]
  resolved := Array.replicate 7 none
  statics := none }

def pool3 : Array CpInfo := pool [(1, .class_ 2), (0, u "java/lang/Comparable"), (0, .class_ 4), (0, u "java/lang/Object")] 7

/-- java/lang/Comparable -/
def k3 : Class := { plain "java/lang/Comparable" (some 0) with
  accessFlags := 1537
  interfaces := #[]
  cf := some (fileOf pool3 1 #[] #[] 1537 3 #[] #[])
  fields := #[]
  methods := #[]
  instanceTypes := #[]
  staticTypes := #[]
  resolved := Array.replicate 12 none
  statics := none }

def pool4 : Array CpInfo := pool [(2, .class_ 4), (1, u "java/lang/CharSequence"), (42, .class_ 48), (0, u "java/lang/CharSequence$1CodePointIterator"), (10, .class_ 60), (0, u "java/lang/CharSequence$1CharIterator"), (5, .class_ 67), (0, u "java/lang/Object")] 63

/-- java/lang/CharSequence -/
def k4 : Class := { plain "java/lang/CharSequence" (some 0) with
  accessFlags := 1537
  interfaces := #[]
  cf := some (fileOf pool4 2 #[.nestMembers #[47, 59]] #[] 1537 66 #[] #[])
  fields := #[]
  methods := #[]
  instanceTypes := #[]
  staticTypes := #[]
  resolved := Array.replicate 131 none
  statics := none }

def pool5 : Array CpInfo := pool [(1, .class_ 2), (0, u "java/lang/constant/Constable"), (0, .class_ 4), (0, u "java/lang/Object")] 6

/-- java/lang/constant/Constable -/
def k5 : Class := { plain "java/lang/constant/Constable" (some 0) with
  accessFlags := 1537
  interfaces := #[]
  cf := some (fileOf pool5 1 #[] #[] 1537 3 #[] #[])
  fields := #[]
  methods := #[]
  instanceTypes := #[]
  staticTypes := #[]
  resolved := Array.replicate 11 none
  statics := none }

def pool6 : Array CpInfo := pool [(1, .class_ 2), (0, u "java/lang/constant/ConstantDesc"), (0, .class_ 4), (0, u "java/lang/Object")] 32

/-- java/lang/constant/ConstantDesc -/
def k6 : Class := { plain "java/lang/constant/ConstantDesc" (some 0) with
  accessFlags := 1537
  interfaces := #[]
  cf := some (fileOf pool6 1 #[] #[] 1537 3 #[] #[])
  fields := #[]
  methods := #[]
  instanceTypes := #[]
  staticTypes := #[]
  resolved := Array.replicate 37 none
  statics := none }

def pool7 : Array CpInfo := pool [(1, .methodref 2 3), (0, .class_ 4), (0, .nameAndType 5 6), (0, u "java/lang/Object"), (0, u "<init>"), (0, u "()V"), (0, .string 8), (0, u ""), (0, .fieldref 10 11), (0, .class_ 12), (0, .nameAndType 13 14), (0, u "java/lang/String"), (0, u "value"), (0, u "[B"), (0, .fieldref 10 16), (0, .nameAndType 17 18), (0, u "coder"), (0, u "B"), (2, u "hash"), (0, u "I"), (2, u "hashIsZero"), (0, u "Z"), (0, .methodref 10 28), (0, .nameAndType 5 29), (0, u "([CIILjava/lang/Void;)V"), (8, .fieldref 10 39), (0, .nameAndType 40 26), (0, u "COMPACT_STRINGS"), (1, .class_ 44), (1, u "java/lang/StringUTF16"), (0, u "compress"), (1, .methodref 42 48), (0, .nameAndType 49 50), (0, u "coderFromArrayLen"), (0, u "([BI)B"), (56, .class_ 109), (1, u "java/lang/StringLatin1"), (32, u "()Z"), (34, .methodref 42 178), (0, .nameAndType 45 179), (0, u "([CII)[B"), (154, u "()I"), (0, .methodref 10 336), (0, .nameAndType 17 337), (0, u "()B"), (25, u "([BI)C"), (27, u "(II)V"), (35, u "(I)C"), (64, .methodref 10 493), (0, .nameAndType 494 142), (0, u "isLatin1"), (0, .methodref 107 496), (0, .nameAndType 497 363), (0, u "charAt"), (0, .methodref 42 496), (2, u "checkIndex"), (5, u "length"), (67, .class_ 576), (0, u "java/lang/CharSequence"), (22, u "CASE_INSENSITIVE_ORDER"), (0, u "Ljava/util/Comparator;"), (409, u "([C)V"), (42, .fieldref 1054 1055), (0, .class_ 1056), (0, .nameAndType 1057 1058), (0, u "jdk/internal/util/Preconditions"), (0, u "SIOOBE_FORMATTER"), (0, u "Ljava/util/function/BiFunction;"), (0, .methodref 1054 1060), (0, .nameAndType 501 1061), (0, u "(IILjava/util/function/BiFunction;)I"), (39, u "serialPersistentFields"), (0, u "[Ljava/io/ObjectStreamField;"), (0, .class_ 1104), (0, u "java/lang/String$CaseInsensitiveComparator"), (1, .class_ 1107), (0, u "java/io/Serializable"), (0, .class_ 1109), (0, u "java/lang/Comparable"), (0, .class_ 1111), (0, u "java/lang/constant/Constable"), (0, .class_ 1113), (0, u "java/lang/constant/ConstantDesc"), (2, u "serialVersionUID"), (0, u "J"), (3, u "REPL"), (0, u "C"), (2, u "LATIN1"), (1, u "UTF16")] 323

def k7m0 : Method := { name := "<init>", desc := "()V", sig := { parameters := [], returnType := none }, accessFlags := 1, code := none }
def k7c1 : Code := { maxStack := 5, maxLocals := 2, code := jdk_42_method_3_code, exceptionTable := #[], attributes := #[] }
def k7m1 : Method := { name := "<init>", desc := "([C)V", sig := { parameters := [(.array .char)], returnType := none }, accessFlags := 1, code := some k7c1 }
def k7c2 : Code := { maxStack := 2, maxLocals := 1, code := jdk_42_method_54_code, exceptionTable := #[], attributes := #[] }
def k7m2 : Method := { name := "length", desc := "()I", sig := { parameters := [], returnType := some .int }, accessFlags := 1, code := some k7c2 }
def k7c3 : Code := { maxStack := 2, maxLocals := 2, code := jdk_42_method_56_code, exceptionTable := #[], attributes := #[] }
def k7m3 : Method := { name := "charAt", desc := "(I)C", sig := { parameters := [.int], returnType := some .char }, accessFlags := 1, code := some k7c3 }
def k7c4 : Code := { maxStack := 4, maxLocals := 6, code := jdk_42_method_149_code, exceptionTable := #[], attributes := #[] }
def k7m4 : Method := { name := "<init>", desc := "([CIILjava/lang/Void;)V", sig := { parameters := [(.array .char), .int, .int, (.object "java/lang/Void")], returnType := none }, accessFlags := 2, code := some k7c4 }
def k7c5 : Code := { maxStack := 1, maxLocals := 1, code := jdk_42_method_152_code, exceptionTable := #[], attributes := #[] }
def k7m5 : Method := { name := "coder", desc := "()B", sig := { parameters := [], returnType := some .byte }, accessFlags := 0, code := some k7c5 }
def k7c6 : Code := { maxStack := 1, maxLocals := 1, code := jdk_42_method_154_code, exceptionTable := #[], attributes := #[] }
def k7m6 : Method := { name := "isLatin1", desc := "()Z", sig := { parameters := [], returnType := some .boolean }, accessFlags := 0, code := some k7c6 }
def k7c7 : Code := { maxStack := 3, maxLocals := 2, code := jdk_42_method_155_code, exceptionTable := #[], attributes := #[] }
def k7m7 : Method := { name := "checkIndex", desc := "(II)V", sig := { parameters := [.int, .int], returnType := none }, accessFlags := 8, code := some k7c7 }
/-- java/lang/String -/
def k7 : Class := { plain "java/lang/String" (some 0) with
  accessFlags := 49
  interfaces := #[2, 3, 4, 5, 6]
  cf := some (fileOf pool7 10 #[.nestMembers #[1103]] #[{ accessFlags := 1, nameIndex := 5, descriptorIndex := 6, attributes := #[] }, { accessFlags := 1, nameIndex := 5, descriptorIndex := 1010, attributes := #[] }, { accessFlags := 1, nameIndex := 507, descriptorIndex := 334, attributes := #[] }, { accessFlags := 1, nameIndex := 497, descriptorIndex := 427, attributes := #[] }, { accessFlags := 2, nameIndex := 5, descriptorIndex := 29, attributes := #[] }, { accessFlags := 0, nameIndex := 17, descriptorIndex := 337, attributes := #[] }, { accessFlags := 0, nameIndex := 494, descriptorIndex := 142, attributes := #[] }, { accessFlags := 8, nameIndex := 501, descriptorIndex := 391, attributes := #[] }] 49 2 #[1106, 1108, 575, 1110, 1112] #[{ accessFlags := 18, nameIndex := 13, descriptorIndex := 14, attributes := #[] }, { accessFlags := 18, nameIndex := 17, descriptorIndex := 18, attributes := #[] }, { accessFlags := 2, nameIndex := 21, descriptorIndex := 22, attributes := #[] }, { accessFlags := 2, nameIndex := 25, descriptorIndex := 26, attributes := #[] }, { accessFlags := 26, nameIndex := 1116, descriptorIndex := 1117, attributes := #[] }, { accessFlags := 24, nameIndex := 40, descriptorIndex := 26, attributes := #[] }, { accessFlags := 26, nameIndex := 1101, descriptorIndex := 1102, attributes := #[] }, { accessFlags := 26, nameIndex := 1121, descriptorIndex := 1122, attributes := #[] }, { accessFlags := 25, nameIndex := 599, descriptorIndex := 600, attributes := #[] }, { accessFlags := 24, nameIndex := 1125, descriptorIndex := 18, attributes := #[] }, { accessFlags := 24, nameIndex := 1127, descriptorIndex := 18, attributes := #[] }])
  fields := #[{ name := "value", type := (.array .byte), accessFlags := 18, slot := 0, constantValue := 0 }, { name := "coder", type := .byte, accessFlags := 18, slot := 1, constantValue := 0 }, { name := "hash", type := .int, accessFlags := 2, slot := 2, constantValue := 0 }, { name := "hashIsZero", type := .boolean, accessFlags := 2, slot := 3, constantValue := 0 }, { name := "serialVersionUID", type := .long, accessFlags := 26, slot := 0, constantValue := 0 }, { name := "COMPACT_STRINGS", type := .boolean, accessFlags := 24, slot := 1, constantValue := 0 }, { name := "serialPersistentFields", type := (.array (.object "java/io/ObjectStreamField")), accessFlags := 26, slot := 2, constantValue := 0 }, { name := "REPL", type := .char, accessFlags := 26, slot := 3, constantValue := 0 }, { name := "CASE_INSENSITIVE_ORDER", type := (.object "java/util/Comparator"), accessFlags := 25, slot := 4, constantValue := 0 }, { name := "LATIN1", type := .byte, accessFlags := 24, slot := 5, constantValue := 0 }, { name := "UTF16", type := .byte, accessFlags := 24, slot := 6, constantValue := 0 }]
  methods := #[k7m0, k7m1, k7m2, k7m3, k7m4, k7m5, k7m6, k7m7]
  instanceTypes := #[(.array .byte), .byte, .int, .boolean]
  staticTypes := #[.long, .boolean, (.array (.object "java/io/ObjectStreamField")), .char, (.object "java/util/Comparator"), .byte, .byte]
  resolved := Array.replicate 1451 none
  statics := some 0 }

def pool8 : Array CpInfo := pool [(2, .class_ 4), (1, u "java/lang/Object"), (3, .class_ 10), (1, u "com/example/irrmirror/irrmirror/RpslObject"), (0, u "text"), (0, u "Ljava/lang/String;"), (2, u "objectClass"), (2, u "primaryKey"), (2, u "source"), (21, .class_ 44), (0, u "com/example/irrmirror/irrmirror/RpslObject$LineFault"), (24, .class_ 70), (0, u "com/example/irrmirror/irrmirror/RpslObject$Attributes"), (16, .class_ 89), (1, u "java/lang/String"), (6, u "isBlank"), (0, u "(Ljava/lang/String;)Z"), (46, u "KEY_ATTRIBUTES"), (0, u "Ljava/util/Map;"), (47, .methodref 87 194), (0, .nameAndType 195 196), (0, u "length"), (0, u "()I"), (0, .methodref 87 198), (0, .nameAndType 199 200), (0, u "charAt"), (0, u "(I)C"), (71, u "PASSWORD_SCHEMES"), (0, u "Ljava/util/List;"), (45, u "WHITE_SPACE"), (0, u "Ljava/util/regex/Pattern;"), (60, u "NEXT_LINE"), (0, u "C"), (2, u "SOURCE"), (0, u "AUTH"), (1, u "FILTERED"), (0, u "NO_LONGER_PARSES")] 72

def k8c0 : Code := { maxStack := 2, maxLocals := 3, code := prog_21_method_12_code, exceptionTable := #[], attributes := #[] }
def k8m0 : Method := { name := "isBlank", desc := "(Ljava/lang/String;)Z", sig := { parameters := [(.object "java/lang/String")], returnType := some .boolean }, accessFlags := 8, code := some k8c0 }
/-- com/example/irrmirror/irrmirror/RpslObject -/
def k8 : Class := { plain "com/example/irrmirror/irrmirror/RpslObject" (some 0) with
  accessFlags := 32
  interfaces := #[]
  cf := some (fileOf pool8 8 #[.nestMembers #[69, 43]] #[{ accessFlags := 8, nameIndex := 96, descriptorIndex := 97, attributes := #[] }] 32 2 #[] #[{ accessFlags := 26, nameIndex := 144, descriptorIndex := 145, attributes := #[] }, { accessFlags := 26, nameIndex := 319, descriptorIndex := 320, attributes := #[] }, { accessFlags := 26, nameIndex := 381, descriptorIndex := 382, attributes := #[] }, { accessFlags := 26, nameIndex := 385, descriptorIndex := 12, attributes := #[] }, { accessFlags := 26, nameIndex := 386, descriptorIndex := 12, attributes := #[] }, { accessFlags := 26, nameIndex := 272, descriptorIndex := 273, attributes := #[] }, { accessFlags := 26, nameIndex := 388, descriptorIndex := 12, attributes := #[] }, { accessFlags := 26, nameIndex := 389, descriptorIndex := 12, attributes := #[] }, { accessFlags := 18, nameIndex := 11, descriptorIndex := 12, attributes := #[] }, { accessFlags := 18, nameIndex := 15, descriptorIndex := 12, attributes := #[] }, { accessFlags := 18, nameIndex := 18, descriptorIndex := 12, attributes := #[] }, { accessFlags := 18, nameIndex := 21, descriptorIndex := 12, attributes := #[] }])
  fields := #[{ name := "KEY_ATTRIBUTES", type := (.object "java/util/Map"), accessFlags := 26, slot := 0, constantValue := 0 }, { name := "WHITE_SPACE", type := (.object "java/util/regex/Pattern"), accessFlags := 26, slot := 1, constantValue := 0 }, { name := "NEXT_LINE", type := .char, accessFlags := 26, slot := 2, constantValue := 0 }, { name := "SOURCE", type := (.object "java/lang/String"), accessFlags := 26, slot := 3, constantValue := 0 }, { name := "AUTH", type := (.object "java/lang/String"), accessFlags := 26, slot := 4, constantValue := 0 }, { name := "PASSWORD_SCHEMES", type := (.object "java/util/List"), accessFlags := 26, slot := 5, constantValue := 0 }, { name := "FILTERED", type := (.object "java/lang/String"), accessFlags := 26, slot := 6, constantValue := 0 }, { name := "NO_LONGER_PARSES", type := (.object "java/lang/String"), accessFlags := 26, slot := 7, constantValue := 0 }, { name := "text", type := (.object "java/lang/String"), accessFlags := 18, slot := 0, constantValue := 0 }, { name := "objectClass", type := (.object "java/lang/String"), accessFlags := 18, slot := 1, constantValue := 0 }, { name := "primaryKey", type := (.object "java/lang/String"), accessFlags := 18, slot := 2, constantValue := 0 }, { name := "source", type := (.object "java/lang/String"), accessFlags := 18, slot := 3, constantValue := 0 }]
  methods := #[k8m0]
  instanceTypes := #[(.object "java/lang/String"), (.object "java/lang/String"), (.object "java/lang/String"), (.object "java/lang/String")]
  staticTypes := #[(.object "java/util/Map"), (.object "java/util/regex/Pattern"), .char, (.object "java/lang/String"), (.object "java/lang/String"), (.object "java/util/List"), (.object "java/lang/String"), (.object "java/lang/String")]
  resolved := Array.replicate 462 none
  statics := none }

def pool9 : Array CpInfo := pool [(3, .class_ 4), (0, u "java/lang/String"), (1, .class_ 8), (1, u "java/lang/Object"), (0, u "<init>"), (0, u "()V"), (0, .methodref 12 13), (0, .class_ 14), (0, .nameAndType 15 16), (0, u "java/lang/StringUTF16"), (0, u "newBytesLength"), (0, u "(I)I"), (3, .integer 1073741823), (23, .fieldref 12 45), (0, .nameAndType 46 47), (0, u "$assertionsDisabled"), (0, u "Z"), (0, .methodref 12 49), (0, .nameAndType 50 51), (0, u "length"), (0, u "([B)I"), (7, .fieldref 12 60), (0, .nameAndType 61 62), (0, u "HI_BYTE_SHIFT"), (0, u "I"), (0, .fieldref 12 64), (0, .nameAndType 65 62), (0, u "LO_BYTE_SHIFT"), (1, .methodref 12 68), (0, .nameAndType 69 70), (0, u "checkIndex"), (0, u "(I[B)V"), (0, .methodref 12 72), (0, .nameAndType 73 74), (0, u "getChar"), (0, u "([BI)C"), (32, .methodref 12 108), (0, .nameAndType 109 110), (0, u "newBytesFor"), (0, u "(I)[B"), (0, .methodref 12 112), (0, .nameAndType 113 114), (0, u "putChar"), (0, u "([BII)V"), (0, .methodref 12 116), (0, .nameAndType 117 118), (0, u "compress"), (0, u "([CI[BII)I"), (0, .methodref 12 120), (0, .nameAndType 121 122), (0, u "toBytes"), (0, u "([CII)[B"), (138, u "coderFromArrayLen"), (0, u "([BI)B"), (106, .class_ 371), (1, u "java/lang/StringUTF16$LinesSpliterator"), (20, u "charAt"), (21, .methodref 3 415), (0, .nameAndType 69 416), (0, u "(II)V"), (13, u "MAX_LENGTH"), (196, .class_ 628), (0, u "java/lang/StringUTF16$CodePointsSpliterator"), (0, .class_ 630), (0, u "java/lang/StringUTF16$CharsSpliterator")] 4

def k9m0 : Method := { name := "<init>", desc := "()V", sig := { parameters := [], returnType := none }, accessFlags := 0, code := none }
def k9c1 : Code := { maxStack := 1, maxLocals := 1, code := jdk_52_method_2_code, exceptionTable := #[], attributes := #[] }
def k9m1 : Method := { name := "newBytesFor", desc := "(I)[B", sig := { parameters := [.int], returnType := some (.array .byte) }, accessFlags := 9, code := some k9c1 }
def k9c2 : Code := { maxStack := 4, maxLocals := 1, code := jdk_52_method_3_code, exceptionTable := #[], attributes := #[] }
def k9m2 : Method := { name := "newBytesLength", desc := "(I)I", sig := { parameters := [.int], returnType := some .int }, accessFlags := 9, code := some k9c2 }
def k9c3 : Code := { maxStack := 4, maxLocals := 3, code := jdk_52_method_4_code, exceptionTable := #[], attributes := #[] }
def k9m3 : Method := { name := "putChar", desc := "([BII)V", sig := { parameters := [(.array .byte), .int, .int], returnType := none }, accessFlags := 8, code := some k9c3 }
def k9c4 : Code := { maxStack := 3, maxLocals := 2, code := jdk_52_method_5_code, exceptionTable := #[], attributes := #[] }
def k9m4 : Method := { name := "getChar", desc := "([BI)C", sig := { parameters := [(.array .byte), .int], returnType := some .char }, accessFlags := 8, code := some k9c4 }
def k9c5 : Code := { maxStack := 2, maxLocals := 1, code := jdk_52_method_6_code, exceptionTable := #[], attributes := #[] }
def k9m5 : Method := { name := "length", desc := "([B)I", sig := { parameters := [(.array .byte)], returnType := some .int }, accessFlags := 9, code := some k9c5 }
def k9c6 : Code := { maxStack := 4, maxLocals := 5, code := jdk_52_method_14_code, exceptionTable := #[], attributes := #[] }
def k9m6 : Method := { name := "toBytes", desc := "([CII)[B", sig := { parameters := [(.array .char), .int, .int], returnType := some (.array .byte) }, accessFlags := 9, code := some k9c6 }
def k9c7 : Code := { maxStack := 2, maxLocals := 2, code := jdk_52_method_15_code, exceptionTable := #[], attributes := #[] }
def k9m7 : Method := { name := "coderFromArrayLen", desc := "([BI)B", sig := { parameters := [(.array .byte), .int], returnType := some .byte }, accessFlags := 8, code := some k9c7 }
def k9c8 : Code := { maxStack := 5, maxLocals := 6, code := jdk_52_method_16_code, exceptionTable := #[], attributes := #[] }
def k9m8 : Method := { name := "compress", desc := "([CII)[B", sig := { parameters := [(.array .char), .int, .int], returnType := some (.array .byte) }, accessFlags := 9, code := some k9c8 }
def k9c9 : Code := { maxStack := 3, maxLocals := 7, code := jdk_52_method_21_code, exceptionTable := #[], attributes := #[] }
def k9m9 : Method := { name := "compress", desc := "([CI[BII)I", sig := { parameters := [(.array .char), .int, (.array .byte), .int, .int], returnType := some .int }, accessFlags := 9, code := some k9c9 }
def k9c10 : Code := { maxStack := 2, maxLocals := 2, code := jdk_52_method_83_code, exceptionTable := #[], attributes := #[] }
def k9m10 : Method := { name := "charAt", desc := "([BI)C", sig := { parameters := [(.array .byte), .int], returnType := some .char }, accessFlags := 9, code := some k9c10 }
def k9c11 : Code := { maxStack := 2, maxLocals := 2, code := jdk_52_method_91_code, exceptionTable := #[], attributes := #[] }
def k9m11 : Method := { name := "checkIndex", desc := "(I[B)V", sig := { parameters := [.int, (.array .byte)], returnType := none }, accessFlags := 9, code := some k9c11 }
/-- java/lang/StringUTF16 -/
def k9 : Class := { plain "java/lang/StringUTF16" (some 0) with
  accessFlags := 48
  interfaces := #[]
  cf := some (fileOf pool9 12 #[.nestMembers #[627, 629, 369]] #[{ accessFlags := 0, nameIndex := 9, descriptorIndex := 10, attributes := #[] }, { accessFlags := 9, nameIndex := 109, descriptorIndex := 110, attributes := #[] }, { accessFlags := 9, nameIndex := 15, descriptorIndex := 16, attributes := #[] }, { accessFlags := 8, nameIndex := 113, descriptorIndex := 114, attributes := #[] }, { accessFlags := 8, nameIndex := 73, descriptorIndex := 74, attributes := #[] }, { accessFlags := 9, nameIndex := 50, descriptorIndex := 51, attributes := #[] }, { accessFlags := 9, nameIndex := 121, descriptorIndex := 122, attributes := #[] }, { accessFlags := 8, nameIndex := 261, descriptorIndex := 262, attributes := #[] }, { accessFlags := 9, nameIndex := 117, descriptorIndex := 122, attributes := #[] }, { accessFlags := 9, nameIndex := 117, descriptorIndex := 118, attributes := #[] }, { accessFlags := 9, nameIndex := 392, descriptorIndex := 74, attributes := #[] }, { accessFlags := 9, nameIndex := 69, descriptorIndex := 70, attributes := #[] }] 48 6 #[] #[{ accessFlags := 26, nameIndex := 61, descriptorIndex := 62, attributes := #[] }, { accessFlags := 26, nameIndex := 65, descriptorIndex := 62, attributes := #[] }, { accessFlags := 24, nameIndex := 430, descriptorIndex := 62, attributes := #[] }, { accessFlags := 4120, nameIndex := 46, descriptorIndex := 47, attributes := #[] }])
  fields := #[{ name := "HI_BYTE_SHIFT", type := .int, accessFlags := 26, slot := 0, constantValue := 0 }, { name := "LO_BYTE_SHIFT", type := .int, accessFlags := 26, slot := 1, constantValue := 0 }, { name := "MAX_LENGTH", type := .int, accessFlags := 24, slot := 2, constantValue := 0 }, { name := "$assertionsDisabled", type := .boolean, accessFlags := 4120, slot := 3, constantValue := 0 }]
  methods := #[k9m0, k9m1, k9m2, k9m3, k9m4, k9m5, k9m6, k9m7, k9m8, k9m9, k9m10, k9m11]
  instanceTypes := #[]
  staticTypes := #[.int, .int, .int, .boolean]
  resolved := Array.replicate 635 none
  statics := some 1 }

def pool10 : Array CpInfo := pool [(1, .class_ 2), (0, u "java/lang/String"), (1, .class_ 6), (1, u "java/lang/Object"), (0, u "<init>"), (0, u "()V"), (0, .methodref 1 10), (0, .nameAndType 11 12), (0, u "checkIndex"), (0, u "(II)V"), (1, .class_ 16), (1, u "java/lang/StringLatin1"), (36, u "([BI)C"), (67, u "$assertionsDisabled"), (0, u "Z"), (98, .class_ 223), (1, u "java/lang/StringLatin1$LinesSpliterator"), (28, u "charAt"), (137, .class_ 391), (0, u "java/lang/StringLatin1$CharsSpliterator")] 3

def k10m0 : Method := { name := "<init>", desc := "()V", sig := { parameters := [], returnType := none }, accessFlags := 0, code := none }
def k10c1 : Code := { maxStack := 2, maxLocals := 2, code := jdk_43_method_2_code, exceptionTable := #[], attributes := #[] }
def k10m1 : Method := { name := "charAt", desc := "([BI)C", sig := { parameters := [(.array .byte), .int], returnType := some .char }, accessFlags := 9, code := some k10c1 }
/-- java/lang/StringLatin1 -/
def k10 : Class := { plain "java/lang/StringLatin1" (some 0) with
  accessFlags := 48
  interfaces := #[]
  cf := some (fileOf pool10 14 #[.nestMembers #[390, 221]] #[{ accessFlags := 0, nameIndex := 7, descriptorIndex := 8, attributes := #[] }, { accessFlags := 9, nameIndex := 252, descriptorIndex := 53, attributes := #[] }] 48 4 #[] #[{ accessFlags := 4120, nameIndex := 121, descriptorIndex := 122, attributes := #[] }])
  fields := #[{ name := "$assertionsDisabled", type := .boolean, accessFlags := 4120, slot := 0, constantValue := 0 }]
  methods := #[k10m0, k10m1]
  instanceTypes := #[]
  staticTypes := #[.boolean]
  resolved := Array.replicate 395 none
  statics := none }

def pool11 : Array CpInfo := pool [(2, .class_ 4), (1, u "java/lang/Object"), (0, u "<init>"), (0, u "()V"), (17, .class_ 26), (1, u "jdk/internal/util/Preconditions"), (6, u "checkIndex"), (21, .class_ 56), (0, u "jdk/internal/util/Preconditions$4"), (57, .class_ 115), (0, u "jdk/internal/util/Preconditions$1"), (7, u "SIOOBE_FORMATTER"), (0, u "Ljava/util/function/BiFunction;"), (0, .class_ 126), (0, u "jdk/internal/util/Preconditions$2"), (3, u "AIOOBE_FORMATTER"), (0, .class_ 132), (0, u "jdk/internal/util/Preconditions$3"), (3, u "IOOBE_FORMATTER"), (41, u "(IILjava/util/function/BiFunction;)I")] 15

def k11m0 : Method := { name := "<init>", desc := "()V", sig := { parameters := [], returnType := none }, accessFlags := 1, code := none }
def k11c1 : Code := { maxStack := 3, maxLocals := 3, code := jdk_41_method_11_code, exceptionTable := #[], attributes := #[] }
def k11m1 : Method := { name := "checkIndex", desc := "(IILjava/util/function/BiFunction;)I", sig := { parameters := [.int, .int, (.object "java/util/function/BiFunction")], returnType := some .int }, accessFlags := 9, code := some k11c1 }
/-- jdk/internal/util/Preconditions -/
def k11 : Class := { plain "jdk/internal/util/Preconditions" (some 0) with
  accessFlags := 33
  interfaces := #[]
  cf := some (fileOf pool11 24 #[.nestMembers #[55, 131, 125, 114]] #[{ accessFlags := 1, nameIndex := 5, descriptorIndex := 6, attributes := #[] }, { accessFlags := 9, nameIndex := 33, descriptorIndex := 178, attributes := #[] }] 33 2 #[] #[{ accessFlags := 25, nameIndex := 123, descriptorIndex := 124, attributes := #[] }, { accessFlags := 25, nameIndex := 130, descriptorIndex := 124, attributes := #[] }, { accessFlags := 25, nameIndex := 136, descriptorIndex := 124, attributes := #[] }])
  fields := #[{ name := "SIOOBE_FORMATTER", type := (.object "java/util/function/BiFunction"), accessFlags := 25, slot := 0, constantValue := 0 }, { name := "AIOOBE_FORMATTER", type := (.object "java/util/function/BiFunction"), accessFlags := 25, slot := 1, constantValue := 0 }, { name := "IOOBE_FORMATTER", type := (.object "java/util/function/BiFunction"), accessFlags := 25, slot := 2, constantValue := 0 }]
  methods := #[k11m0, k11m1]
  instanceTypes := #[]
  staticTypes := #[(.object "java/util/function/BiFunction"), (.object "java/util/function/BiFunction"), (.object "java/util/function/BiFunction")]
  resolved := Array.replicate 194 none
  statics := some 2 }

def pool12 : Array CpInfo := pool [(9, u "<init>"), (6, .class_ 18), (1, u "java/lang/Object"), (0, u "()V"), (1, .class_ 23), (1, u "jdk/internal/util/ArraysSupport"), (0, u "LOG2_ARRAY_LONG_INDEX_SCALE"), (0, u "I"), (2, u "U"), (0, u "Ljdk/internal/misc/Unsafe;"), (8, u "BIG_ENDIAN"), (0, u "Z"), (8, u "LOG2_BYTE_BIT_SIZE"), (4, u "LOG2_ARRAY_INT_INDEX_SCALE"), (54, u "JLA"), (0, u "Ljdk/internal/access/JavaLangAccess;"), (11, u "LOG2_ARRAY_BOOLEAN_INDEX_SCALE"), (9, u "LOG2_ARRAY_BYTE_INDEX_SCALE"), (5, u "LOG2_ARRAY_CHAR_INDEX_SCALE"), (5, u "LOG2_ARRAY_SHORT_INDEX_SCALE"), (18, u "LOG2_ARRAY_FLOAT_INDEX_SCALE"), (24, u "LOG2_ARRAY_DOUBLE_INDEX_SCALE"), (89, u "T_BOOLEAN"), (2, u "T_CHAR"), (1, u "T_FLOAT"), (1, u "T_DOUBLE"), (1, u "T_BYTE"), (1, u "T_SHORT"), (1, u "T_INT"), (1, u "T_LONG"), (1, u "SOFT_MAX_ARRAY_LENGTH")] 83

def k12m0 : Method := { name := "<init>", desc := "()V", sig := { parameters := [], returnType := none }, accessFlags := 2, code := none }
/-- jdk/internal/util/ArraysSupport -/
def k12 : Class := { plain "jdk/internal/util/ArraysSupport" (some 0) with
  accessFlags := 33
  interfaces := #[]
  cf := some (fileOf pool12 21 #[] #[{ accessFlags := 2, nameIndex := 9, descriptorIndex := 19, attributes := #[] }] 33 16 #[] #[{ accessFlags := 24, nameIndex := 28, descriptorIndex := 29, attributes := #[] }, { accessFlags := 26, nameIndex := 38, descriptorIndex := 39, attributes := #[] }, { accessFlags := 25, nameIndex := 121, descriptorIndex := 25, attributes := #[] }, { accessFlags := 25, nameIndex := 131, descriptorIndex := 25, attributes := #[] }, { accessFlags := 25, nameIndex := 137, descriptorIndex := 25, attributes := #[] }, { accessFlags := 25, nameIndex := 143, descriptorIndex := 25, attributes := #[] }, { accessFlags := 25, nameIndex := 53, descriptorIndex := 25, attributes := #[] }, { accessFlags := 25, nameIndex := 24, descriptorIndex := 25, attributes := #[] }, { accessFlags := 25, nameIndex := 162, descriptorIndex := 25, attributes := #[] }, { accessFlags := 25, nameIndex := 187, descriptorIndex := 25, attributes := #[] }, { accessFlags := 26, nameIndex := 48, descriptorIndex := 25, attributes := #[] }, { accessFlags := 25, nameIndex := 277, descriptorIndex := 25, attributes := #[] }, { accessFlags := 25, nameIndex := 280, descriptorIndex := 25, attributes := #[] }, { accessFlags := 25, nameIndex := 282, descriptorIndex := 25, attributes := #[] }, { accessFlags := 25, nameIndex := 284, descriptorIndex := 25, attributes := #[] }, { accessFlags := 25, nameIndex := 286, descriptorIndex := 25, attributes := #[] }, { accessFlags := 25, nameIndex := 288, descriptorIndex := 25, attributes := #[] }, { accessFlags := 25, nameIndex := 290, descriptorIndex := 25, attributes := #[] }, { accessFlags := 25, nameIndex := 292, descriptorIndex := 25, attributes := #[] }, { accessFlags := 26, nameIndex := 108, descriptorIndex := 109, attributes := #[] }, { accessFlags := 25, nameIndex := 294, descriptorIndex := 25, attributes := #[] }])
  fields := #[{ name := "U", type := (.object "jdk/internal/misc/Unsafe"), accessFlags := 24, slot := 0, constantValue := 0 }, { name := "BIG_ENDIAN", type := .boolean, accessFlags := 26, slot := 1, constantValue := 0 }, { name := "LOG2_ARRAY_BOOLEAN_INDEX_SCALE", type := .int, accessFlags := 25, slot := 2, constantValue := 0 }, { name := "LOG2_ARRAY_BYTE_INDEX_SCALE", type := .int, accessFlags := 25, slot := 3, constantValue := 0 }, { name := "LOG2_ARRAY_CHAR_INDEX_SCALE", type := .int, accessFlags := 25, slot := 4, constantValue := 0 }, { name := "LOG2_ARRAY_SHORT_INDEX_SCALE", type := .int, accessFlags := 25, slot := 5, constantValue := 0 }, { name := "LOG2_ARRAY_INT_INDEX_SCALE", type := .int, accessFlags := 25, slot := 6, constantValue := 0 }, { name := "LOG2_ARRAY_LONG_INDEX_SCALE", type := .int, accessFlags := 25, slot := 7, constantValue := 0 }, { name := "LOG2_ARRAY_FLOAT_INDEX_SCALE", type := .int, accessFlags := 25, slot := 8, constantValue := 0 }, { name := "LOG2_ARRAY_DOUBLE_INDEX_SCALE", type := .int, accessFlags := 25, slot := 9, constantValue := 0 }, { name := "LOG2_BYTE_BIT_SIZE", type := .int, accessFlags := 26, slot := 10, constantValue := 0 }, { name := "T_BOOLEAN", type := .int, accessFlags := 25, slot := 11, constantValue := 0 }, { name := "T_CHAR", type := .int, accessFlags := 25, slot := 12, constantValue := 0 }, { name := "T_FLOAT", type := .int, accessFlags := 25, slot := 13, constantValue := 0 }, { name := "T_DOUBLE", type := .int, accessFlags := 25, slot := 14, constantValue := 0 }, { name := "T_BYTE", type := .int, accessFlags := 25, slot := 15, constantValue := 0 }, { name := "T_SHORT", type := .int, accessFlags := 25, slot := 16, constantValue := 0 }, { name := "T_INT", type := .int, accessFlags := 25, slot := 17, constantValue := 0 }, { name := "T_LONG", type := .int, accessFlags := 25, slot := 18, constantValue := 0 }, { name := "JLA", type := (.object "jdk/internal/access/JavaLangAccess"), accessFlags := 26, slot := 19, constantValue := 0 }, { name := "SOFT_MAX_ARRAY_LENGTH", type := .int, accessFlags := 25, slot := 20, constantValue := 0 }]
  methods := #[k12m0]
  instanceTypes := #[]
  staticTypes := #[(.object "jdk/internal/misc/Unsafe"), .boolean, .int, .int, .int, .int, .int, .int, .int, .int, .int, .int, .int, .int, .int, .int, .int, .int, .int, (.object "jdk/internal/access/JavaLangAccess"), .int]
  resolved := Array.replicate 378 none
  statics := none }

def pool13 : Array CpInfo := pool [(1, u "java/lang/Cloneable"), (0, .class_ 1), (0, u "java/lang/Object"), (0, .class_ 3)] 3

/-- java/lang/Cloneable -/
def k13 : Class := { plain "java/lang/Cloneable" (some 0) with
  accessFlags := 1537
  interfaces := #[]
  cf := some (fileOf pool13 2 #[] #[] 1537 4 #[] #[])
  fields := #[]
  methods := #[]
  instanceTypes := #[]
  staticTypes := #[]
  resolved := Array.replicate 8 none
  statics := none }

/-- the primitive byte -/
def k14 : Class := { plain "byte" none with kind := .primitive 'B', accessFlags := 0x411 }
/-- [B -/
def k15 : Class := { plain "[B" (some 0) with kind := .array 14 .byte, interfaces := #[13, 2], accessFlags := 1041 }

/-- the primitive char -/
def k16 : Class := { plain "char" none with kind := .primitive 'C', accessFlags := 0x411 }
/-- [C -/
def k17 : Class := { plain "[C" (some 0) with kind := .array 16 .char, interfaces := #[13, 2], accessFlags := 1041 }

/-- the primitive int -/
def k18 : Class := { plain "int" none with kind := .primitive 'I', accessFlags := 0x411 }
/-- [I -/
def k19 : Class := { plain "[I" (some 0) with kind := .array 18 .int, interfaces := #[13, 2], accessFlags := 1041 }

def heap : Heap := #[{ cls := 7, slots := #[.long 0, .int 1, .null, .int 0, .null, .int 0, .int 0], vm := .statics 7 },
  { cls := 9, slots := #[.int 0, .int 8, .int 0, .int 1], vm := .statics 9 },
  { cls := 11, slots := #[.null, .null, .null], vm := .statics 11 }]
def classes : Array Class := #[k0, k1, k2, k3, k4, k5, k6, k7, k8, k9, k10, k11, k12, k13, k14, k15, k16, k17, k18, k19]
def interned : List (Array UInt16 × Addr) := []
def slotsUsed : Nat := 14
def theMethod : MethodId := ⟨1, 1⟩
def args0 : Array Value := #[.int 1, .int 2, .int 3, .int 4, .int 5]
def aboutOver (below : List Frame) : State where
  vm := { classes := classes, interned := interned.toArray }
  heap := heap
  slotsUsed := slotsUsed
  threads := #[{ frames := .invoking theMethod args0 :: below }]
def below0 : List Frame := [.native { method := ⟨0, 0⟩, args := #[] }]
def about1 : State := aboutOver below0
def p0 : Program := .bare "" "" ""
def e0 : Env := launch0.env 0 0 0
theorem w_frames : about1.frames = Frame.invoking theMethod args0 :: below0 := rfl
set_option maxRecDepth 65536 in
theorem w_args : argsFit about1.vm theMethod args0 = true := by decide +kernel
set_option maxRecDepth 65536 in
theorem w_heap : heapFits about1 = true := by decide +kernel
set_option maxRecDepth 65536 in
theorem w_runnable : about1.curStatus? = some .runnable := by decide +kernel
set_option maxRecDepth 65536 in
theorem w_alone : about1.alone = true := by decide +kernel
set_option maxRecDepth 65536 in
theorem w_named : about1.methodNamed? x = some theMethod := by decide +kernel
set_option maxRecDepth 65536 in
theorem w_hears : about1.hears theMethod below0 = true := by decide +kernel
set_option maxRecDepth 65536 in
theorem w_ripe : about1.ripe theMethod args0 below0 = true := by decide +kernel
theorem w_running : about1.status = .running := rfl
set_option maxRecDepth 65536 in
theorem w_room : about1.hasRoom e0.platform room_1 = true :=
  launch0.hasRoom_least _ room_1 (by decide +kernel) (by decide +kernel) (by decide +kernel) (by decide +kernel) (by decide +kernel) (by decide +kernel)
theorem allAtoms_all (ts : List Jvm.Cond) (a : Array Jvm.Value) (st : Jvm.State) : (allAtoms ts).before a st = ts.all (fun c => c.before a st) := by
  induction ts with
  | nil => rfl
  | cons c t ih =>
    show (Jvm.Cond.and c (allAtoms t)).before a st = _
    rw [Jvm.Cond.before_and, ih, List.all_cons]
def words1 : List Jvm.Cond := Jvm.Cond.code x code maxLocals ret :: tables_1
/-- a 'code' word, met by the world's own term for the bytes: nothing is compared byte by byte -/
theorem code_word {y : MethodName} {bytes : ByteArray} {mx : Nat} {rt : Option FieldType} {a : Array Value} {s : State} {m : MethodId} {meth : Method} {c : Code} (h1 : s.methodNamed? y = some m) (h2 : s.vm.method? m = some meth) (h3 : meth.code = some c) (h4 : c.code = bytes)
    (h5 : (c.maxLocals == mx && c.exceptionTable.isEmpty && decide (c.maxStack ≤ mostOperands) && decide (meth.sig.returnType = rt) && !meth.locks && decide (parseMethodDescriptor y.desc = some meth.sig)) = true) : (Jvm.Cond.code y bytes mx rt).before a s = true := by
  simp only [Bool.and_eq_true, beq_iff_eq, Bool.not_eq_true', decide_eq_true_eq] at h5
  obtain ⟨⟨⟨⟨⟨g1, g2⟩, g3⟩, g4⟩, g5⟩, g6⟩ := h5
  simp [Cond.before, Cond.holds, Cond.value, h1, h2, h3, h4, g1, g2, g3, g4, g5, g6]
def isCode : Jvm.Cond → Bool
  | .code _ _ _ _ => true
  | _ => false
theorem all_split {L : List Jvm.Cond} {P : Jvm.Cond → Bool} (h1 : L.all (fun c => isCode c || P c) = true) (h2 : ∀ c ∈ L.filter isCode, P c = true) : L.all P = true := by
  refine List.all_eq_true.mpr fun c hc => ?_
  have h := List.all_eq_true.mp h1 c hc
  rcases Bool.eq_false_or_eq_true (isCode c) with hi | hi
  · exact h2 c (List.mem_filter.mpr ⟨hc, hi⟩)
  · simpa [hi] using h
set_option maxRecDepth 65536 in
theorem w_c0 : (Jvm.Cond.code x code maxLocals ret).before args0 about1 = true := code_word (m := ⟨1, 1⟩) (meth := k1m1) (c := k1c1) (by decide +kernel) rfl rfl rfl (by decide +kernel)
set_option maxRecDepth 65536 in
theorem w_c1 : (Jvm.Cond.code ({ cls := "com/example/irrmirror/irrmirror/RpslObjectIsBlankPinLaw", name := "draw", desc := "(I)C" } : Jvm.MethodName) method_3_code (2 : Nat) (Option.some Jvm.ClassFile.FieldType.char)).before args0 about1 = true := code_word (m := ⟨1, 2⟩) (meth := k1m2) (c := k1c2) (by decide +kernel) rfl rfl rfl (by decide +kernel)
set_option maxRecDepth 65536 in
theorem w_c2 : (Jvm.Cond.code ({ cls := "java/lang/String", name := "<init>", desc := "([C)V" } : Jvm.MethodName) jdk_42_method_3_code (2 : Nat) (Option.none : Option Jvm.ClassFile.FieldType)).before args0 about1 = true := code_word (m := ⟨7, 1⟩) (meth := k7m1) (c := k7c1) (by decide +kernel) rfl rfl rfl (by decide +kernel)
set_option maxRecDepth 65536 in
theorem w_c3 : (Jvm.Cond.code ({ cls := "java/lang/String", name := "<init>", desc := "([CIILjava/lang/Void;)V" } : Jvm.MethodName) jdk_42_method_149_code (6 : Nat) (Option.none : Option Jvm.ClassFile.FieldType)).before args0 about1 = true := code_word (m := ⟨7, 4⟩) (meth := k7m4) (c := k7c4) (by decide +kernel) rfl rfl rfl (by decide +kernel)
set_option maxRecDepth 65536 in
theorem w_c4 : (Jvm.Cond.code ({ cls := "java/lang/Object", name := "<init>", desc := "()V" } : Jvm.MethodName) object_method_1_code (1 : Nat) (Option.none : Option Jvm.ClassFile.FieldType)).before args0 about1 = true := code_word (m := ⟨0, 0⟩) (meth := k0m0) (c := k0c0) (by decide +kernel) rfl rfl rfl (by decide +kernel)
set_option maxRecDepth 65536 in
theorem w_c5 : (Jvm.Cond.code ({ cls := "com/example/irrmirror/irrmirror/RpslObject", name := "isBlank", desc := "(Ljava/lang/String;)Z" } : Jvm.MethodName) prog_21_method_12_code (3 : Nat) (Option.some Jvm.ClassFile.FieldType.boolean)).before args0 about1 = true := code_word (m := ⟨8, 0⟩) (meth := k8m0) (c := k8c0) (by decide +kernel) rfl rfl rfl (by decide +kernel)
set_option maxRecDepth 65536 in
theorem w_c6 : (Jvm.Cond.code ({ cls := "java/lang/String", name := "length", desc := "()I" } : Jvm.MethodName) jdk_42_method_54_code (1 : Nat) (Option.some Jvm.ClassFile.FieldType.int)).before args0 about1 = true := code_word (m := ⟨7, 2⟩) (meth := k7m2) (c := k7c2) (by decide +kernel) rfl rfl rfl (by decide +kernel)
set_option maxRecDepth 65536 in
theorem w_c7 : (Jvm.Cond.code ({ cls := "java/lang/String", name := "coder", desc := "()B" } : Jvm.MethodName) jdk_42_method_152_code (1 : Nat) (Option.some Jvm.ClassFile.FieldType.byte)).before args0 about1 = true := code_word (m := ⟨7, 5⟩) (meth := k7m5) (c := k7c5) (by decide +kernel) rfl rfl rfl (by decide +kernel)
set_option maxRecDepth 65536 in
theorem w_c8 : (Jvm.Cond.code ({ cls := "com/example/irrmirror/irrmirror/RpslObjectIsBlankPinLaw", name := "blankChar", desc := "(C)Z" } : Jvm.MethodName) method_4_code (1 : Nat) (Option.some Jvm.ClassFile.FieldType.boolean)).before args0 about1 = true := code_word (m := ⟨1, 3⟩) (meth := k1m3) (c := k1c3) (by decide +kernel) rfl rfl rfl (by decide +kernel)
set_option maxRecDepth 65536 in
theorem w_c9 : (Jvm.Cond.code ({ cls := "java/lang/StringUTF16", name := "compress", desc := "([CII)[B" } : Jvm.MethodName) jdk_52_method_16_code (6 : Nat) (Option.some (Jvm.ClassFile.FieldType.array Jvm.ClassFile.FieldType.byte))).before args0 about1 = true := code_word (m := ⟨9, 8⟩) (meth := k9m8) (c := k9c8) (by decide +kernel) rfl rfl rfl (by decide +kernel)
set_option maxRecDepth 65536 in
theorem w_c10 : (Jvm.Cond.code ({ cls := "java/lang/StringUTF16", name := "compress", desc := "([CI[BII)I" } : Jvm.MethodName) jdk_52_method_21_code (7 : Nat) (Option.some Jvm.ClassFile.FieldType.int)).before args0 about1 = true := code_word (m := ⟨9, 9⟩) (meth := k9m9) (c := k9c9) (by decide +kernel) rfl rfl rfl (by decide +kernel)
set_option maxRecDepth 65536 in
theorem w_c11 : (Jvm.Cond.code ({ cls := "java/lang/StringUTF16", name := "coderFromArrayLen", desc := "([BI)B" } : Jvm.MethodName) jdk_52_method_15_code (2 : Nat) (Option.some Jvm.ClassFile.FieldType.byte)).before args0 about1 = true := code_word (m := ⟨9, 7⟩) (meth := k9m7) (c := k9c7) (by decide +kernel) rfl rfl rfl (by decide +kernel)
set_option maxRecDepth 65536 in
theorem w_c12 : (Jvm.Cond.code ({ cls := "java/lang/String", name := "charAt", desc := "(I)C" } : Jvm.MethodName) jdk_42_method_56_code (2 : Nat) (Option.some Jvm.ClassFile.FieldType.char)).before args0 about1 = true := code_word (m := ⟨7, 3⟩) (meth := k7m3) (c := k7c3) (by decide +kernel) rfl rfl rfl (by decide +kernel)
set_option maxRecDepth 65536 in
theorem w_c13 : (Jvm.Cond.code ({ cls := "java/lang/String", name := "isLatin1", desc := "()Z" } : Jvm.MethodName) jdk_42_method_154_code (1 : Nat) (Option.some Jvm.ClassFile.FieldType.boolean)).before args0 about1 = true := code_word (m := ⟨7, 6⟩) (meth := k7m6) (c := k7c6) (by decide +kernel) rfl rfl rfl (by decide +kernel)
set_option maxRecDepth 65536 in
theorem w_c14 : (Jvm.Cond.code ({ cls := "java/lang/StringLatin1", name := "charAt", desc := "([BI)C" } : Jvm.MethodName) jdk_43_method_2_code (2 : Nat) (Option.some Jvm.ClassFile.FieldType.char)).before args0 about1 = true := code_word (m := ⟨10, 1⟩) (meth := k10m1) (c := k10c1) (by decide +kernel) rfl rfl rfl (by decide +kernel)
set_option maxRecDepth 65536 in
theorem w_c15 : (Jvm.Cond.code ({ cls := "java/lang/String", name := "checkIndex", desc := "(II)V" } : Jvm.MethodName) jdk_42_method_155_code (2 : Nat) (Option.none : Option Jvm.ClassFile.FieldType)).before args0 about1 = true := code_word (m := ⟨7, 7⟩) (meth := k7m7) (c := k7c7) (by decide +kernel) rfl rfl rfl (by decide +kernel)
set_option maxRecDepth 65536 in
theorem w_c16 : (Jvm.Cond.code ({ cls := "jdk/internal/util/Preconditions", name := "checkIndex", desc := "(IILjava/util/function/BiFunction;)I" } : Jvm.MethodName) jdk_41_method_11_code (3 : Nat) (Option.some Jvm.ClassFile.FieldType.int)).before args0 about1 = true := code_word (m := ⟨11, 1⟩) (meth := k11m1) (c := k11c1) (by decide +kernel) rfl rfl rfl (by decide +kernel)
set_option maxRecDepth 65536 in
theorem w_c17 : (Jvm.Cond.code ({ cls := "java/lang/StringUTF16", name := "toBytes", desc := "([CII)[B" } : Jvm.MethodName) jdk_52_method_14_code (5 : Nat) (Option.some (Jvm.ClassFile.FieldType.array Jvm.ClassFile.FieldType.byte))).before args0 about1 = true := code_word (m := ⟨9, 6⟩) (meth := k9m6) (c := k9c6) (by decide +kernel) rfl rfl rfl (by decide +kernel)
set_option maxRecDepth 65536 in
theorem w_c18 : (Jvm.Cond.code ({ cls := "java/lang/StringUTF16", name := "newBytesFor", desc := "(I)[B" } : Jvm.MethodName) jdk_52_method_2_code (1 : Nat) (Option.some (Jvm.ClassFile.FieldType.array Jvm.ClassFile.FieldType.byte))).before args0 about1 = true := code_word (m := ⟨9, 1⟩) (meth := k9m1) (c := k9c1) (by decide +kernel) rfl rfl rfl (by decide +kernel)
set_option maxRecDepth 65536 in
theorem w_c19 : (Jvm.Cond.code ({ cls := "java/lang/StringUTF16", name := "newBytesLength", desc := "(I)I" } : Jvm.MethodName) jdk_52_method_3_code (1 : Nat) (Option.some Jvm.ClassFile.FieldType.int)).before args0 about1 = true := code_word (m := ⟨9, 2⟩) (meth := k9m2) (c := k9c2) (by decide +kernel) rfl rfl rfl (by decide +kernel)
set_option maxRecDepth 65536 in
theorem w_c20 : (Jvm.Cond.code ({ cls := "java/lang/StringUTF16", name := "putChar", desc := "([BII)V" } : Jvm.MethodName) jdk_52_method_4_code (3 : Nat) (Option.none : Option Jvm.ClassFile.FieldType)).before args0 about1 = true := code_word (m := ⟨9, 3⟩) (meth := k9m3) (c := k9c3) (by decide +kernel) rfl rfl rfl (by decide +kernel)
set_option maxRecDepth 65536 in
theorem w_c21 : (Jvm.Cond.code ({ cls := "java/lang/StringUTF16", name := "getChar", desc := "([BI)C" } : Jvm.MethodName) jdk_52_method_5_code (2 : Nat) (Option.some Jvm.ClassFile.FieldType.char)).before args0 about1 = true := code_word (m := ⟨9, 4⟩) (meth := k9m4) (c := k9c4) (by decide +kernel) rfl rfl rfl (by decide +kernel)
set_option maxRecDepth 65536 in
theorem w_c22 : (Jvm.Cond.code ({ cls := "java/lang/StringUTF16", name := "charAt", desc := "([BI)C" } : Jvm.MethodName) jdk_52_method_83_code (2 : Nat) (Option.some Jvm.ClassFile.FieldType.char)).before args0 about1 = true := code_word (m := ⟨9, 10⟩) (meth := k9m10) (c := k9c10) (by decide +kernel) rfl rfl rfl (by decide +kernel)
set_option maxRecDepth 65536 in
theorem w_c23 : (Jvm.Cond.code ({ cls := "java/lang/StringUTF16", name := "checkIndex", desc := "(I[B)V" } : Jvm.MethodName) jdk_52_method_91_code (2 : Nat) (Option.none : Option Jvm.ClassFile.FieldType)).before args0 about1 = true := code_word (m := ⟨9, 11⟩) (meth := k9m11) (c := k9c11) (by decide +kernel) rfl rfl rfl (by decide +kernel)
set_option maxRecDepth 65536 in
theorem w_c24 : (Jvm.Cond.code ({ cls := "java/lang/StringUTF16", name := "length", desc := "([B)I" } : Jvm.MethodName) jdk_52_method_6_code (1 : Nat) (Option.some Jvm.ClassFile.FieldType.int)).before args0 about1 = true := code_word (m := ⟨9, 5⟩) (meth := k9m5) (c := k9c5) (by decide +kernel) rfl rfl rfl (by decide +kernel)
def codes1 : List Jvm.Cond := [Jvm.Cond.code x code maxLocals ret, Jvm.Cond.code ({ cls := "com/example/irrmirror/irrmirror/RpslObjectIsBlankPinLaw", name := "draw", desc := "(I)C" } : Jvm.MethodName) method_3_code (2 : Nat) (Option.some Jvm.ClassFile.FieldType.char), Jvm.Cond.code ({ cls := "java/lang/String", name := "<init>", desc := "([C)V" } : Jvm.MethodName) jdk_42_method_3_code (2 : Nat) (Option.none : Option Jvm.ClassFile.FieldType), Jvm.Cond.code ({ cls := "java/lang/String", name := "<init>", desc := "([CIILjava/lang/Void;)V" } : Jvm.MethodName) jdk_42_method_149_code (6 : Nat) (Option.none : Option Jvm.ClassFile.FieldType), Jvm.Cond.code ({ cls := "java/lang/Object", name := "<init>", desc := "()V" } : Jvm.MethodName) object_method_1_code (1 : Nat) (Option.none : Option Jvm.ClassFile.FieldType), Jvm.Cond.code ({ cls := "com/example/irrmirror/irrmirror/RpslObject", name := "isBlank", desc := "(Ljava/lang/String;)Z" } : Jvm.MethodName) prog_21_method_12_code (3 : Nat) (Option.some Jvm.ClassFile.FieldType.boolean), Jvm.Cond.code ({ cls := "java/lang/String", name := "length", desc := "()I" } : Jvm.MethodName) jdk_42_method_54_code (1 : Nat) (Option.some Jvm.ClassFile.FieldType.int), Jvm.Cond.code ({ cls := "java/lang/String", name := "coder", desc := "()B" } : Jvm.MethodName) jdk_42_method_152_code (1 : Nat) (Option.some Jvm.ClassFile.FieldType.byte), Jvm.Cond.code ({ cls := "com/example/irrmirror/irrmirror/RpslObjectIsBlankPinLaw", name := "blankChar", desc := "(C)Z" } : Jvm.MethodName) method_4_code (1 : Nat) (Option.some Jvm.ClassFile.FieldType.boolean), Jvm.Cond.code ({ cls := "java/lang/StringUTF16", name := "compress", desc := "([CII)[B" } : Jvm.MethodName) jdk_52_method_16_code (6 : Nat) (Option.some (Jvm.ClassFile.FieldType.array Jvm.ClassFile.FieldType.byte)), Jvm.Cond.code ({ cls := "java/lang/StringUTF16", name := "compress", desc := "([CI[BII)I" } : Jvm.MethodName) jdk_52_method_21_code (7 : Nat) (Option.some Jvm.ClassFile.FieldType.int), Jvm.Cond.code ({ cls := "java/lang/StringUTF16", name := "coderFromArrayLen", desc := "([BI)B" } : Jvm.MethodName) jdk_52_method_15_code (2 : Nat) (Option.some Jvm.ClassFile.FieldType.byte), Jvm.Cond.code ({ cls := "java/lang/String", name := "charAt", desc := "(I)C" } : Jvm.MethodName) jdk_42_method_56_code (2 : Nat) (Option.some Jvm.ClassFile.FieldType.char), Jvm.Cond.code ({ cls := "java/lang/String", name := "isLatin1", desc := "()Z" } : Jvm.MethodName) jdk_42_method_154_code (1 : Nat) (Option.some Jvm.ClassFile.FieldType.boolean), Jvm.Cond.code ({ cls := "java/lang/StringLatin1", name := "charAt", desc := "([BI)C" } : Jvm.MethodName) jdk_43_method_2_code (2 : Nat) (Option.some Jvm.ClassFile.FieldType.char), Jvm.Cond.code ({ cls := "java/lang/String", name := "checkIndex", desc := "(II)V" } : Jvm.MethodName) jdk_42_method_155_code (2 : Nat) (Option.none : Option Jvm.ClassFile.FieldType), Jvm.Cond.code ({ cls := "jdk/internal/util/Preconditions", name := "checkIndex", desc := "(IILjava/util/function/BiFunction;)I" } : Jvm.MethodName) jdk_41_method_11_code (3 : Nat) (Option.some Jvm.ClassFile.FieldType.int), Jvm.Cond.code ({ cls := "java/lang/StringUTF16", name := "toBytes", desc := "([CII)[B" } : Jvm.MethodName) jdk_52_method_14_code (5 : Nat) (Option.some (Jvm.ClassFile.FieldType.array Jvm.ClassFile.FieldType.byte)), Jvm.Cond.code ({ cls := "java/lang/StringUTF16", name := "newBytesFor", desc := "(I)[B" } : Jvm.MethodName) jdk_52_method_2_code (1 : Nat) (Option.some (Jvm.ClassFile.FieldType.array Jvm.ClassFile.FieldType.byte)), Jvm.Cond.code ({ cls := "java/lang/StringUTF16", name := "newBytesLength", desc := "(I)I" } : Jvm.MethodName) jdk_52_method_3_code (1 : Nat) (Option.some Jvm.ClassFile.FieldType.int), Jvm.Cond.code ({ cls := "java/lang/StringUTF16", name := "putChar", desc := "([BII)V" } : Jvm.MethodName) jdk_52_method_4_code (3 : Nat) (Option.none : Option Jvm.ClassFile.FieldType), Jvm.Cond.code ({ cls := "java/lang/StringUTF16", name := "getChar", desc := "([BI)C" } : Jvm.MethodName) jdk_52_method_5_code (2 : Nat) (Option.some Jvm.ClassFile.FieldType.char), Jvm.Cond.code ({ cls := "java/lang/StringUTF16", name := "charAt", desc := "([BI)C" } : Jvm.MethodName) jdk_52_method_83_code (2 : Nat) (Option.some Jvm.ClassFile.FieldType.char), Jvm.Cond.code ({ cls := "java/lang/StringUTF16", name := "checkIndex", desc := "(I[B)V" } : Jvm.MethodName) jdk_52_method_91_code (2 : Nat) (Option.none : Option Jvm.ClassFile.FieldType), Jvm.Cond.code ({ cls := "java/lang/StringUTF16", name := "length", desc := "([B)I" } : Jvm.MethodName) jdk_52_method_6_code (1 : Nat) (Option.some Jvm.ClassFile.FieldType.int)]
set_option maxRecDepth 65536 in
theorem codes_eq : words1.filter isCode = codes1 := rfl
theorem w_codes : ∀ c ∈ words1.filter isCode, c.before args0 about1 = true := by
  rw [codes_eq]
  intro c hc
  simp only [codes1, List.mem_cons, List.not_mem_nil, or_false] at hc
  rcases hc with rfl | rfl | rfl | rfl | rfl | rfl | rfl | rfl | rfl | rfl | rfl | rfl | rfl | rfl | rfl | rfl | rfl | rfl | rfl | rfl | rfl | rfl | rfl | rfl | rfl
  · exact w_c0
  · exact w_c1
  · exact w_c2
  · exact w_c3
  · exact w_c4
  · exact w_c5
  · exact w_c6
  · exact w_c7
  · exact w_c8
  · exact w_c9
  · exact w_c10
  · exact w_c11
  · exact w_c12
  · exact w_c13
  · exact w_c14
  · exact w_c15
  · exact w_c16
  · exact w_c17
  · exact w_c18
  · exact w_c19
  · exact w_c20
  · exact w_c21
  · exact w_c22
  · exact w_c23
  · exact w_c24
set_option maxRecDepth 65536 in
theorem w_t1 : (words1.take 24).all (fun c => isCode c || c.before args0 about1) = true := by decide +kernel
set_option maxRecDepth 65536 in
theorem w_t2 : ((words1.drop 24).take 24).all (fun c => isCode c || c.before args0 about1) = true := by decide +kernel
set_option maxRecDepth 65536 in
theorem w_t3 : (((words1.drop 24).drop 24).take 24).all (fun c => isCode c || c.before args0 about1) = true := by decide +kernel
set_option maxRecDepth 65536 in
theorem w_t4 : ((((words1.drop 24).drop 24).drop 24).take 24).all (fun c => isCode c || c.before args0 about1) = true := by decide +kernel
set_option maxRecDepth 65536 in
theorem w_t5 : ((((words1.drop 24).drop 24).drop 24).drop 24).all (fun c => isCode c || c.before args0 about1) = true := by decide +kernel
theorem w_tables : (allAtoms (Jvm.Cond.code x code maxLocals ret :: tables_1)).before args0 about1 = true := by
  rw [allAtoms_all]
  show words1.all (fun c => c.before args0 about1) = true
  refine all_split ?_ w_codes
  rw [← List.take_append_drop 24 words1, List.all_append, w_t1, ← List.take_append_drop 24 (words1.drop 24), List.all_append, w_t2, ← List.take_append_drop 24 ((words1.drop 24).drop 24), List.all_append, w_t3, ← List.take_append_drop 24 (((words1.drop 24).drop 24).drop 24), List.all_append, w_t4, w_t5]
  rfl
set_option maxRecDepth 65536 in
theorem w_rest : rest_1_c.before args0 about1 = true := by decide +kernel
set_option maxRecDepth 65536 in
theorem w_case : (Jvm.Cond.and given_1 narrow_1).before args0 about1 = true := by decide +kernel
set_option maxRecDepth 65536 in
theorem w_consts : constsHeld consts_1 about1 := Jvm.Lit.constsHeldB_iff.mp (by decide +kernel)
theorem w_applies : (headSpec (Jvm.Cond.code x code maxLocals ret :: tables_1) room_1).applies x e0.platform about1 = true :=
  (Spec.applies_iff w_frames).mpr ⟨w_running, w_runnable, w_alone, w_named, w_hears, w_ripe, w_room, w_tables⟩
theorem atStart : AtStart classFile x code maxLocals ret World_1 tables_1 room_1 Calls_1 rest_1 Pre_1 launch0 p0 e0 about1 theMethod args0 below0 :=
  ⟨lists_1, trivial, launch0.admits_env _ _ _, launch0.least_env, fairChoices_fair.cas, fairChoices_fair.clock, w_frames, w_args, w_heap, w_applies, ⟨w_consts, trivial⟩, w_rest, w_case⟩
end start1
theorem witness_1 : WitnessClaimed_1 := ⟨start1.p0, start1.e0, start1.about1, start1.theMethod, start1.args0, start1.below0, start1.atStart⟩
end Jvm.Pilot.@@N@@
