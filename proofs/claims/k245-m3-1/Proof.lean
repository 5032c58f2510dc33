import JvmDerived
import JvmDerived.Pilot.@@N@@Statement
import JvmDerived.Pilot.@@N@@Code
set_option linter.unusedVariables false
set_option linter.unusedSimpArgs false
namespace Jvm.OwnK
open Jvm Sem ClassFile Op Lib Jvm.Stand Jvm.Free Jvm.LawKit Jvm.RoadKit Bundle
section Base
variable {p : Program} {l : Launch} {e : Env} {R : Room} {s : State} {m : MethodId} {args : Array Value} {below : List Frame} {meth : Method} {c : Code} {Z : State} {a0 : Array Value} {EL : List (String × Nat)} {nb : Bool} {own : String} {code : ByteArray} {ml : Nat} {ret : Option FieldType} {nm : String} {vm : Vm} {T : State} {locs : List Loc} {ce sl : Nat} {h : Heap} {Q : Option Value → Vm → Heap → Prop} {ck sk : Nat}
theorem lb {n m : Nat} (h : Nat.ble n m = true) : n ≤ m := Nat.le_of_ble_eq_true h
/-- where a walk stands: the method's own facts; the Stand over the start with the tables at hand; what the heap is; what is booked -/
def OW (p : Program) (l : Launch) (e : Env) (R : Room) (s : State) (m : MethodId) (args : Array Value) (below : List Frame) (meth : Method) (c : Code) (Z : State) (a0 : Array Value) (EL : List (String × Nat)) (nb : Bool) (own : String) (code : ByteArray) (ml : Nat) (ret : Option FieldType) (nm : String)
    (vm : Vm) (T : State) (locs : List Loc) (ce sl : Nat) (h : Heap) : Prop :=
  (p.tables.exec = Jvm.exec ∧ c.code = code ∧ c.maxLocals = ml ∧ meth.sig.returnType = ret ∧ meth.locks = false ∧ meth.name = nm) ∧
  Stand p l e R (s.setVm vm) m args below meth c T locs ce sl ∧ T.heap = h ∧ (∃ k0, s.Since vm k0 ∧ k0 ≤ h.size) ∧ Z.Warmed39 vm ∧ vm.findClass own = some m.cls ∧
  CHr Z EL s.vm s.heap vm h ∧ Fr Z.heap.size locs ∧ Ext Z.heap h ∧ (nb = true → s.WarmedH vm) ∧ EW Z a0 EL
/-- the body comes to its end from here -/
def OG (p : Program) (e : Env) (below : List Frame) (s : State) (Z : State) (EL : List (String × Nat)) (nb : Bool) (Q : Option Value → Vm → Heap → Prop) (ck sk : Nat) (T : State) (g : JFrame) : Prop :=
  ∃ s₂ o, Steps p.tables e below (T.setTop g) s₂ ∧ s₂.status = .running ∧ Ended s₂ below o ∧ ∃ v L, o = .returned v ∧ (Q v s₂.vm s₂.heap ∧ Fr Z.heap.size L ∧ Ext Z.heap s₂.heap) ∧ (nb = true → s.WarmedH s₂.vm) ∧ CHr Z EL s.vm s.heap s₂.vm s₂.heap ∧ ReturnedEndW s o s₂ L ck sk
/-- a method's contract -/
def OC (l : Launch) (Z : State) (EL : List (String × Nat)) (nb : Bool) (ws : List Jvm.Cond) (y : MethodName) (bytes : ByteArray) (ml : Nat) (ret : Option FieldType) (rm : Room) (as' : Array Value) (h : Heap) (sf : List Addr) (Q : Option Value → Vm → Heap → Prop) : Prop :=
  MetFree l y (head1 (Jvm.Cond.code y bytes ml ret :: ws) rm) (fun a U => a = as' ∧ Z.Warmed39 U.vm ∧ U.heap = h ∧ CHv Z EL U.vm h ∧ Ext Z.heap h ∧ ∀ x ∈ sf, Safe Z EL U.vm h x) (fun _ _ _ _ _ => True)
    (fun _ U o U' => ∃ v L, o = .returned v ∧ (Q v U'.vm U'.heap ∧ Fr Z.heap.size L ∧ Ext Z.heap U'.heap) ∧ (nb = true → U.WarmedH U'.vm) ∧ CHr Z EL U.vm U.heap U'.vm U'.heap ∧ ReturnedEndW U o U' L rm.cells rm.slots)
/-- one step of the walk -/
abbrev Lt (p : Program) (e : Env) (below : List Frame) (T : State) (g : JFrame) (T' : State) (g' : JFrame) : Prop := ∀ t, Steps p.tables e below (T'.setTop g') t → Steps p.tables e below (T.setTop g) t
theorem oLift {g g' : JFrame} {T' : State} (st : Lt p e below T g T' g') (k : OG p e below s Z EL nb Q ck sk T' g') : OG p e below s Z EL nb Q ck sk T g := by
  obtain ⟨s₂, o, h1, r⟩ := k
  exact ⟨s₂, o, st _ h1, r⟩
theorem oEq {g g' : JFrame} (q : g = g') (k : OG p e below s Z EL nb Q ck sk T g') : OG p e below s Z EL nb Q ck sk T g := q ▸ k
theorem oEnter {ws : List Jvm.Cond} {y : MethodName} {bytes : ByteArray} {rm : Room} {as' : Array Value} {sf : List Addr} (hp : plainFor y = true) (hEW : EW Z a0 EL)
    (body : ∀ (p : Program) (e : Env) (s : State) (m : MethodId) (below : List Frame) (meth : Method) (c : Code) (T : State), OW p l e rm s m as' below meth c Z a0 EL nb y.cls bytes ml ret y.name s.vm T [] 0 0 h → (∀ x ∈ sf, Safe Z EL s.vm h x) → OG p e below s Z EL nb Q rm.cells rm.slots T (entryFrame m as' ml)) :
    OC l Z EL nb ws y bytes ml ret rm as' h sf Q := by
  refine MetFree.of_bodySF hp hisR ?_
  intro p e s m args below meth c s₁ Bd hml hP hK
  obtain ⟨rfl, hZ, hh, hC, hE, hSf⟩ := hP
  have X0 : Stand p l e rm s m _ below meth c s₁ [] 0 0 := Stand.of_body Bd
  have e0 : s₁.heap = h := by rw [← hh, Bd.state]; rfl
  obtain ⟨s₂, o, h1, h2, h3, v, L, h4, h5, h6, h7, h8⟩ := body p e s m below meth c s₁
    ⟨⟨Bd.exec, Bd.bytes, hml, Bd.returns, BodyLoose.notSynchronized Bd, (name_of_methodNamed Bd.named Bd.method).1⟩, X0, e0, ⟨0, (State.WarmedH.refl s).since _, Nat.zero_le _⟩, hZ, findClass_of_methodNamed Bd.named, by subst hh; exact CHr.refl hC, Fr.nil _, hE, fun _ => State.WarmedH.refl s, hEW⟩ hSf
  exact ⟨s₂, o, h1, h2, h3, v, L, h4, h5, h6, h7, h8⟩
/-! ### the plain steps, by evaluation -/
def oIl : Instr → Nat
  | .bipush _ => 2 | .sipush _ => 3 | .aload _ => 2 | .iload _ => 2 | .istore _ => 2 | .astore _ => 2 | .iinc _ _ => 3 | .goto _ => 3 | _ => 1
def oNx (pc : Nat) : Instr → Nat
  | .goto o => ((pc : Int) + o).toNat
  | i => pc + oIl i
def oOkG (pc : Nat) : Instr → Bool
  | .goto o => decide (0 ≤ (pc : Int) + o)
  | _ => true
def oSeg (code : ByteArray) : Nat → List Instr → Bool
  | _, [] => true
  | pc, i :: is => decide (decode code pc = .ok (i, oIl i)) && (oOkG pc i && oSeg code (oNx pc i) is)
def oOne : Slot → Bool
  | .unset => true
  | .val w => decide (w.category = 1)
  | .second => false
theorem oOne_ok {o : Slot} (h : oOne o = true) : o = .unset ∨ ∃ w, o = .val w ∧ w.category = 1 := by
  cases o with
  | unset => exact Or.inl rfl
  | second => cases h
  | val w => exact Or.inr ⟨w, rfl, of_decide_eq_true h⟩
theorem oCat {v : Value} (h : v.isRef = true) : v.category = 1 := by cases v <;> simp_all [Value.isRef, Value.category]
def oS1 (i : Instr) (ls : Array Slot) (st : List Value) : Option (Array Slot × List Value × Bool) :=
  match i with
  | .aload_n k => match ls[k.val]? with | some (.val v) => some (ls, v :: st, v.isRef) | _ => none
  | .aload k => match ls[k]? with | some (.val v) => some (ls, v :: st, v.isRef) | _ => none
  | .iload_n k => match ls[k.val]? with | some (.val (.int x)) => some (ls, .int x :: st, true) | _ => none
  | .iload k => match ls[k]? with | some (.val (.int x)) => some (ls, .int x :: st, true) | _ => none
  | .iconst i => some (ls, .int (Int32.ofInt i) :: st, true)
  | .bipush i => some (ls, .int (Int8.ofInt i).toInt32 :: st, true)
  | .sipush i => some (ls, .int (Int16.ofInt i).toInt32 :: st, true)
  | .aconst_null => some (ls, .null :: st, true)
  | .goto _ => some (ls, st, true)
  | .istore_n k => match st with | .int x :: rest => (match storeLocals ls k.val (.int x) with | some l' => some (l', rest, true) | none => none) | _ => none
  | .istore k => match st with | .int x :: rest => (match storeLocals ls k (.int x) with | some l' => some (l', rest, true) | none => none) | _ => none
  | .astore_n k => match st with | x :: rest => (match ls[k.val]? with | some o => some (ls.setIfInBounds k.val (.val x), rest, x.isRef && oOne o) | none => none) | _ => none
  | .astore k => match st with | x :: rest => (match ls[k]? with | some o => some (ls.setIfInBounds k (.val x), rest, x.isRef && oOne o) | none => none) | _ => none
  | .iinc k cst => match ls[k]? with | some (.val (.int x)) => (match storeLocals ls k (.int (x + Int32.ofInt cst)) with | some l' => some (l', st, true) | none => none) | _ => none
  | .dup => match st with | x :: rest => some (ls, x :: x :: rest, decide (x.category = 1)) | _ => none
  | .pop => match st with | x :: rest => some (ls, rest, decide (x.category = 1)) | _ => none
  | .dup_x1 => match st with | x :: y :: rest => some (ls, x :: y :: x :: rest, decide (x.category = 1) && decide (y.category = 1)) | _ => none
  | .dup2 => match st with | x :: y :: rest => some (ls, x :: y :: x :: y :: rest, decide (x.category = 1) && decide (y.category = 1)) | _ => none
  | .iadd => match st with | .int y :: .int x :: rest => some (ls, .int (x + y) :: rest, true) | _ => none
  | .isub => match st with | .int y :: .int x :: rest => some (ls, .int (x - y) :: rest, true) | _ => none
  | .imul => match st with | .int y :: .int x :: rest => some (ls, .int (x * y) :: rest, true) | _ => none
  | .idiv => match st with | .int y :: .int x :: rest => some (ls, .int (x / y) :: rest, decide (y ≠ 0)) | _ => none
  | .irem => match st with | .int y :: .int x :: rest => some (ls, .int (x % y) :: rest, decide (y ≠ 0)) | _ => none
  | .iand => match st with | .int y :: .int x :: rest => some (ls, .int (x &&& y) :: rest, true) | _ => none
  | .ior => match st with | .int y :: .int x :: rest => some (ls, .int (x ||| y) :: rest, true) | _ => none
  | .ixor => match st with | .int y :: .int x :: rest => some (ls, .int (x ^^^ y) :: rest, true) | _ => none
  | .ishl => match st with | .int y :: .int x :: rest => some (ls, .int (x <<< (y &&& 31)) :: rest, true) | _ => none
  | .ishr => match st with | .int y :: .int x :: rest => some (ls, .int (x >>> (y &&& 31)) :: rest, true) | _ => none
  | .iushr => match st with | .int y :: .int x :: rest => some (ls, .int (XT.ushr x y) :: rest, true) | _ => none
  | .ineg => match st with | .int x :: rest => some (ls, .int (-x) :: rest, true) | _ => none
  | .i2b => match st with | .int x :: rest => some (ls, .int (x.toInt8.toInt32) :: rest, true) | _ => none
  | .i2c => match st with | .int x :: rest => some (ls, .int (x.toUInt32.toUInt16.toUInt32.toInt32) :: rest, true) | _ => none
  | .i2s => match st with | .int x :: rest => some (ls, .int (x.toInt16.toInt32) :: rest, true) | _ => none
  | _ => none
def oRun : List Instr → Array Slot → List Value → Option (Array Slot × List Value × Bool)
  | [], ls, st => some (ls, st, true)
  | i :: is, ls, st => match oS1 i ls st with
    | some (ls1, st1, b1) => (match oRun is ls1 st1 with | some (ls2, st2, b2) => some (ls2, st2, b1 && b2) | none => none)
    | none => none
def oNxs : Nat → List Instr → Nat
  | pc, [] => pc
  | pc, i :: is => oNxs (oNx pc i) is
theorem oS1_ok (H : At T m c below) (hx : p.tables.exec = Jvm.exec) {i : Instr} {pc : Nat} {ls ls' : Array Slot} {st st' : List Value} {b : Bool} {t : State} (hd : decode c.code pc = .ok (i, oIl i)) (hg : oOkG pc i = true) (hs : oS1 i ls st = some (ls', st', b)) (hb : b = true)
    (hr : Steps p.tables e below (T.setTop (mkF m (oNx pc i) ls' st')) t) : Steps p.tables e below (T.setTop (mkF m pc ls st)) t := by
  subst hb
  cases i
  case aload_n k =>
    simp only [oS1] at hs
    split at hs
    · rename_i v hv
      simp only [Option.some.injEq, Prod.mk.injEq] at hs
      obtain ⟨rfl, rfl, h3⟩ := hs
      exact XS.aloadN (g := mkF m pc ls _) H hx rfl hd hv h3 hr
    · cases hs
  case aload k =>
    simp only [oS1] at hs
    split at hs
    · rename_i v hv
      simp only [Option.some.injEq, Prod.mk.injEq] at hs
      obtain ⟨rfl, rfl, h3⟩ := hs
      exact XS.aload (g := mkF m pc ls _) H hx rfl hd hv h3 hr
    · cases hs
  case iload_n k =>
    simp only [oS1] at hs
    split at hs
    · rename_i x hv
      simp only [Option.some.injEq, Prod.mk.injEq] at hs
      obtain ⟨rfl, rfl, -⟩ := hs
      exact XS.iloadN (g := mkF m pc ls _) H hx rfl hd hv hr
    · cases hs
  case iload k =>
    simp only [oS1] at hs
    split at hs
    · rename_i x hv
      simp only [Option.some.injEq, Prod.mk.injEq] at hs
      obtain ⟨rfl, rfl, -⟩ := hs
      exact XS.iload (g := mkF m pc ls _) H hx rfl hd hv hr
    · cases hs
  case iconst z =>
    simp only [oS1, Option.some.injEq, Prod.mk.injEq] at hs
    obtain ⟨rfl, rfl, -⟩ := hs
    exact XS.iconst (g := mkF m pc ls _) H hx rfl hd hr
  case bipush z =>
    simp only [oS1, Option.some.injEq, Prod.mk.injEq] at hs
    obtain ⟨rfl, rfl, -⟩ := hs
    exact XS.bipush (g := mkF m pc ls _) H hx rfl hd hr
  case sipush z =>
    simp only [oS1, Option.some.injEq, Prod.mk.injEq] at hs
    obtain ⟨rfl, rfl, -⟩ := hs
    exact XS.sipush (g := mkF m pc ls _) H hx rfl hd hr
  case aconst_null =>
    simp only [oS1, Option.some.injEq, Prod.mk.injEq] at hs
    obtain ⟨rfl, rfl, -⟩ := hs
    exact XS.aconstNull (g := mkF m pc ls _) H hx rfl hd hr
  case goto o =>
    simp only [oS1, Option.some.injEq, Prod.mk.injEq] at hs
    obtain ⟨rfl, rfl, -⟩ := hs
    exact XS.goto (g := mkF m pc ls _) H hx rfl (pc0 := pc) rfl hd (of_decide_eq_true hg) rfl hr
  case astore_n k =>
    simp only [oS1] at hs
    split at hs
    · split at hs
      · rename_i o ho
        simp only [Option.some.injEq, Prod.mk.injEq] at hs
        obtain ⟨rfl, rfl, h3⟩ := hs
        rw [Bool.and_eq_true] at h3
        exact XS.astoreN (g := mkF m pc ls _) H hx rfl hd rfl h3.1 (XS.store1 ho (oOne_ok h3.2) (oCat h3.1)) hr
      · cases hs
    · cases hs
  case astore k =>
    simp only [oS1] at hs
    split at hs
    · split at hs
      · rename_i o ho
        simp only [Option.some.injEq, Prod.mk.injEq] at hs
        obtain ⟨rfl, rfl, h3⟩ := hs
        rw [Bool.and_eq_true] at h3
        exact XS.astore (g := mkF m pc ls _) H hx rfl hd rfl h3.1 (XS.store1 ho (oOne_ok h3.2) (oCat h3.1)) hr
      · cases hs
    · cases hs
  case istore_n k =>
    simp only [oS1] at hs
    split at hs
    · split at hs
      · rename_i l2 hl
        simp only [Option.some.injEq, Prod.mk.injEq] at hs
        obtain ⟨rfl, rfl, h3⟩ := hs
        exact XS.istoreN (g := mkF m pc ls _) H hx rfl hd rfl hl hr
      · cases hs
    · cases hs
  case istore k =>
    simp only [oS1] at hs
    split at hs
    · split at hs
      · rename_i l2 hl
        simp only [Option.some.injEq, Prod.mk.injEq] at hs
        obtain ⟨rfl, rfl, h3⟩ := hs
        exact XS.istore (g := mkF m pc ls _) H hx rfl hd rfl hl hr
      · cases hs
    · cases hs
  case iinc k z =>
    simp only [oS1] at hs
    split at hs
    · rename_i x hv
      split at hs
      · rename_i l2 hl
        simp only [Option.some.injEq, Prod.mk.injEq] at hs
        obtain ⟨rfl, rfl, -⟩ := hs
        exact XS.iinc (g := mkF m pc ls _) H hx rfl hd hv hl hr
      · cases hs
    · cases hs
  case dup =>
    simp only [oS1] at hs
    split at hs
    · simp only [Option.some.injEq, Prod.mk.injEq] at hs
      obtain ⟨rfl, rfl, h3⟩ := hs
      exact XS.dup (g := mkF m pc ls _) H hx rfl hd rfl (of_decide_eq_true h3) hr
    · cases hs
  case pop =>
    simp only [oS1] at hs
    split at hs
    · simp only [Option.some.injEq, Prod.mk.injEq] at hs
      obtain ⟨rfl, rfl, h3⟩ := hs
      exact XT.pop (g := mkF m pc ls _) H hx rfl hd rfl (of_decide_eq_true h3) hr
    · cases hs
  case dup_x1 =>
    simp only [oS1] at hs
    split at hs
    · simp only [Option.some.injEq, Prod.mk.injEq] at hs
      obtain ⟨rfl, rfl, h3⟩ := hs
      rw [Bool.and_eq_true] at h3
      exact XT.dupX1 (g := mkF m pc ls _) H hx rfl hd rfl (of_decide_eq_true h3.1) (of_decide_eq_true h3.2) hr
    · cases hs
  case dup2 =>
    simp only [oS1] at hs
    split at hs
    · simp only [Option.some.injEq, Prod.mk.injEq] at hs
      obtain ⟨rfl, rfl, h3⟩ := hs
      rw [Bool.and_eq_true] at h3
      exact XT.dup2 (g := mkF m pc ls _) H hx rfl hd rfl (of_decide_eq_true h3.1) (of_decide_eq_true h3.2) hr
    · cases hs
  case iadd =>
    simp only [oS1] at hs
    split at hs
    · simp only [Option.some.injEq, Prod.mk.injEq] at hs
      obtain ⟨rfl, rfl, -⟩ := hs
      exact XS.iadd (g := mkF m pc ls _) H hx rfl hd rfl hr
    · cases hs
  case isub =>
    simp only [oS1] at hs
    split at hs
    · simp only [Option.some.injEq, Prod.mk.injEq] at hs
      obtain ⟨rfl, rfl, -⟩ := hs
      exact XS.isub (g := mkF m pc ls _) H hx rfl hd rfl hr
    · cases hs
  case imul =>
    simp only [oS1] at hs
    split at hs
    · simp only [Option.some.injEq, Prod.mk.injEq] at hs
      obtain ⟨rfl, rfl, -⟩ := hs
      exact XS.imul (g := mkF m pc ls _) H hx rfl hd rfl hr
    · cases hs
  case iand =>
    simp only [oS1] at hs
    split at hs
    · simp only [Option.some.injEq, Prod.mk.injEq] at hs
      obtain ⟨rfl, rfl, -⟩ := hs
      exact XS.iand (g := mkF m pc ls _) H hx rfl hd rfl hr
    · cases hs
  case ior =>
    simp only [oS1] at hs
    split at hs
    · simp only [Option.some.injEq, Prod.mk.injEq] at hs
      obtain ⟨rfl, rfl, -⟩ := hs
      exact XT.ior (g := mkF m pc ls _) H hx rfl hd rfl hr
    · cases hs
  case ixor =>
    simp only [oS1] at hs
    split at hs
    · simp only [Option.some.injEq, Prod.mk.injEq] at hs
      obtain ⟨rfl, rfl, -⟩ := hs
      exact XT.ixor (g := mkF m pc ls _) H hx rfl hd rfl hr
    · cases hs
  case ishl =>
    simp only [oS1] at hs
    split at hs
    · simp only [Option.some.injEq, Prod.mk.injEq] at hs
      obtain ⟨rfl, rfl, -⟩ := hs
      exact XT.ishl (g := mkF m pc ls _) H hx rfl hd rfl hr
    · cases hs
  case ishr =>
    simp only [oS1] at hs
    split at hs
    · simp only [Option.some.injEq, Prod.mk.injEq] at hs
      obtain ⟨rfl, rfl, -⟩ := hs
      exact XT.ishr (g := mkF m pc ls _) H hx rfl hd rfl hr
    · cases hs
  case iushr =>
    simp only [oS1] at hs
    split at hs
    · simp only [Option.some.injEq, Prod.mk.injEq] at hs
      obtain ⟨rfl, rfl, -⟩ := hs
      exact XT.iushr (g := mkF m pc ls _) H hx rfl hd rfl hr
    · cases hs
  case ineg =>
    simp only [oS1] at hs
    split at hs
    · simp only [Option.some.injEq, Prod.mk.injEq] at hs
      obtain ⟨rfl, rfl, -⟩ := hs
      exact XS.ineg (g := mkF m pc ls _) H hx rfl hd rfl hr
    · cases hs
  case i2b =>
    simp only [oS1] at hs
    split at hs
    · simp only [Option.some.injEq, Prod.mk.injEq] at hs
      obtain ⟨rfl, rfl, -⟩ := hs
      exact XT.i2b (g := mkF m pc ls _) H hx rfl hd rfl hr
    · cases hs
  case i2c =>
    simp only [oS1] at hs
    split at hs
    · simp only [Option.some.injEq, Prod.mk.injEq] at hs
      obtain ⟨rfl, rfl, -⟩ := hs
      exact XT.i2c (g := mkF m pc ls _) H hx rfl hd rfl hr
    · cases hs
  case i2s =>
    simp only [oS1] at hs
    split at hs
    · simp only [Option.some.injEq, Prod.mk.injEq] at hs
      obtain ⟨rfl, rfl, -⟩ := hs
      exact XT.i2s (g := mkF m pc ls _) H hx rfl hd rfl hr
    · cases hs
  case idiv =>
    simp only [oS1] at hs
    split at hs
    · simp only [Option.some.injEq, Prod.mk.injEq] at hs
      obtain ⟨rfl, rfl, h3⟩ := hs
      exact XS.idiv (g := mkF m pc ls _) H hx rfl hd rfl (of_decide_eq_true h3) hr
    · cases hs
  case irem =>
    simp only [oS1] at hs
    split at hs
    · rename_i y x rest
      simp only [Option.some.injEq, Prod.mk.injEq] at hs
      obtain ⟨rfl, rfl, h3⟩ := hs
      refine XS.irem (g := mkF m pc ls _) H hx rfl hd rfl (of_decide_eq_true h3) ?_
      rw [irem_eq_mod x y]
      exact hr
    · cases hs
  all_goals (simp [oS1] at hs)
theorem oGo (W : OW p l e R s m args below meth c Z a0 EL nb own code ml ret nm vm T locs ce sl h) : ∀ (is : List Instr) {pc : Nat} {ls ls' : Array Slot} {st st' : List Value} {b : Bool}, oSeg code pc is = true → oRun is ls st = some (ls', st', b) → b = true → ∀ {pc' : Nat}, oNxs pc is = pc' → OG p e below s Z EL nb Q ck sk T (mkF m pc' ls' st') → OG p e below s Z EL nb Q ck sk T (mkF m pc ls st)
  | [], pc, ls, ls', st, st', b, _, hr, _, pc', hp, k => by
    simp only [oRun, Option.some.injEq, Prod.mk.injEq] at hr
    obtain ⟨rfl, rfl, -⟩ := hr
    subst hp
    exact k
  | i :: is, pc, ls, ls', st, st', b, hg, hr, hb, pc', hp, k => by
    simp only [oRun] at hr
    split at hr
    · rename_i ls1 st1 b1 h1
      split at hr
      · rename_i ls2 st2 b2 h2
        simp only [Option.some.injEq, Prod.mk.injEq] at hr
        obtain ⟨rfl, rfl, rfl⟩ := hr
        rw [Bool.and_eq_true] at hb
        simp only [oSeg, Bool.and_eq_true] at hg
        have hd : decode c.code pc = .ok (i, oIl i) := by rw [W.1.2.1]; exact of_decide_eq_true hg.1
        exact oLift (fun t q => oS1_ok W.2.1.here W.1.1 hd hg.2.1 h1 hb.1 q) (oGo W is hg.2.2 h2 hb.2 hp k)
      · cases hr
    · cases hr
theorem oDec (W : OW p l e R s m args below meth c Z a0 EL nb own code ml ret nm vm T locs ce sl h) {pc : Nat} {r : Except DecodeError (Instr × Nat)} (hd : decode code pc = r) : decode c.code pc = r := by rw [W.1.2.1]; exact hd
/-! ### branches -/
theorem oIfT (W : OW p l e R s m args below meth c Z a0 EL nb own code ml ret nm vm T locs ce sl h) {cd : ClassFile.Cond} {o : Int} {x : Int32} {pc : Nat} {ls : Array Slot} {st : List Value} (hd : decode code pc = .ok (.ifCond cd o, 3)) (hc : ifCond.holds cd x = true) {pc' : Nat} (ho : 0 ≤ (pc : Int) + o) (hp : ((pc : Int) + o).toNat = pc') (k : OG p e below s Z EL nb Q ck sk T (mkF m pc' ls st)) : OG p e below s Z EL nb Q ck sk T (mkF m pc ls (.int x :: st)) :=
  oLift (fun t q => XS.ifYes (g := mkF m pc ls (.int x :: st)) W.2.1.here W.1.1 rfl (pc0 := pc) rfl (oDec W hd) rfl hc ho hp q) k
theorem oIfF (W : OW p l e R s m args below meth c Z a0 EL nb own code ml ret nm vm T locs ce sl h) {cd : ClassFile.Cond} {o : Int} {x : Int32} {pc : Nat} {ls : Array Slot} {st : List Value} (hd : decode code pc = .ok (.ifCond cd o, 3)) (hc : ifCond.holds cd x = false) {pc' : Nat} (hp : pc + 3 = pc') (k : OG p e below s Z EL nb Q ck sk T (mkF m pc' ls st)) : OG p e below s Z EL nb Q ck sk T (mkF m pc ls (.int x :: st)) := by
  subst hp
  exact oLift (fun t q => XS.ifNo (g := mkF m pc ls (.int x :: st)) W.2.1.here W.1.1 rfl (oDec W hd) rfl hc q) k
theorem oIcT (W : OW p l e R s m args below meth c Z a0 EL nb own code ml ret nm vm T locs ce sl h) {cd : ClassFile.Cond} {o : Int} {x y : Int32} {pc : Nat} {ls : Array Slot} {st : List Value} (hd : decode code pc = .ok (.if_icmp cd o, 3)) (hc : if_icmp.holds cd x y = true) {pc' : Nat} (ho : 0 ≤ (pc : Int) + o) (hp : ((pc : Int) + o).toNat = pc') (k : OG p e below s Z EL nb Q ck sk T (mkF m pc' ls st)) : OG p e below s Z EL nb Q ck sk T (mkF m pc ls (.int y :: .int x :: st)) :=
  oLift (fun t q => XS.icmpYes (g := mkF m pc ls (.int y :: .int x :: st)) W.2.1.here W.1.1 rfl (pc0 := pc) rfl (oDec W hd) rfl hc ho hp q) k
theorem oIcF (W : OW p l e R s m args below meth c Z a0 EL nb own code ml ret nm vm T locs ce sl h) {cd : ClassFile.Cond} {o : Int} {x y : Int32} {pc : Nat} {ls : Array Slot} {st : List Value} (hd : decode code pc = .ok (.if_icmp cd o, 3)) (hc : if_icmp.holds cd x y = false) {pc' : Nat} (hp : pc + 3 = pc') (k : OG p e below s Z EL nb Q ck sk T (mkF m pc' ls st)) : OG p e below s Z EL nb Q ck sk T (mkF m pc ls (.int y :: .int x :: st)) := by
  subst hp
  exact oLift (fun t q => XS.icmpNo (g := mkF m pc ls (.int y :: .int x :: st)) W.2.1.here W.1.1 rfl (oDec W hd) rfl hc q) k
theorem oNuT (W : OW p l e R s m args below meth c Z a0 EL nb own code ml ret nm vm T locs ce sl h) {o : Int} {pc : Nat} {ls : Array Slot} {st : List Value} (hd : decode code pc = .ok (.ifnull o, 3)) {pc' : Nat} (ho : 0 ≤ (pc : Int) + o) (hp : ((pc : Int) + o).toNat = pc') (k : OG p e below s Z EL nb Q ck sk T (mkF m pc' ls st)) : OG p e below s Z EL nb Q ck sk T (mkF m pc ls (.null :: st)) :=
  oLift (fun t q => XS.ifnullYes (g := mkF m pc ls (.null :: st)) W.2.1.here W.1.1 rfl (pc0 := pc) rfl (oDec W hd) rfl ho hp q) k
theorem oNuF (W : OW p l e R s m args below meth c Z a0 EL nb own code ml ret nm vm T locs ce sl h) {o : Int} {a : Addr} {pc : Nat} {ls : Array Slot} {st : List Value} (hd : decode code pc = .ok (.ifnull o, 3)) {pc' : Nat} (hp : pc + 3 = pc') (k : OG p e below s Z EL nb Q ck sk T (mkF m pc' ls st)) : OG p e below s Z EL nb Q ck sk T (mkF m pc ls (.ref a :: st)) := by
  subst hp
  exact oLift (fun t q => XS.ifnullNo (g := mkF m pc ls (.ref a :: st)) W.2.1.here W.1.1 rfl (oDec W hd) rfl q) k
theorem oNnT (W : OW p l e R s m args below meth c Z a0 EL nb own code ml ret nm vm T locs ce sl h) {o : Int} {a : Addr} {pc : Nat} {ls : Array Slot} {st : List Value} (hd : decode code pc = .ok (.ifnonnull o, 3)) {pc' : Nat} (ho : 0 ≤ (pc : Int) + o) (hp : ((pc : Int) + o).toNat = pc') (k : OG p e below s Z EL nb Q ck sk T (mkF m pc' ls st)) : OG p e below s Z EL nb Q ck sk T (mkF m pc ls (.ref a :: st)) :=
  oLift (fun t q => XT.ifnonnullYes (g := mkF m pc ls (.ref a :: st)) W.2.1.here W.1.1 rfl (pc0 := pc) rfl (oDec W hd) rfl ho hp q) k
theorem oNnF (W : OW p l e R s m args below meth c Z a0 EL nb own code ml ret nm vm T locs ce sl h) {o : Int} {pc : Nat} {ls : Array Slot} {st : List Value} (hd : decode code pc = .ok (.ifnonnull o, 3)) {pc' : Nat} (hp : pc + 3 = pc') (k : OG p e below s Z EL nb Q ck sk T (mkF m pc' ls st)) : OG p e below s Z EL nb Q ck sk T (mkF m pc ls (.null :: st)) := by
  subst hp
  exact oLift (fun t q => XT.ifnonnullNo (g := mkF m pc ls (.null :: st)) W.2.1.here W.1.1 rfl (oDec W hd) rfl q) k
theorem oAcT (W : OW p l e R s m args below meth c Z a0 EL nb own code ml ret nm vm T locs ce sl h) {cd : ACond} {o : Int} {x y : Value} {pc : Nat} {ls : Array Slot} {st : List Value} (hd : decode code pc = .ok (.if_acmp cd o, 3)) (h1 : x.isRef = true) (h2 : y.isRef = true) (hc : XT.acmp cd x y = true) {pc' : Nat} (ho : 0 ≤ (pc : Int) + o) (hp : ((pc : Int) + o).toNat = pc') (k : OG p e below s Z EL nb Q ck sk T (mkF m pc' ls st)) : OG p e below s Z EL nb Q ck sk T (mkF m pc ls (y :: x :: st)) :=
  oLift (fun t q => XT.acmpYes (g := mkF m pc ls (y :: x :: st)) W.2.1.here W.1.1 rfl (pc0 := pc) rfl (oDec W hd) rfl h1 h2 hc ho hp q) k
theorem oAcF (W : OW p l e R s m args below meth c Z a0 EL nb own code ml ret nm vm T locs ce sl h) {cd : ACond} {o : Int} {x y : Value} {pc : Nat} {ls : Array Slot} {st : List Value} (hd : decode code pc = .ok (.if_acmp cd o, 3)) (h1 : x.isRef = true) (h2 : y.isRef = true) (hc : XT.acmp cd x y = false) {pc' : Nat} (hp : pc + 3 = pc') (k : OG p e below s Z EL nb Q ck sk T (mkF m pc' ls st)) : OG p e below s Z EL nb Q ck sk T (mkF m pc ls (y :: x :: st)) := by
  subst hp
  exact oLift (fun t q => XT.acmpNo (g := mkF m pc ls (y :: x :: st)) W.2.1.here W.1.1 rfl (oDec W hd) rfl h1 h2 hc q) k
/-! ### the end -/
theorem oFin (W : OW p l e R s m args below meth c Z a0 EL nb own code ml ret nm vm T locs ce sl h) {v : Option Value} {g : JFrame} (hv : ret = none → v = none)
    (hstep : ∀ fs, (∀ (f : JFrame) (acts : List Action), f.method = m → f.locked = none → f.entered = [] → (doReturn e (T.setTop f) acts v).1 = T.setFrames fs) → Steps p.tables e below (T.setTop g) (T.setFrames fs)) (hc : ce ≤ ck) (hs : sl ≤ sk) (hq : ∀ vm', CHr Z EL vm h vm' h → Q v vm' h) : OG p e below s Z EL nb Q ck sk T g := by
  obtain ⟨⟨h1, h2, h3, h4, h5, h6⟩, X, eT, ⟨k0, hS, hk⟩, hZ, ho, hC, hF, hE, hn, hEW⟩ := W
  obtain ⟨fs, hr, hrun, hended, r1, r2, r3, r4⟩ := X.leaveW hS (by rw [eT]; exact hk) (v := v) (fun q => hv (by rw [← h4]; exact q)) h5
  refine ⟨T.setFrames fs, _, hstep fs hr, hrun, hended, v, locs, rfl, ⟨?_, hF, ?_⟩, fun q => ?_, ?_, r1, r2, r3, r4.mono hc hs⟩
  · show Q v T.vm T.heap
    rw [eT]; exact hq _ (CHv.at X hZ hEW hC.1)
  · show Ext Z.heap T.heap
    rw [eT]; exact hE
  · exact State.WarmedH.trans (t := s.setVm vm) (hn q) X.warmed
  · show CHr Z EL s.vm s.heap T.vm T.heap
    rw [eT]
    exact hC.trans (CHv.at X hZ hEW hC.1)
theorem oRet0 (W : OW p l e R s m args below meth c Z a0 EL nb own code ml none nm vm T locs ce sl h) {pc : Nat} {ls : Array Slot} (hd : decode code pc = .ok (.return_, 1)) (hc : ce ≤ ck) (hs : sl ≤ sk) (hq : ∀ vm', CHr Z EL vm h vm' h → Q none vm' h) : OG p e below s Z EL nb Q ck sk T (mkF m pc ls []) :=
  oFin W (fun _ => rfl) (fun fs hr => W.2.1.returnOut W.1.1 W.1.2.2.2.1 (oDec W hd) hr) hc hs hq
theorem oRetI (W : OW p l e R s m args below meth c Z a0 EL nb own code ml (some .int) nm vm T locs ce sl h) {pc : Nat} {ls : Array Slot} {z : Int32} {rest : List Value} (hd : decode code pc = .ok (.ireturn, 1)) (hc : ce ≤ ck) (hs : sl ≤ sk) (hq : ∀ vm', CHr Z EL vm h vm' h → Q (some (.int z)) vm' h) : OG p e below s Z EL nb Q ck sk T (mkF m pc ls (.int z :: rest)) :=
  oFin W (fun q => by cases q) (fun fs hr => RoadKit.retOut W.2.1 W.1.1 W.1.2.2.2.1 rfl (Or.inl ⟨rfl, Or.inl rfl, _, rfl⟩) (oDec W hd) hr) hc hs hq
theorem oRetN {t : FieldType} (ht : t = .boolean ∨ t = .byte ∨ t = .char ∨ t = .short) (W : OW p l e R s m args below meth c Z a0 EL nb own code ml (some t) nm vm T locs ce sl h) {pc : Nat} {ls : Array Slot} {z : Int32} {rest : List Value} (hn : nar t z = z) (hd : decode code pc = .ok (.ireturn, 1)) (hc : ce ≤ ck) (hs : sl ≤ sk) (hq : ∀ vm', CHr Z EL vm h vm' h → Q (some (.int z)) vm' h) : OG p e below s Z EL nb Q ck sk T (mkF m pc ls (.int z :: rest)) :=
  oFin W (fun q => by cases q) (fun fs hr => RoadKit.retN W.2.1 W.1.1 W.1.2.2.2.1 ht (oDec W hd) (by rw [hn]; exact hr)) hc hs hq
theorem oRetA {t : FieldType} (ht : t.isReference = true) (W : OW p l e R s m args below meth c Z a0 EL nb own code ml (some t) nm vm T locs ce sl h) {pc : Nat} {ls : Array Slot} {w : Value} {rest : List Value} (hw : w.isRef = true) (hn : narrow t w = w) (hd : decode code pc = .ok (.areturn, 1)) (hc : ce ≤ ck) (hs : sl ≤ sk) (hq : ∀ vm', CHr Z EL vm h vm' h → Q (some w) vm' h) : OG p e below s Z EL nb Q ck sk T (mkF m pc ls (w :: rest)) :=
  oFin W (fun q => by cases q) (fun fs hr => RoadKit.retOut W.2.1 W.1.1 W.1.2.2.2.1 hn (Or.inr (Or.inr (Or.inr (Or.inr ⟨rfl, ht, hw⟩)))) (oDec W hd) hr) hc hs hq
end Base
end Jvm.OwnK
namespace Jvm.OwnK
open Jvm Sem ClassFile Op Lib Jvm.Stand Jvm.Free Jvm.LawKit Jvm.RoadKit Bundle
section Heaps
variable {p : Program} {l : Launch} {e : Env} {R : Room} {s : State} {m : MethodId} {args : Array Value} {below : List Frame} {meth : Method} {c : Code} {Z : State} {a0 : Array Value} {EL : List (String × Nat)} {nb : Bool} {own : String} {code : ByteArray} {ml : Nat} {ret : Option FieldType} {nm : String} {vm : Vm} {T : State} {locs : List Loc} {ce sl : Nat} {h h1 h2 : Heap} {Q : Option Value → Vm → Heap → Prop} {ck sk : Nat} {pc : Nat} {ls : Array Slot} {st : List Value}
theorem exR (h : Heap) : Ext h h := ⟨Nat.le_refl _, fun _ _ q => q⟩
theorem exT (A : Ext h h1) (B : Ext h1 h2) : Ext h h2 := ⟨Nat.le_trans A.1 B.1, fun a c q => B.2 a c (A.2 a c q)⟩
theorem exW {a : Addr} {i : Nat} {v : Value} (A : Ext h h1) (B : Wr h1 h2 a i v) (q : h.size ≤ a) : Ext h h2 := by
  have K := (Keep.refl h ([] : List Addr)).ext A |>.wr B (Or.inr q)
  exact ⟨K.1, fun x c hx => K.2.1 x c hx nin0⟩
theorem exK {ws : List Addr} (A : Ext h h1) (K : Keep h1 h2 ws) (q : ∀ x ∈ ws, h.size ≤ x) : Ext h h2 := by
  have K' := ((Keep.refl h ([] : List Addr)).ext A).trans K (fun x hx => Or.inr (q x hx))
  exact ⟨K'.1, fun x c hx => K'.2.1 x c hx nin0⟩
theorem OW.step (W : OW p l e R s m args below meth c Z a0 EL nb own code ml ret nm vm T locs ce sl h) {T' : State} {locs' : List Loc} {ce' sl' : Nat} {h' : Heap} (X' : Stand p l e R (s.setVm vm) m args below meth c T' locs' ce' sl') (eT : T'.heap = h') (hC : CHr Z EL vm h vm h') (hF : Fr Z.heap.size locs') (hE : Ext Z.heap h') :
    OW p l e R s m args below meth c Z a0 EL nb own code ml ret nm vm T' locs' ce' sl' h' := by
  obtain ⟨g1, X, e0, ⟨k0, hS, hk⟩, hZ, ho, hC0, hF0, hE0, hn, hEW⟩ := W
  exact ⟨g1, X', eT, ⟨k0, hS, Nat.le_trans hk hC.2.1⟩, hZ, ho, hC0.trans hC, hF, hE, hn, hEW⟩
theorem OW.chv (W : OW p l e R s m args below meth c Z a0 EL nb own code ml ret nm vm T locs ce sl h) : CHv Z EL vm h := W.2.2.2.2.2.2.1.1
theorem OW.ext (W : OW p l e R s m args below meth c Z a0 EL nb own code ml ret nm vm T locs ce sl h) : Ext Z.heap h := W.2.2.2.2.2.2.2.2.1
theorem OW.fr (W : OW p l e R s m args below meth c Z a0 EL nb own code ml ret nm vm T locs ce sl h) : Fr Z.heap.size locs := W.2.2.2.2.2.2.2.1
theorem OW.warm (W : OW p l e R s m args below meth c Z a0 EL nb own code ml ret nm vm T locs ce sl h) : Z.Warmed39 vm := W.2.2.2.2.1
theorem OW.owns (W : OW p l e R s m args below meth c Z a0 EL nb own code ml ret nm vm T locs ce sl h) : vm.findClass own = some m.cls := W.2.2.2.2.2.1
theorem OW.heap (W : OW p l e R s m args below meth c Z a0 EL nb own code ml ret nm vm T locs ce sl h) : T.heap = h := W.2.2.1
theorem frS {k : Nat} {L : List Loc} {a : Addr} {i : Nat} (N : Fr k L) (q : k ≤ a) : Fr k (L ++ [⟨a, i⟩]) := N.app fun y hy => by cases List.mem_singleton.mp hy; exact q
/-- new -/
theorem oNew (W : OW p l e R s m args below meth c Z a0 EL nb own code ml ret nm vm T locs ce sl h) {idx n : Nat} {C : String} (w : (Jvm.Cond.classLink own idx C).before a0 Z = true) (wi : (Jvm.Cond.instantiable C n).before a0 Z = true) (wz : (Jvm.Cond.initialized C).before a0 Z = true) (hd : decode code pc = .ok (.new idx, 3)) (hc : ce + 1 ≤ R.cells) (hl : sl + n ≤ R.slots) :
    ∃ T' h' a, OW p l e R s m args below meth c Z a0 EL nb own code ml ret nm vm T' locs (ce + 1) (sl + n) h' ∧ h.size ≤ a ∧ Ext h h' ∧ Exa Z h' a C ∧ (∀ {O nm d : String} {ty : FieldType}, Laid Z a0 C O nm d → parseFieldDescriptor d = some ty → Fld Z h' a O nm d (defaultValue ty)) ∧ Safe Z EL vm h' a ∧ CHr Z EL vm h vm h' ∧
      Lt p e below T (mkF m pc ls st) T' (mkF m (pc + 3) ls (.ref a :: st)) := by
  obtain ⟨T', h', X', eT, E, A, D, -, st'⟩ := RoadKit.newO W.2.1 W.1.1 W.warm W.owns w wi wz W.heap (g := mkF m pc ls st) rfl (oDec W hd) hc hl
  have hC : CHr Z EL vm h vm h' := CHr.ext E W.chv
  exact ⟨T', h', h.size, W.step X' eT hC W.fr (exT W.ext E), Nat.le_refl _, E, A, fun L q => D L q, (Safe.new (Nat.le_refl _)).ext E W.chv, hC, st'⟩
/-- an array with known contents -/
def OA (Z : State) (h : Heap) (a : Addr) (k : ClassId) (ty : FieldType) (vs : List Value) : Prop := ∃ n d, Arv Z h a k ty n vs d ∧ n.toNatClampNeg = vs.length
theorem OA.ext {a : Addr} {k : ClassId} {ty : FieldType} {vs : List Value} (A : OA Z h a k ty vs) (E : Ext h h1) : OA Z h1 a k ty vs := by obtain ⟨n, d, F, q⟩ := A; exact ⟨n, d, F.ext E, q⟩
theorem OA.other {a b : Addr} {k : ClassId} {ty : FieldType} {vs : List Value} {i : Nat} {v : Value} (A : OA Z h b k ty vs) (W : Wr h h1 a i v) (q : b ≠ a) : OA Z h1 b k ty vs := by obtain ⟨n, d, F, r⟩ := A; exact ⟨n, d, F.other W q, r⟩
theorem OA.keep {a : Addr} {k : ClassId} {ty : FieldType} {vs : List Value} {ws : List Addr} (A : OA Z h a k ty vs) (K : Keep h h1 ws) (q : a ∉ ws) : OA Z h1 a k ty vs := by obtain ⟨n, d, F, r⟩ := A; exact ⟨n, d, F.keep K q, r⟩
theorem OA.lt {a : Addr} {k : ClassId} {ty : FieldType} {vs : List Value} (A : OA Z h a k ty vs) : a < h.size := by obtain ⟨n, d, F, -⟩ := A; exact F.lt
theorem OA.get {a : Addr} {k : ClassId} {ty : FieldType} {vs : List Value} (A : OA Z h a k ty vs) {i : Nat} {v : Value} (hv : vs[i]? = some v) : fits ty v = true := by
  obtain ⟨n, d, ⟨cl, -, -, hs, -, -, G⟩, r⟩ := A
  have hi : i < vs.length := (List.getElem?_eq_some_iff.mp hv).1
  have := G i (by rw [hs, r]; exact hi)
  rwa [List.getD_eq_getElem?_getD, hv] at this
theorem OA.ne {a b : Addr} {k : ClassId} {ty : FieldType} {vs : List Value} {C : String} {n : Nat} (A : OA Z h b k ty vs) (E : Exa Z h a C) (w : (Jvm.Cond.instantiable C n).before a0 Z = true) : b ≠ a := by
  obtain ⟨q, d, F, -⟩ := A
  exact Ne.symm (E.neArv F w)
theorem OA.safe {vm : Vm} {a : Addr} {k : ClassId} {ty : FieldType} {vs : List Value} (A : OA Z h a k ty vs) (hal : Z.vm.Alike vm) (ht : ty ≠ .byte) : Safe Z EL vm h a := by
  obtain ⟨n, d, ⟨cl, A1, -⟩, -⟩ := A
  exact Safe.arr hal A1 ht
theorem oJn {g : JFrame} {α : Type} (P : α → Prop) (F : α → JFrame) (k : ∀ r, P r → OG p e below s Z EL nb Q ck sk T (F r)) (u : (∀ r, P r → OG p e below s Z EL nb Q ck sk T (F r)) → OG p e below s Z EL nb Q ck sk T g) : OG p e below s Z EL nb Q ck sk T g := u k
theorem oNewA (W : OW p l e R s m args below meth c Z a0 EL nb own code ml ret nm vm T locs ce sl h) {aty : ArrayType} (w : (Jvm.Cond.arrayClass (newarray.typeOf aty)).before a0 Z = true) (hd : decode code pc = .ok (.newarray aty, 2)) {n : Int32} (hn : ¬ n < 0) {cap : Nat} (hcap : n.toNatClampNeg ≤ cap) (hb : cap * 8 ≤ 536870912) (hc : ce + 1 ≤ R.cells) (hl : sl + cap ≤ R.slots) :
    ∃ T' h' a k, OW p l e R s m args below meth c Z a0 EL nb own code ml ret nm vm T' locs (ce + 1) (sl + cap) h' ∧ h.size ≤ a ∧ Ext h h' ∧ OA Z h' a k (newarray.typeOf aty) (List.replicate n.toNatClampNeg (defaultValue (newarray.typeOf aty))) ∧ Safe Z EL vm h' a ∧ CHr Z EL vm h vm h' ∧
      Lt p e below T (mkF m pc ls (.int n :: st)) T' (mkF m (pc + 2) ls (.ref a :: st)) := by
  obtain ⟨T', h', cA, X', eT, E, A, st'⟩ := RoadKit.newP W.2.1 W.1.1 W.warm w W.heap (g := mkF m pc ls (.int n :: st)) rfl (oDec W hd) rfl hn hcap hb hc hl
  have hC : CHr Z EL vm h vm h' := CHr.ext E W.chv
  have F := (Arv.new A hn).pad (vs' := [] ++ List.replicate n.toNatClampNeg (defaultValue (newarray.typeOf aty))) (pad_rep [] _ _)
  exact ⟨T', h', h.size, cA, W.step X' eT hC W.fr (exT W.ext E), Nat.le_refl _, E, ⟨n, _, F, by simp⟩, (Safe.new (Nat.le_refl _)).ext E W.chv, hC, st'⟩
/-- the array's length and its components -/
theorem oLen (W : OW p l e R s m args below meth c Z a0 EL nb own code ml ret nm vm T locs ce sl h) {a : Addr} {k : ClassId} {ty : FieldType} {vs : List Value} (A : OA Z h a k ty vs) (hd : decode code pc = .ok (.arraylength, 1)) (K : OG p e below s Z EL nb Q ck sk T (mkF m (pc + 1) ls (.int vs.length.toInt32 :: st))) : OG p e below s Z EL nb Q ck sk T (mkF m pc ls (.ref a :: st)) := by
  obtain ⟨n, d, ⟨cl, A1, -, hs, -, -, -⟩, r⟩ := A
  refine oLift (fun t q => W.2.1.arraylength W.1.1 (cell := cl) (by rw [W.heap]; exact A1.1) (State.isArrayOf_alike W.warm.alike A1.2.1) (g := mkF m pc ls (.ref a :: st)) rfl rfl (oDec W hd) t ?_) K
  rw [hs, r]; exact q
theorem oGet (W : OW p l e R s m args below meth c Z a0 EL nb own code ml ret nm vm T locs ce sl h) {a : Addr} {k : ClassId} {ty : FieldType} {vs : List Value} (A : OA Z h a k ty vs) {j : Int32} {v : Value} (hj : ¬ j < 0) (hv : vs[j.toNatClampNeg]? = some v) {i : Instr}
    (hi : (i = .caload ∧ ty = .char) ∨ (i = .baload ∧ ty = .byte) ∨ (i = .iaload ∧ ty = .int) ∨ (i = .aaload ∧ ty.isReference = true)) (hd : decode code pc = .ok (i, 1)) (K : OG p e below s Z EL nb Q ck sk T (mkF m (pc + 1) ls (v :: st))) : OG p e below s Z EL nb Q ck sk T (mkF m pc ls (.int j :: .ref a :: st)) := by
  obtain ⟨n, d, ⟨cl, A1, -, hs, -, H, -⟩, r⟩ := A
  have hlt : j.toNatClampNeg < vs.length := (List.getElem?_eq_some_iff.mp hv).1
  have hin : ¬ (j < 0 ∨ cl.slots.size ≤ j.toNatClampNeg) := fun q => q.elim hj (fun q => by rw [hs, r] at q; omega)
  have hcv : cl.slots[j.toNatClampNeg]? = some v := Has.at H hin (by rw [List.getD_eq_getElem?_getD, hv]; rfl)
  have hA : (s.setVm vm).isArrayOf cl ty := State.isArrayOf_alike W.warm.alike A1.2.1
  have hce : T.heap[a]? = some cl := by rw [W.heap]; exact A1.1
  rcases hi with ⟨rfl, rfl⟩ | ⟨rfl, rfl⟩ | ⟨rfl, rfl⟩ | ⟨rfl, ht⟩
  · exact oLift (fun t q => W.2.1.caload W.1.1 hce hA A1.2.2 hin hcv (g := mkF m pc ls (.int j :: .ref a :: st)) rfl rfl (oDec W hd) t q) K
  · exact oLift (fun t q => W.2.1.baloadBytes W.1.1 hce hA A1.2.2 hin hcv (g := mkF m pc ls (.int j :: .ref a :: st)) rfl rfl (oDec W hd) t q) K
  · exact oLift (fun t q => W.2.1.iaload W.1.1 hce hA A1.2.2 hin hcv (g := mkF m pc ls (.int j :: .ref a :: st)) rfl rfl (oDec W hd) t q) K
  · exact oLift (fun t q => W.2.1.aaload W.1.1 hce hA ht A1.2.2 hin hcv (g := mkF m pc ls (.int j :: .ref a :: st)) rfl rfl (oDec W hd) t q) K
/-- a store into a char[], a byte[], an int[] made since the law began -/
theorem oPut (W : OW p l e R s m args below meth c Z a0 EL nb own code ml ret nm vm T locs ce sl h) {a : Addr} {k : ClassId} {ty : FieldType} {vs : List Value} (A : OA Z h a k ty vs) {j x x' : Int32} (hj : ¬ j < 0) {i : Nat} (hji : j.toNatClampNeg = i) (hlt : i < vs.length) (hfr : Z.heap.size ≤ a) (hS : Safe Z EL vm h a) {ins : Instr}
    (hi : (ins = .castore ∧ ty = .char ∧ nar .char x = x') ∨ (ins = .bastore ∧ ty = .byte ∧ nar .byte x = x') ∨ (ins = .iastore ∧ ty = .int ∧ x = x')) (hd : decode code pc = .ok (ins, 1)) :
    ∃ T' h', OW p l e R s m args below meth c Z a0 EL nb own code ml ret nm vm T' (locs ++ [⟨a, i⟩]) ce sl h' ∧ Wr h h' a i (.int x') ∧ OA Z h' a k ty (vs.set i (.int x')) ∧ CHr Z EL vm h vm h' ∧ Lt p e below T (mkF m pc ls (.int x :: .int j :: .ref a :: st)) T' (mkF m (pc + 1) ls st) := by
  obtain ⟨n, d, ⟨cl, A1, hk, hs, hn, H, G⟩, r⟩ := A
  subst hji
  have hin : ¬ (j < 0 ∨ cl.slots.size ≤ j.toNatClampNeg) := fun q => q.elim hj (fun q => by rw [hs, r] at q; omega)
  have key : ∀ {T' h'}, Stand p l e R (s.setVm vm) m args below meth c T' (locs ++ [⟨a, j.toNatClampNeg⟩]) ce sl → T'.heap = h' → Wr h h' a j.toNatClampNeg (.int x') → fits ty (.int x') = true → Lt p e below T (mkF m pc ls (.int x :: .int j :: .ref a :: st)) T' (mkF m (pc + 1) ls st) →
      ∃ T' h', OW p l e R s m args below meth c Z a0 EL nb own code ml ret nm vm T' (locs ++ [⟨a, j.toNatClampNeg⟩]) ce sl h' ∧ Wr h h' a j.toNatClampNeg (.int x') ∧ OA Z h' a k ty (vs.set j.toNatClampNeg (.int x')) ∧ CHr Z EL vm h vm h' ∧ Lt p e below T (mkF m pc ls (.int x :: .int j :: .ref a :: st)) T' (mkF m (pc + 1) ls st) := by
    intro T' h' X' eT Wr' hf st'
    have hC : CHr Z EL vm h vm h' := CHr.wr Wr' hS W.chv
    exact ⟨T', h', W.step X' eT hC (frS W.fr hfr) (exW W.ext Wr' hfr), Wr', ⟨n, d, Arv.set A1 hk hs hn H G hf Wr' _ rfl hlt, by simpa using r⟩, hC, st'⟩
  rcases hi with ⟨rfl, rfl, rfl⟩ | ⟨rfl, rfl, rfl⟩ | ⟨rfl, rfl, rfl⟩
  · obtain ⟨T', h', X', eT, Wr', st'⟩ := RoadKit.stC W.2.1 W.1.1 W.warm W.heap A1 hin (g := mkF m pc ls (.int x :: .int j :: .ref a :: st)) rfl rfl (oDec W hd)
    exact key X' eT Wr' (fits_nar_char _) st'
  · obtain ⟨T', h', X', eT, Wr', st'⟩ := RoadKit.stB W.2.1 W.1.1 W.warm W.heap A1 hin (g := mkF m pc ls (.int x :: .int j :: .ref a :: st)) rfl rfl (oDec W hd)
    exact key X' eT Wr' (fits_nar_byte _) st'
  · obtain ⟨T', h', X', eT, Wr', st'⟩ := RoadKit.stI W.2.1 W.1.1 W.warm W.heap A1 hin (g := mkF m pc ls (.int x :: .int j :: .ref a :: st)) rfl rfl (oDec W hd)
    exact key X' eT Wr' rfl st'
/-- fields -/
theorem oGetF (W : OW p l e R s m args below meth c Z a0 EL nb own code ml ret nm vm T locs ce sl h) {idx : Nat} {R0 O n d : String} (w : (Jvm.Cond.fieldLink own idx R0 n d).before a0 Z = true) (via : Via Z R0 O n d) {a : Addr} {v : Value} (F : Fld Z h a O n d v) (hd : decode code pc = .ok (.getfield idx, 3)) :
    ∃ T', OW p l e R s m args below meth c Z a0 EL nb own code ml ret nm vm T' locs ce sl h ∧ Lt p e below T (mkF m pc ls (.ref a :: st)) T' (mkF m (pc + 3) ls (v :: st)) := by
  obtain ⟨T', X', eT, st'⟩ := RoadKit.getF W.2.1 W.1.1 W.warm W.owns (host := "") (Or.inl w) via W.heap F (g := mkF m pc ls (.ref a :: st)) rfl rfl (oDec W hd)
  exact ⟨T', W.step X' eT (CHr.refl W.chv) W.fr W.ext, st'⟩
theorem oGetS (W : OW p l e R s m args below meth c Z a0 EL nb own code ml ret nm vm T locs ce sl h) {idx : Nat} {R0 O n d : String} (w : (Jvm.Cond.fieldLink own idx R0 n d).before a0 Z = true) (via : Via Z R0 O n d) {v : Value} (F : Sta Z h O n d v) (hd : decode code pc = .ok (.getstatic idx, 3)) :
    ∃ T', OW p l e R s m args below meth c Z a0 EL nb own code ml ret nm vm T' locs ce sl h ∧ Lt p e below T (mkF m pc ls st) T' (mkF m (pc + 3) ls (v :: st)) := by
  obtain ⟨T', X', eT, st'⟩ := RoadKit.getS (host := "") W.2.1 W.1.1 W.warm W.owns w via W.heap F (g := mkF m pc ls st) rfl (oDec W hd)
  exact ⟨T', W.step X' eT (CHr.refl W.chv) W.fr W.ext, st'⟩
theorem oPutF (W : OW p l e R s m args below meth c Z a0 EL nb own code ml ret nm vm T locs ce sl h) {idx kk : Nat} {R0 O n d C : String} {ty : FieldType} (w : (Jvm.Cond.fieldLink own idx R0 n d).before a0 Z = true) (via : Via Z R0 O n d) {a : Addr} {v old : Value} (F : Fld Z h a O n d old) (E : Exa Z h a C)
    (L : (Jvm.Cond.lays C O n d).before a0 Z = true ∨ ((Jvm.Cond.laysFinal C O n d).before a0 Z = true ∧ own = O ∧ nm = "<init>")) (wi : (Jvm.Cond.instantiable C kk).before a0 Z = true) (hty : parseFieldDescriptor d = some ty) (hn : narrow ty v = v) (hf : fits ty v = true) (hfr : Z.heap.size ≤ a) (hS : Safe Z EL vm h a) (hd : decode code pc = .ok (.putfield idx, 3)) :
    ∃ T' h', OW p l e R s m args below meth c Z a0 EL nb own code ml ret nm vm T' (locs ++ [⟨a, RoadKit.slotOf Z O n d⟩]) ce sl h' ∧ Wr h h' a (RoadKit.slotOf Z O n d) v ∧ Fld Z h' a O n d v ∧ Exa Z h' a C ∧ CHr Z EL vm h vm h' ∧ Lt p e below T (mkF m pc ls (v :: .ref a :: st)) T' (mkF m (pc + 3) ls st) := by
  obtain ⟨T', h', X', eT, Wr', st'⟩ := RoadKit.putF W.2.1 W.1.1 W.warm W.owns (host := "") (Or.inl w) via W.heap F E (L.imp id fun q => ⟨q.1, q.2.1, W.1.2.2.2.2.2.trans q.2.2⟩) wi hty hn hf (g := mkF m pc ls (v :: .ref a :: st)) rfl rfl (oDec W hd)
  have hC : CHr Z EL vm h vm h' := CHr.wr Wr' hS W.chv
  exact ⟨T', h', W.step X' eT hC (frS W.fr hfr) (exW W.ext Wr' hfr), Wr', F.same Wr', E.wr Wr', hC, st'⟩
theorem oCast (W : OW p l e R s m args below meth c Z a0 EL nb own code ml ret nm vm T locs ce sl h) {idx : Nat} {K : String} (w : (Jvm.Cond.classLink own idx K).before a0 Z = true) {a : Addr} (F : Ins Z h a K true) (hd : decode code pc = .ok (.checkcast idx, 3)) :
    ∃ T', OW p l e R s m args below meth c Z a0 EL nb own code ml ret nm vm T' locs ce sl h ∧ Lt p e below T (mkF m pc ls (.ref a :: st)) T' (mkF m (pc + 3) ls (.ref a :: st)) := by
  obtain ⟨T', X', eT, st'⟩ := RoadKit.castY W.2.1 W.1.1 W.warm W.owns w W.heap F (g := mkF m pc ls (.ref a :: st)) rfl rfl (oDec W hd)
  exact ⟨T', W.step X' eT (CHr.refl W.chv) W.fr W.ext, st'⟩
theorem oInst (W : OW p l e R s m args below meth c Z a0 EL nb own code ml ret nm vm T locs ce sl h) {idx : Nat} {K : String} (w : (Jvm.Cond.classLink own idx K).before a0 Z = true) {a : Addr} (F : Ins Z h a K true) (hd : decode code pc = .ok (.instanceof idx, 3)) :
    ∃ T', OW p l e R s m args below meth c Z a0 EL nb own code ml ret nm vm T' locs ce sl h ∧ Lt p e below T (mkF m pc ls (.ref a :: st)) T' (mkF m (pc + 3) ls (.int 1 :: st)) := by
  obtain ⟨T', X', eT, st'⟩ := RoadKit.instY W.2.1 W.1.1 W.warm W.owns w W.heap F (g := mkF m pc ls (.ref a :: st)) rfl rfl (oDec W hd)
  exact ⟨T', W.step X' eT (CHr.refl W.chv) W.fr W.ext, st'⟩
/-- Object.<init> -/
theorem oInit (W : OW p l e R s m args below meth c Z a0 EL nb own code ml ret nm vm T locs ce sl h) {idx : Nat} (w1 : (Jvm.Cond.methodLink own idx Lib.objectInit).before a0 Z = true) (w2 : (Jvm.Cond.instanceMethod Lib.objectInit).before a0 Z = true) (w3 : (Jvm.Cond.code Lib.objectInit ⟨#[0xb1]⟩ 1 none).before a0 Z = true) {a : Addr} (hsz : ls.size = ml) (hd : decode code pc = .ok (.invokespecial idx, 3))
    (hf : 1 ≤ R.frames) {V : Nat} (hW : (st.map fun v => v.category).sum ≤ V) (hl : V + 12 ≤ R.locals) :
    ∃ T', OW p l e R s m args below meth c Z a0 EL nb own code ml ret nm vm T' locs ce sl h ∧ Lt p e below T (mkF m pc ls (.ref a :: st)) T' (mkF m (pc + 3) ls st) := by
  obtain ⟨T', X', eT, st'⟩ := RoadKit.initO W.2.1 W.1.1 W.warm W.owns w1 w2 w3 W.heap (g := mkF m pc ls (.ref a :: st)) rfl (hsz.trans W.1.2.2.1.symm) rfl (oDec W hd) hf (W := V) (by show 2 * 0 + _ ≤ _; omega) hl
  exact ⟨T', W.step X' eT (CHr.refl W.chv) W.fr W.ext, st'⟩
/-- clone() of an array -/
theorem oClone (W : OW p l e R s m args below meth c Z a0 EL nb own code ml ret nm vm T locs ce sl h) {idx : Nat} {ad : String} (w1 : (Jvm.Cond.methodLink own idx ⟨ad, "clone", "()Ljava/lang/Object;"⟩).before a0 Z = true) (w2 : (Jvm.Cond.sameMethod ad "java/lang/Object" "clone" "()Ljava/lang/Object;").before a0 Z = true) (w3 : (Jvm.Cond.native ⟨"java/lang/Object", "clone", "()Ljava/lang/Object;"⟩).before a0 Z = true)
    (w4 : (Jvm.Cond.instanceMethod ⟨"java/lang/Object", "clone", "()Ljava/lang/Object;"⟩).before a0 Z = true) (w5 : (Jvm.Cond.selects ad ⟨ad, "clone", "()Ljava/lang/Object;"⟩ ⟨"java/lang/Object", "clone", "()Ljava/lang/Object;"⟩).before a0 Z = true) (w6 : (Jvm.Cond.castable ad "java/lang/Cloneable").before a0 Z = true)
    {a : Addr} {k : ClassId} {ty : FieldType} {vs : List Value} (A : OA Z h a k ty vs) (E : Exa Z h a ad) (hsz : ls.size = ml) (hd : decode code pc = .ok (.invokevirtual idx, 3)) (hf : 1 ≤ R.frames) {V cap : Nat} (hV : (st.map fun v => v.category).sum ≤ V) (hl : V + 14 ≤ R.locals) (hcap : vs.length ≤ cap) (hc : ce + 1 ≤ R.cells) (hs : sl + cap ≤ R.slots) :
    ∃ T' h' b, OW p l e R s m args below meth c Z a0 EL nb own code ml ret nm vm T' locs (ce + 1) (sl + cap) h' ∧ h.size ≤ b ∧ Ext h h' ∧ OA Z h' b k ty vs ∧ Exa Z h' b ad ∧ CHr Z EL vm h vm h' ∧ Lt p e below T (mkF m pc ls (.ref a :: st)) T' (mkF m (pc + 3) ls (.ref b :: st)) := by
  obtain ⟨n, d, F, r⟩ := A
  obtain ⟨T', h', X', eT, Ex, A', E', st'⟩ := RoadKit.cloneH W.2.1 W.1.1 W.warm W.owns w1 w2 w3 w4 w5 w6 W.heap F.arh E (g := mkF m pc ls (.ref a :: st)) rfl (hsz.trans W.1.2.2.1.symm) rfl (oDec W hd) hf (W := V) (by show 2 * 0 + _ ≤ _; omega) hl (cap := cap) (by rw [r]; exact hcap) hc hs
  have hC : CHr Z EL vm h vm h' := CHr.ext Ex W.chv
  exact ⟨T', h', h.size, W.step X' eT hC W.fr (exT W.ext Ex), Nat.le_refl _, Ex, ⟨n, d, A', r⟩, E', hC, st'⟩
/-- checkcast of null -/
theorem oCastN (W : OW p l e R s m args below meth c Z a0 EL nb own code ml ret nm vm T locs ce sl h) {idx : Nat} (hd : decode code pc = .ok (.checkcast idx, 3)) (K : OG p e below s Z EL nb Q ck sk T (mkF m (pc + 3) ls (.null :: st))) : OG p e below s Z EL nb Q ck sk T (mkF m pc ls (.null :: st)) :=
  oLift (fun t q => W.2.1.checkcastNull W.1.1 (g := mkF m pc ls (.null :: st)) rfl rfl (oDec W hd) t q) K
/-- a component of an array of references, the cell at hand -/
theorem oGetC (W : OW p l e R s m args below meth c Z a0 EL nb own code ml ret nm vm T locs ce sl h) {a : Addr} {cl : Cell} {ty : FieldType} (A : Arr Z h a cl ty) {j : Int32} {v : Value} (hin : ¬ (j < 0 ∨ cl.slots.size ≤ j.toNatClampNeg)) (hv : cl.slots[j.toNatClampNeg]? = some v) (ht : ty.isReference = true) (hd : decode code pc = .ok (.aaload, 1)) (K : OG p e below s Z EL nb Q ck sk T (mkF m (pc + 1) ls (v :: st))) : OG p e below s Z EL nb Q ck sk T (mkF m pc ls (.int j :: .ref a :: st)) :=
  oLift (fun t q => W.2.1.aaload W.1.1 (by rw [W.heap]; exact A.1) (State.isArrayOf_alike W.warm.alike A.2.1) ht A.2.2 hin hv (g := mkF m pc ls (.int j :: .ref a :: st)) rfl rfl (oDec W hd) t q) K
/-- an int constant -/
theorem oLdcI (W : OW p l e R s m args below meth c Z a0 EL nb own code ml ret nm vm T locs ce sl h) {idx : Nat} {v : Int32} (w : (Jvm.Cond.constant own idx v).before a0 Z = true) (hd : decode code pc = .ok (.ldc idx, 2)) (K : OG p e below s Z EL nb Q ck sk T (mkF m (pc + 2) ls (.int v :: st))) : OG p e below s Z EL nb Q ck sk T (mkF m pc ls st) :=
  oLift (fun t q => W.2.1.ldcInt W.1.1 W.owns (mvT W.warm w) (g := mkF m pc ls st) rfl (oDec W hd) t q) K
/-- a String constant, opaque -/
theorem oLdc (W : OW p l e R s m args below meth c Z a0 EL false own code ml ret nm vm T locs ce sl h) {idx : Nat} {text : String} (w : (Jvm.Cond.stringLink own idx text).before a0 Z = true) (wS : ∀ a ∈ Bundle.stringAtoms, a.before a0 Z = true) (hd : decode code pc = .ok (.ldc idx, 2)) {n : Nat} (hn : 4 * text.toList.length ≤ n) (hbig : n ≤ 536870912) (hc : ce + 2 ≤ R.cells) (hl : sl + (n + 4) ≤ R.slots) :
    ∃ a T' h' vm', OW p l e R s m args below meth c Z a0 EL false own code ml ret nm vm' T' locs (ce + 2) (sl + (n + 4)) h' ∧ Ext h h' ∧ CHr Z EL vm h vm' h' ∧ Lt p e below T (mkF m pc ls st) T' (mkF m (pc + 2) ls (.ref a :: st)) := by
  obtain ⟨g1, X, e0, ⟨k0, hS, hk⟩, hZ, ho, hC0, hF0, hE0, hn0, hEW⟩ := id W
  obtain ⟨a, T', h', k1, X', eT, E, hS', hk', hZ', ho', hC, -, st'⟩ := RoadKit.ldcOH X W.1.1 hZ ho w wS e0 hS hk hEW W.chv (g := mkF m pc ls st) rfl (oDec W hd) hn hbig hc hl
  exact ⟨a, T', h', T'.vm, ⟨g1, X', eT, ⟨k1, hS', hk'⟩, hZ', ho', hC0.trans hC, hF0, exT hE0 E, (fun q => by cases q), hEW⟩, E, hC, st'⟩
/-- a String constant of EL, read -/
theorem oLdcC (W : OW p l e R s m args below meth c Z a0 EL false own code ml ret nm vm T locs ce sl h) {idx : Nat} {text : String} (w : (Jvm.Cond.stringLink own idx text).before a0 Z = true) (wS : ∀ a ∈ Bundle.stringAtoms, a.before a0 Z = true) (hm : (own, idx) ∈ EL) {vs : List Value} {z : Int32} (ht : (∀ c ∈ text.toList, c.toNat < 256) ∧ text.toList.map (fun c => Value.int (Jvm.Lit.byteI c.toNat.toUInt16)) = vs) (hz : ¬ z < 0) (hzl : z.toNatClampNeg = vs.length)
    (hd : decode code pc = .ok (.ldc idx, 2)) {n : Nat} (hn : 4 * text.toList.length ≤ n) (hbig : n ≤ 536870912) (hc : ce + 2 ≤ R.cells) (hl : sl + (n + 4) ≤ R.slots) :
    ∃ a b k T' h' vm', OW p l e R s m args below meth c Z a0 EL false own code ml ret nm vm' T' locs (ce + 2) (sl + (n + 4)) h' ∧ Ext h h' ∧ CHr Z EL vm h vm' h' ∧ Exa Z h' a "java/lang/String" ∧ Fld Z h' a "java/lang/String" "coder" "B" (.int 0) ∧ Fld Z h' a "java/lang/String" "value" "[B" (.ref b) ∧ OA Z h' b k .byte vs ∧
      Lt p e below T (mkF m pc ls st) T' (mkF m (pc + 2) ls (.ref a :: st)) := by
  obtain ⟨g1, X, e0, ⟨k0, hS, hk⟩, hZ, ho, hC0, hF0, hE0, hn0, hEW⟩ := id W
  obtain ⟨a, T', h', k1, b, k, X', eT, E, hS', hk', hZ', ho', q1, q2, q3, q4, -, -, hC, -, -, st'⟩ := RoadKit.ldcCH X W.1.1 hZ ho w wS e0 hS hk hEW hm W.chv ht hz hzl (g := mkF m pc ls st) rfl (oDec W hd) hn hbig hc hl
  exact ⟨a, b, k, T', h', T'.vm, ⟨g1, X', eT, ⟨k1, hS', hk'⟩, hZ', ho', hC0.trans hC, hF0, exT hE0 E, (fun q => by cases q), hEW⟩, E, hC, q1, q2, q3, ⟨z, _, q4, hzl⟩, st'⟩
end Heaps
section Calls
variable {p : Program} {l : Launch} {e : Env} {R : Room} {s : State} {m : MethodId} {args : Array Value} {below : List Frame} {meth : Method} {c : Code} {Z : State} {a0 : Array Value} {EL : List (String × Nat)} {nb : Bool} {own : String} {code : ByteArray} {ml : Nat} {ret : Option FieldType} {nm : String} {vm : Vm} {T : State} {locs : List Loc} {ce sl : Nat} {h : Heap} {pc : Nat} {ls : Array Slot} {st : List Value}
  {y : MethodName} {bytes : ByteArray} {maxL : Nat} {ret' : Option FieldType} {rm : Room} {as' : Array Value} {sf : List Addr} {Q' : Option Value → Vm → Heap → Prop}
theorem oBack (W : OW p l e R s m args below meth c Z a0 EL nb own code ml ret nm vm T locs ce sl h) (hM : OC l Z EL nb [] y bytes maxL ret' rm as' h sf Q') (hsf : ∀ x ∈ sf, x < h.size ∧ Safe Z EL vm h x) (wc : (Jvm.Cond.code y bytes maxL ret').before a0 Z = true) (wz : (Jvm.Cond.initialized y.cls).before a0 Z = true) {len V : Nat} (hf : rm.frames + 1 ≤ R.frames) (hl : V + (maxL + 11) + rm.locals ≤ R.locals) :
    BackS l R p e below (s.setVm vm) args y len V (fun A a => a = as' ∧ A.U.heap = h ∧ A.cells + rm.cells ≤ R.cells ∧ A.slots + rm.slots ≤ R.slots)
      (fun A _ v B => ∃ L, (Q' v B.U.vm B.U.heap ∧ Fr Z.heap.size L ∧ Ext Z.heap B.U.heap) ∧ B.locs = A.locs ++ L ∧ B.cells = A.cells + rm.cells ∧ B.slots = A.slots + rm.slots ∧ CHr Z EL vm h B.U.vm B.U.heap ∧ (nb = true → A.U.WarmedH B.U.vm)) :=
  have hZ := W.warm
  have hEL : EW Z a0 EL := W.2.2.2.2.2.2.2.2.2.2
  have H := W.chv
  BackS.of_freeW (bytes := bytes) (maxL := maxL) (ret := ret') (E := fun _ first o t L k n => k = rm.cells ∧ n = rm.slots ∧ (∃ v, o = .returned v ∧ (Q' v t.vm t.heap ∧ Fr Z.heap.size L ∧ Ext Z.heap t.heap)) ∧ CHr Z EL first.vm first.heap t.vm t.heap ∧ (nb = true → first.WarmedH t.vm)) hM hf hl
    (fun m meth c A a Y hp => have hU : Z.Warmed39 A.U.vm := wtrans (s := s.setVm vm) hZ Y.warmed
      ⟨by show (Jvm.Cond.and _ .tt).before a A.U = true; rw [Cond.before_and, mv hU wc]; rfl, mv hU wc, mv hU wz, hp.2.2.1, hp.2.2.2⟩)
    (fun m meth c A a g mk Y hp => ⟨hp.1, wtrans (s := s.setVm vm) hZ Y.warmed, hp.2.1, (CHv.at Y hZ hEL H).1, W.ext, fun x hx => (CHv.at Y hZ hEL H).safe (hsf x hx).1 (hsf x hx).2⟩) (fun _ _ _ _ _ _ _ _ _ => trivial)
    (fun _ _ _ _ ⟨v, L, h1, h2, h2', h3, h4⟩ => ⟨L, _, _, h4, rfl, rfl, ⟨v, h1, h2⟩, h3, h2'⟩)
    (fun m meth c A a g mk v t L k n Y hp _ _ ⟨e1, e2, ⟨v', e3, e4⟩, e5, e6⟩ => by
      cases e3; subst e1 e2
      refine ⟨L, e4, rfl, rfl, rfl, (CHv.at Y hZ hEL H).trans ?_, e6⟩
      rw [← hp.2.1]; exact e5)
theorem oCalled (W : OW p l e R s m args below meth c Z a0 EL nb own code ml ret nm vm T locs ce sl h) {vm₁ : Vm} {B : Pt} {v : Option Value} {g g' : JFrame} (hW : (s.setVm vm).WarmedH vm₁) (X' : Stand p l e R ((s.setVm vm).setVm B.U.vm) m args below meth c B.U B.locs B.cells B.slots) (hS : (s.setVm vm).Since B.U.vm B.U.heap.size)
    (hP : ∃ L, (Q' v B.U.vm B.U.heap ∧ Fr Z.heap.size L ∧ Ext Z.heap B.U.heap) ∧ B.locs = locs ++ L ∧ B.cells = ce + rm.cells ∧ B.slots = sl + rm.slots ∧ CHr Z EL vm h B.U.vm B.U.heap ∧ (nb = true → (T.setVm vm₁).WarmedH B.U.vm)) (st' : Steps p.tables e below (T.setTop g) (B.U.setTop g')) :
    ∃ T' L h' vm', OW p l e R s m args below meth c Z a0 EL nb own code ml ret nm vm' T' (locs ++ L) (ce + rm.cells) (sl + rm.slots) h' ∧ Q' v vm' h' ∧ CHr Z EL vm h vm' h' ∧ Lt p e below T g T' g' := by
  obtain ⟨U, Lc, cc, ss⟩ := B
  obtain ⟨L, ⟨q1, q2, q3⟩, q4, q5, q6, q7, q8⟩ := hP
  dsimp only [Pt.U, Pt.locs, Pt.cells, Pt.slots] at *
  subst q4 q5 q6
  obtain ⟨g1, X, e0, ⟨k0, hS0, hk⟩, hZ, ho, hC0, hF0, hE0, hn0, hEW⟩ := W
  refine ⟨U, L, U.heap, U.vm, ⟨g1, X', rfl, ⟨_, hS0.trans hS (Nat.le_trans hk q7.2.1), Nat.le_refl _⟩, State.Warmed39.trans (t := s.setVm vm) hZ hS.1, (hS.1.alike.findClass _ _).trans ho, hC0.trans q7, hF0.app q2, q3, fun q => ?_, hEW⟩, q1, q7, fun t k => st'.trans k⟩
  exact State.WarmedH.trans (t := T.setVm vm₁) (State.WarmedH.trans (t := s.setVm vm) (hn0 q) hW) (q8 q)
/-- a static method by its contract -/
theorem oCallS (W : OW p l e R s m args below meth c Z a0 EL nb own code ml ret nm vm T locs ce sl h) {idx : Nat} {argsL : List Value} (hM : OC l Z EL nb [] y bytes maxL ret' rm argsL.toArray h sf Q') (hsf : ∀ x ∈ sf, x < h.size ∧ Safe Z EL vm h x) (w1 : (Jvm.Cond.methodLink own idx y).before a0 Z = true) (w2 : (Jvm.Cond.static y).before a0 Z = true) (wz : (Jvm.Cond.initialized y.cls).before a0 Z = true) (wc : (Jvm.Cond.code y bytes maxL ret').before a0 Z = true)
    (hy : y.cls ≠ "java/lang/invoke/MethodHandle" ∧ y.cls ≠ "java/lang/invoke/VarHandle") {na : Nat} (hna : argsL.length = na) (har : XT.arity y.desc = some na) (hsz : ls.size = ml) {stk : List Value} (hst : stk = argsL.reverse ++ st) (hd : decode code pc = .ok (.invokestatic idx, 3))
    {V : Nat} (hV : (st.map fun v => v.category).sum ≤ V) (hf : rm.frames + 1 ≤ R.frames) (hl : V + (maxL + 11) + rm.locals ≤ R.locals) (hc : ce + rm.cells ≤ R.cells) (hs : sl + rm.slots ≤ R.slots) :
    ∃ v T' L h' vm', OW p l e R s m args below meth c Z a0 EL nb own code ml ret nm vm' T' (locs ++ L) (ce + rm.cells) (sl + rm.slots) h' ∧ Q' v vm' h' ∧ CHr Z EL vm h vm' h' ∧ Lt p e below T (mkF m pc ls stk) T' (mkF m (pc + 3) ls (v.toList ++ st)) := by
  obtain ⟨v, vm₁, B, hW, X', hS, hgr, hP, st'⟩ := RoadKit.callSS W.2.1 W.1.1 (y := y) W.owns (mvT W.warm w1) (mvT W.warm w2) (mvT W.warm wz) (mvT W.warm wc) hy (oBack W hM hsf wc wz hf hl) (g := mkF m pc ls stk) rfl (hsz.trans W.1.2.2.1.symm) (argsL := argsL) (rest := st) (XT.arity_len har hna) hst (by show 2 * 0 + _ ≤ _; omega) (oDec W hd) (fun _ _ => ⟨rfl, W.heap, hc, hs⟩)
  exact ⟨v, oCalled W hW X' hS hP st'⟩
/-- a constructor by its contract -/
theorem oCallN (W : OW p l e R s m args below meth c Z a0 EL nb own code ml ret nm vm T locs ce sl h) {idx : Nat} {argsL : List Value} {a : Addr} (hM : OC l Z EL nb [] y bytes maxL none rm (.ref a :: argsL).toArray h sf Q') (hsf : ∀ x ∈ sf, x < h.size ∧ Safe Z EL vm h x) (hy1 : y.name = "<init>") (w1 : (Jvm.Cond.methodLink own idx y).before a0 Z = true) (w2 : (Jvm.Cond.instanceMethod y).before a0 Z = true) (wz : (Jvm.Cond.initialized y.cls).before a0 Z = true) (wc : (Jvm.Cond.code y bytes maxL none).before a0 Z = true)
    (hy : y.cls ≠ "java/lang/invoke/MethodHandle" ∧ y.cls ≠ "java/lang/invoke/VarHandle") {na : Nat} (hna : argsL.length = na) (har : XT.arity y.desc = some na) (hsz : ls.size = ml) {stk : List Value} (hst : stk = argsL.reverse ++ .ref a :: st) (hd : decode code pc = .ok (.invokespecial idx, 3))
    {V : Nat} (hV : (st.map fun v => v.category).sum ≤ V) (hf : rm.frames + 1 ≤ R.frames) (hl : V + (maxL + 11) + rm.locals ≤ R.locals) (hc : ce + rm.cells ≤ R.cells) (hs : sl + rm.slots ≤ R.slots) :
    ∃ v T' L h' vm', OW p l e R s m args below meth c Z a0 EL nb own code ml ret nm vm' T' (locs ++ L) (ce + rm.cells) (sl + rm.slots) h' ∧ Q' v vm' h' ∧ CHr Z EL vm h vm' h' ∧ Lt p e below T (mkF m pc ls stk) T' (mkF m (pc + 3) ls (v.toList ++ st)) := by
  obtain ⟨v, vm₁, B, hW, X', hS, hgr, hP, st'⟩ := W.2.1.specialBackS W.1.1 (y := y) hy1 W.owns (mvT W.warm w1) (mvT W.warm w2) (mvT W.warm wc) hy (oBack W hM hsf wc wz hf hl) (g := mkF m pc ls stk) rfl (hsz.trans W.1.2.2.1.symm) (Steps.refl _) (a := a) (argsL := argsL) (rest := st) (XT.arity_len har hna) hst (by show 2 * 0 + _ ≤ _; omega) (oDec W hd) (fun _ _ => ⟨rfl, W.heap, hc, hs⟩)
  exact ⟨v, oCalled W hW X' hS hP st'⟩
/-- an instance method by its contract -/
theorem oCallV (W : OW p l e R s m args below meth c Z a0 EL nb own code ml ret nm vm T locs ce sl h) {idx : Nat} {x : MethodName} {C : String} {argsL : List Value} {a : Addr} (E : Exa Z h a C) (hM : OC l Z EL nb [] y bytes maxL ret' rm (.ref a :: argsL).toArray h sf Q') (hsf : ∀ x ∈ sf, x < h.size ∧ Safe Z EL vm h x) (w1 : (Jvm.Cond.methodLink own idx x).before a0 Z = true) (w2 : (Jvm.Cond.declares x).before a0 Z = true) (nf : NotFace (s.setVm vm) x) (w3 : (Jvm.Cond.selects C x y).before a0 Z = true) (w4 : (Jvm.Cond.instanceMethod y).before a0 Z = true) (wz : (Jvm.Cond.initialized y.cls).before a0 Z = true) (wc : (Jvm.Cond.code y bytes maxL ret').before a0 Z = true)
    (hy : x.cls ≠ "java/lang/invoke/MethodHandle" ∧ x.cls ≠ "java/lang/invoke/VarHandle") {na : Nat} (hna : argsL.length = na) (har : XT.arity x.desc = some na) (hsz : ls.size = ml) {stk : List Value} (hst : stk = argsL.reverse ++ .ref a :: st) (hd : decode code pc = .ok (.invokevirtual idx, 3))
    {V : Nat} (hV : (st.map fun v => v.category).sum ≤ V) (hf : rm.frames + 1 ≤ R.frames) (hl : V + (maxL + 11) + rm.locals ≤ R.locals) (hc : ce + rm.cells ≤ R.cells) (hs : sl + rm.slots ≤ R.slots) :
    ∃ v T' L h' vm', OW p l e R s m args below meth c Z a0 EL nb own code ml ret nm vm' T' (locs ++ L) (ce + rm.cells) (sl + rm.slots) h' ∧ Q' v vm' h' ∧ CHr Z EL vm h vm' h' ∧ Lt p e below T (mkF m pc ls stk) T' (mkF m (pc + 3) ls (v.toList ++ st)) := by
  obtain ⟨cB, kB, i1, i2, i3⟩ := isOf (s := s.setVm vm) (T := T) W.warm W.heap E
  obtain ⟨v, vm₁, B, hW, X', hS, hgr, hP, st'⟩ := W.2.1.virtualBackS W.1.1 (y := x) (z := y) W.owns (mvT W.warm w1) (mvT W.warm w2) nf (mvT W.warm w3) (mvT W.warm w4) hy (oBack W hM hsf wc wz hf hl) i1 i3 (g := mkF m pc ls stk) rfl (hsz.trans W.1.2.2.1.symm) (Steps.refl _) (argsL := argsL) (rest := st) (XT.arity_len har hna) hst (by show 2 * 0 + _ ≤ _; omega) (oDec W hd) (fun _ _ => ⟨rfl, W.heap, hc, hs⟩)
  exact ⟨v, oCalled W hW X' hS hP st'⟩
end Calls
end Jvm.OwnK
namespace Jvm.OwnK
open Jvm Sem ClassFile Op Lib Jvm.Stand Jvm.Free Jvm.LawKit Jvm.RoadKit Bundle
theorem n_lt {a b : Nat} (ha : a < 2147483648) (hb : b < 2147483648) : Int32.ofNat a < Int32.ofNat b ↔ a < b := by
  rw [Int32.lt_iff_toInt_lt, Int32.toInt_ofNat_small ha, Int32.toInt_ofNat_small hb]; omega
theorem n_nn {a : Nat} (ha : a < 2147483648) : ¬ Int32.ofNat a < 0 := by
  rw [Int32.lt_iff_toInt_lt, Int32.toInt_ofNat_small ha]
  show ¬ ((a : Int) < 0)
  omega
theorem n_cl {a : Nat} (ha : a < 2147483648) : (Int32.ofNat a).toNatClampNeg = a := by
  rw [← Int32.toNat_toInt, Int32.toInt_ofNat_small ha]; rfl
theorem n_in (a : Nat) : Int32.ofNat a + 1 = Int32.ofNat (a + 1) := by rw [Int32.ofNat_add]; rfl
theorem nar_b (x : Int32) : nar .byte x.toInt8.toInt32 = x.toInt8.toInt32 := by
  show x.toInt8.toInt32.toInt8.toInt32 = _
  rw [Int8.toInt8_toInt32]
theorem nar_c (x : Int32) : nar .char x.toUInt32.toUInt16.toUInt32.toInt32 = x.toUInt32.toUInt16.toUInt32.toInt32 := by
  show x.toUInt32.toUInt16.toUInt32.toInt32.toUInt32.toUInt16.toUInt32.toInt32 = _
  rw [UInt32.toUInt32_toInt32, UInt16.toUInt16_toUInt32]
theorem nar_z {x : Int32} (h : x = 0 ∨ x = 1) : nar .boolean x = x := by rcases h with rfl | rfl <;> rfl
/-- a char of 0 to 255 is what i2c makes of it -/
theorem i2c_255 (x : Int32) : (x &&& 255).toUInt32.toUInt16.toUInt32.toInt32 = x &&& 255 := i2c_mask x
theorem m255 (x : Int32) : ¬ (x &&& 255) < 0 ∧ ¬ (255 : Int32) < (x &&& 255) := by
  have h := c_and x 255 (by decide)
  constructor
  · rw [Int32.lt_iff_toInt_lt]; exact Int.not_lt.mpr h.1
  · rw [Int32.lt_iff_toInt_lt]; exact Int.not_lt.mpr h.2
theorem own_nar255 (x : Int32) : nar .char (x &&& 255) = x &&& 255 := i2c_mask x
theorem own_all1 {P : Int32 → Prop} {a : Int32} (ha : P a) : ∀ c ∈ [a], P c := fun c hc => by cases List.mem_singleton.mp hc; exact ha
theorem own_all2 {P : Int32 → Prop} {a b : Int32} (ha : P a) (hb : P b) : ∀ c ∈ [a, b], P c := fun c hc => by
  rcases List.mem_cons.mp hc with rfl | hc
  · exact ha
  · exact own_all1 hb c hc
theorem own_all3 {P : Int32 → Prop} {a b c : Int32} (ha : P a) (hb : P b) (hc : P c) : ∀ x ∈ [a, b, c], P x := fun x hx => by
  rcases List.mem_cons.mp hx with rfl | hx
  · exact ha
  · exact own_all2 hb hc x hx
theorem own_all4 {P : Int32 → Prop} {a b c d : Int32} (ha : P a) (hb : P b) (hc : P c) (hd : P d) : ∀ x ∈ [a, b, c, d], P x := fun x hx => by
  rcases List.mem_cons.mp hx with rfl | hx
  · exact ha
  · exact own_all3 hb hc hd x hx
theorem narC {c : Int32} (h : ¬ c < 0 ∧ ¬ (255 : Int32) < c) : nar .char c = c := by
  have e := c_i2c c
  simp only [Int32.lt_iff_toInt_lt] at h
  have k0 : (0 : Int32).toInt = 0 := rfl
  have k1 : (255 : Int32).toInt = 255 := rfl
  rw [k0, k1] at h
  apply Int32.toInt_inj.mp
  show (c.toUInt32.toUInt16.toUInt32.toInt32).toInt = c.toInt
  omega
theorem shr0 (x : Int32) : x >>> ((0 : Int32) &&& 31) = x := by
  apply Int32.toInt_inj.mp
  rw [c_ishr x 0 0 (by decide)]
  simp
theorem own_len0 {cs : List Int32} (hl : cs.length ≤ 4000) (h : Int32.ofNat cs.length = 0) : cs = [] := by
  have := congrArg Int32.toNatClampNeg h
  rw [n_cl (by omega)] at this
  exact List.length_eq_zero_iff.mp (by simpa using this)
theorem own_ltn {i : Int32} (hi : ¬ i < 0) {n : Nat} (hl : n ≤ 4000) (h : i.toNatClampNeg < n) : i < Int32.ofNat n := by
  have e := (back32 hi).1
  rw [← e]
  exact (n_lt (by omega) (by omega)).mpr h
/-- a byte read back as a char -/
theorem own_lo8c {c : Int32} (h : ¬ c < 0 ∧ ¬ (255 : Int32) < c) : (c.toInt8.toInt32 &&& (255 : Int32)).toUInt32.toUInt16.toUInt32.toInt32 = c := by
  rw [i2c_mask]
  have e := c_i2b c
  have m := c_mask c.toInt8.toInt32 255 8 (by decide) (by decide)
  simp only [Int32.lt_iff_toInt_lt] at h
  have k0 : (0 : Int32).toInt = 0 := rfl
  have k1 : (255 : Int32).toInt = 255 := rfl
  rw [k0, k1] at h
  apply Int32.toInt_inj.mp
  rw [m]
  have k2 : ((2 ^ 8 : Nat) : Int) = 256 := by decide
  rw [k2]
  omega
theorem refNarA {v : Value} (h : v.isRef = true) (t : FieldType) : narrow (.array t) v = v := by cases v <;> simp_all [Value.isRef] <;> rfl
theorem refFitsA {v : Value} (h : v.isRef = true) (t : FieldType) : fits (.array t) v = true := by cases v <;> simp_all [Value.isRef] <;> rfl
theorem refNar {v : Value} (h : v.isRef = true) (C : String) : narrow (.object C) v = v := by cases v <;> simp_all [Value.isRef] <;> rfl
theorem refFits {v : Value} (h : v.isRef = true) (C : String) : fits (.object C) v = true := by cases v <;> simp_all [Value.isRef] <;> rfl
theorem safe0 {Z : State} {vm : Vm} {h : Heap} {x : Addr} : Safe Z [] vm h x := fun ⟨p, hp, _⟩ => by cases hp
theorem refCat {v : Value} (h : v.isRef = true) : v.category = 1 := by cases v <;> simp_all [Value.isRef, Value.category]
theorem own_fold : ∀ (vs : List Value) (acc : Array Slot), (∀ v ∈ vs, v.category = 1) → vs.foldl (fun acc v => if v.category = 2 then (acc.push (.val v)).push .second else acc.push (.val v)) acc = acc ++ (vs.map Slot.val).toArray
  | [], acc, _ => by simp
  | v :: vs, acc, h => by
    have hv : ¬ v.category = 2 := by rw [h v (List.mem_cons_self ..)]; decide
    rw [List.foldl_cons, if_neg hv, own_fold vs _ (fun w hw => h w (List.mem_cons_of_mem _ hw))]
    simp
theorem own_ef {m : MethodId} {vs : List Value} {n : Nat} (h : ∀ v ∈ vs, v.category = 1) : entryFrame m vs.toArray n = mkF m 0 ((vs.map Slot.val).toArray ++ Array.replicate (n - vs.length) .unset) [] := by
  have e := own_fold vs #[] h
  simp only [entryFrame, mkF, argsToLocals, List.foldl_toArray', List.size_toArray]
  rw [e]
  simp
theorem own_isR (a : Addr) : (Value.ref a).isRef = true := rfl
theorem own_isN : Value.null.isRef = true := rfl
theorem own_caR (a : Addr) : (Value.ref a).category = 1 := rfl
theorem own_caN : Value.null.category = 1 := rfl
theorem own_caI (z : Int32) : (Value.int z).category = 1 := rfl
end Jvm.OwnK
namespace Jvm.OwnK
open Jvm Sem ClassFile Op Lib Jvm.Stand Jvm.Free Jvm.LawKit Jvm.RoadKit Bundle
section Start
variable {args : Array Value} {s : State} {a b t u : Term}
/-- what an equation of the sheet says of its first side -/
theorem eqv {y : Value} (h : (Jvm.Cond.eq a b).value args s none s [] = some true) (hb : b.eval args s none [] s = some y) (hy : y.isRef = true ∨ ∃ n, y = .int n) : a.eval args s none [] s = some y := by
  obtain ⟨x, y', h1, h2, -, -⟩ := cmp_v (Or.inl h)
  cases h2.symm.trans hb
  rw [h1]
  rcases hy with hy | ⟨n, rfl⟩
  · cases x <;> cases y <;> simp_all [Cond.value, Value.isRef]
  · cases x <;> simp_all [Cond.value]
/-- an array that stood at the start, its length and its components told by the sheet -/
theorem arrStart (hf : Fit s) {va : Addr} {ty : FieldType} (ht : t.eval args s none [] s = some (.ref va)) (h1 : (Jvm.Cond.arrayOf t ty).value args s none s [] = some true) {n : Nat} (hn : n < 2147483648) (h2 : (Jvm.Cond.eq (.length t) (.int (Int32.ofNat n))).value args s none s [] = some true)
    {vs : List Value} (hl : vs.length = n) (H : ∀ c, s.heap[va]? = some c → HasL c 0 vs) : ∃ k, OA s s.heap va k ty vs := by
  obtain ⟨c, A⟩ := Arr.start ht h1
  have hlen : (Term.length t).eval args s none [] s = some (.int (Int32.ofNat n)) := eqv h2 rfl (Or.inr ⟨_, rfl⟩)
  obtain ⟨sd, SA, hev, harrAt, -⟩ := Term.length_spec hlen
  have e0 : sd = va := by have := hev.symm.trans ht; injection this with q; injection q
  subst e0
  have h31 := SBG.length_lt hev harrAt hlen
  have hA : s.arrayAt? sd = some c := A.fin (U := s) (Vm.Alike.refl _)
  cases harrAt.symm.trans hA
  have e : (Term.length t).eval args s none [] s = some (.int c.slots.size.toInt32) := len_f hev hA h31
  have e2 : c.slots.size.toInt32 = Int32.ofNat n := by have := e.symm.trans hlen; injection this with q; injection q
  exact ⟨c.cls, Int32.ofNat n, .int 0, Arv.start hf A h31 e2 (n_nn hn) (by rw [n_cl hn, hl]) (H c A.1), by rw [n_cl hn, hl]⟩
end Start
end Jvm.OwnK
namespace Jvm.Pilot.@@N@@
open Jvm Jvm.ClassFile Sem Op Lib Jvm.Free Jvm.Stand Jvm.LawKit Jvm.RoadKit Bundle Jvm.Pilot.@@N@@.Jvm.D Jvm.OwnK
section OwnStr
abbrev mI1 : MethodName := ⟨"java/lang/String", "<init>", "([C)V"⟩
abbrev mI4 : MethodName := ⟨"java/lang/String", "<init>", "([CIILjava/lang/Void;)V"⟩
abbrev mC3 : MethodName := ⟨"java/lang/StringUTF16", "compress", "([CII)[B"⟩
abbrev mC5 : MethodName := ⟨"java/lang/StringUTF16", "compress", "([CI[BII)I"⟩
abbrev mCL : MethodName := ⟨"java/lang/StringUTF16", "coderFromArrayLen", "([BI)B"⟩
/-- the words on String's constructor -/
def sW : List Jvm.Cond := [.methodLink "java/lang/String" 27 mI4, .instanceMethod mI4, .code mI4 jdk_42_method_149_code 6 none, .methodLink "java/lang/String" 1 ⟨"java/lang/Object", "<init>", "()V"⟩, .instanceMethod ⟨"java/lang/Object", "<init>", "()V"⟩, .code ⟨"java/lang/Object", "<init>", "()V"⟩ object_method_1_code 1 none,
  .fieldLink "java/lang/String" 38 "java/lang/String" "COMPACT_STRINGS" "Z", .methodLink "java/lang/String" 177 mC3, .static mC3, .initialized "java/lang/StringUTF16", .code mC3 jdk_52_method_16_code 6 (some (.array .byte)), .arrayClass .byte,
  .methodLink "java/lang/StringUTF16" 115 mC5, .static mC5, .code mC5 jdk_52_method_21_code 7 (some .int), .methodLink "java/lang/String" 47 mCL, .static mCL, .code mCL jdk_52_method_15_code 2 (some .byte),
  .fieldLink "java/lang/String" 15 "java/lang/String" "coder" "B", .laysFinal "java/lang/String" "java/lang/String" "coder" "B", .fieldLink "java/lang/String" 9 "java/lang/String" "value" "[B", .laysFinal "java/lang/String" "java/lang/String" "value" "[B", .initialized "java/lang/String", .instantiable "java/lang/String" 4, .code mI1 jdk_42_method_3_code 2 none]
theorem sW_in : ∀ d ∈ sW, d ∈ tables_1 := by decide +kernel
/-- a String of Latin-1 chars -/
def Str (Z : State) (h : Heap) (x : Addr) (cs : List Int32) : Prop := ∃ t k, Exa Z h x "java/lang/String" ∧ Fld Z h x "java/lang/String" "coder" "B" (.int 0) ∧ Fld Z h x "java/lang/String" "value" "[B" (.ref t) ∧ OA Z h t k .byte (cs.map fun c => Value.int c.toInt8.toInt32) ∧ ∀ c ∈ cs, ¬ c < 0 ∧ ¬ (255 : Int32) < c
theorem Str.ext {Z : State} {h h' : Heap} {x : Addr} {cs : List Int32} (F : Str Z h x cs) (E : Ext h h') : Str Z h' x cs := by
  obtain ⟨t, k, h1, h2, h3, h4, h5⟩ := F
  exact ⟨t, k, h1.ext E, h2.ext E, h3.ext E, h4.ext E, h5⟩
theorem Str.exa {Z : State} {h : Heap} {x : Addr} {cs : List Int32} (F : Str Z h x cs) : Exa Z h x "java/lang/String" := by obtain ⟨t, k, h1, -⟩ := F; exact h1
variable {l : Launch} {Z : State} {a0 : Array Value} {EL : List (String × Nat)} {nb : Bool} {h0 : Heap}
/-- what every String call leans on -/
def SC (Z : State) (a0 : Array Value) (EL : List (String × Nat)) : Prop := (∀ d ∈ sW, d.before a0 Z = true) ∧ EW Z a0 EL ∧ ∃ z, Sta Z Z.heap "java/lang/String" "COMPACT_STRINGS" "Z" (.int z) ∧ ¬ z = 0
abbrev rm0 : Room := { frames := 0, cells := 0, slots := 0, locals := 0 }
theorem k_CL (hE : EW Z a0 EL) {t : Addr} {k : ClassId} {vs : List Value} {n : Int32} (A : OA Z h0 t k .byte vs) :
    OC l Z EL nb [] mCL jdk_52_method_15_code 2 (some .byte) rm0 #[.ref t, .int n] h0 [] (fun v _ h => v = some (.int (XT.ushr (n - vs.length.toInt32) (31 : Int32)).toInt8.toInt32) ∧ h = h0) := by
  refine oEnter (by decide +kernel) hE ?_
  intro p e s m below meth c T0 W0 _
  refine oEq (g' := mkF m 0 #[.val (.ref t), .val (.int n)] []) (by first | (simp [entryFrame, mkF, argsToLocals, Value.category]; done) | rfl) ?_
  refine oGo W0 [.iload_n 1, .aload_n 0] (by decide +kernel) (ls' := #[.val (.ref t), .val (.int n)]) (st' := [.ref t, .int n]) rfl rfl (pc' := 2) rfl ?_
  refine oLen W0 A (by decide +kernel) ?_
  refine oGo W0 [.isub, .bipush 31, .iushr, .i2b] (by decide +kernel) (ls' := #[.val (.ref t), .val (.int n)]) (st' := [.int (XT.ushr (n - vs.length.toInt32) (31 : Int32)).toInt8.toInt32]) rfl rfl (pc' := 8) rfl ?_
  exact oRetN (by simp) W0 (nar_b _) (by decide +kernel) (lb rfl) (lb rfl) (fun _ _ => ⟨rfl, rfl⟩)
def bigAt : List Int32 → Nat
  | [] => 0
  | c :: cs => if (255 : Int32) < c then 0 else bigAt cs + 1
theorem bigAt_all : ∀ {cs : List Int32}, (∀ c ∈ cs, ¬ (255 : Int32) < c) → bigAt cs = cs.length
  | [], _ => rfl
  | c :: cs, h => by
    rw [bigAt, if_neg (h c (List.mem_cons_self ..)), bigAt_all (fun d hd => h d (List.mem_cons_of_mem _ hd)), List.length_cons]
theorem bigAt_at : ∀ {cs : List Int32} {k : Nat} (hk : k < cs.length), (∀ c ∈ cs.take k, ¬ (255 : Int32) < c) → (255 : Int32) < cs[k] → bigAt cs = k
  | [], k, hk, _, _ => absurd hk (Nat.not_lt_zero _)
  | c :: cs, 0, hk, _, hb => by rw [bigAt, if_pos (by simpa using hb)]
  | c :: cs, k + 1, hk, h, hb => by
    rw [List.take_succ_cons] at h
    rw [bigAt, if_neg (h c (List.mem_cons_self ..)), bigAt_at (k := k) (by simpa using hk) (fun d hd => h d (List.mem_cons_of_mem _ hd)) (by simpa using hb)]
def Q5 (Z : State) (h0 : Heap) (d : Addr) (kd : ClassId) (cs : List Int32) (v : Option Value) (_ : Vm) (h : Heap) : Prop := v = some (.int (Int32.ofNat (bigAt cs))) ∧ Keep h0 h [d] ∧ (bigAt cs = cs.length → OA Z h d kd .byte (cs.map fun c => Value.int c.toInt8.toInt32))
theorem set_step {cs : List Int32} {k r : Nat} (hk : k + (r + 1) = cs.length) (hlt : k < cs.length) :
    ((cs.take k).map (fun c : Int32 => Value.int c.toInt8.toInt32) ++ List.replicate (r + 1) (Value.int 0)).set k (Value.int cs[k].toInt8.toInt32) = (cs.take (k + 1)).map (fun c : Int32 => Value.int c.toInt8.toInt32) ++ List.replicate r (Value.int 0) := by
  have e1 : ((cs.take k).map (fun c : Int32 => Value.int c.toInt8.toInt32)).length = k := by simp; omega
  rw [List.set_append_right _ _ (by omega), e1, Nat.sub_self, List.replicate_succ, List.set_cons_zero, List.take_succ_eq_append_getElem hlt, List.map_append, List.append_assoc]
  rfl
theorem k_C5_loop {p : Program} {e : Env} {R : Room} {s : State} {m : MethodId} {args : Array Value} {below : List Frame} {meth : Method} {c : Code} {nm : String} {ck sk : Nat} {b d : Addr} {kb kd : ClassId} {cs : List Int32} (hl : cs.length < 2147483648) (hbd : b ≠ d) (hdf : Z.heap.size ≤ d) :
    ∀ (r k : Nat), k + r = cs.length → ∀ {vm : Vm} {T : State} {locs : List Loc} {h : Heap} {s6 : Slot}, OW p l e R s m args below meth c Z a0 EL nb "java/lang/StringUTF16" jdk_52_method_21_code 7 (some .int) nm vm T locs 0 0 h → OA Z h b kb .char (cs.map Value.int) →
      OA Z h d kd .byte ((cs.take k).map (fun c : Int32 => Value.int c.toInt8.toInt32) ++ List.replicate r (.int 0)) → Safe Z EL vm h d → Keep h0 h [d] → (∀ c ∈ cs.take k, ¬ (255 : Int32) < c) → (s6 = .unset ∨ ∃ x, s6 = .val (.int x)) →
      OG p e below s Z EL nb (Q5 Z h0 d kd cs) ck sk T (mkF m 3 #[.val (.ref b), .val (.int (Int32.ofNat k)), .val (.ref d), .val (.int (Int32.ofNat k)), .val (.int (Int32.ofNat cs.length)), .val (.int (Int32.ofNat k)), s6] [])
  | 0, k, hk, _, T, locs, h, s6, W, A, B, S, K, hsm, h6 => by
    have hkl : k = cs.length := by omega
    subst hkl
    refine oGo W [.iload 5, .iload 4] (by decide +kernel) (ls' := #[.val (.ref b), .val (.int (Int32.ofNat cs.length)), .val (.ref d), .val (.int (Int32.ofNat cs.length)), .val (.int (Int32.ofNat cs.length)), .val (.int (Int32.ofNat cs.length)), s6]) (st' := [.int (Int32.ofNat cs.length), .int (Int32.ofNat cs.length)]) rfl rfl (pc' := 7) rfl ?_
    refine oIcT W (cd := .ge) (o := 37) (by decide +kernel) (XT.ii_ge_t (fun q => Int32.lt_irrefl q)) (pc' := 44) (by decide) (by decide) ?_
    refine oGo W [.iload 4] (by decide +kernel) (ls' := #[.val (.ref b), .val (.int (Int32.ofNat cs.length)), .val (.ref d), .val (.int (Int32.ofNat cs.length)), .val (.int (Int32.ofNat cs.length)), .val (.int (Int32.ofNat cs.length)), s6]) (st' := [.int (Int32.ofNat cs.length)]) rfl rfl (pc' := 46) rfl ?_
    rw [List.take_length] at hsm B
    have hb := bigAt_all hsm
    exact oRetI W (by decide +kernel) (Nat.zero_le _) (Nat.zero_le _) (fun _ _ => ⟨by rw [hb], K, fun _ => by simpa using B⟩)
  | r + 1, k, hk, _, T, locs, h, s6, W, A, B, S, K, hsm, h6 => by
    have hlt : k < cs.length := by omega
    refine oGo W [.iload 5, .iload 4] (by decide +kernel) (ls' := #[.val (.ref b), .val (.int (Int32.ofNat k)), .val (.ref d), .val (.int (Int32.ofNat k)), .val (.int (Int32.ofNat cs.length)), .val (.int (Int32.ofNat k)), s6]) (st' := [.int (Int32.ofNat cs.length), .int (Int32.ofNat k)]) rfl rfl (pc' := 7) rfl ?_
    refine oIcF W (cd := .ge) (o := 37) (by decide +kernel) (XT.ii_ge_f ((n_lt (by omega) hl).mpr hlt)) (pc' := 10) rfl ?_
    refine oGo W [.aload_n 0, .iload_n 1] (by decide +kernel) (ls' := #[.val (.ref b), .val (.int (Int32.ofNat k)), .val (.ref d), .val (.int (Int32.ofNat k)), .val (.int (Int32.ofNat cs.length)), .val (.int (Int32.ofNat k)), s6]) (st' := [.int (Int32.ofNat k), .ref b]) rfl rfl (pc' := 12) rfl ?_
    refine oGet W A (n_nn (by omega)) (v := .int cs[k]) (by rw [n_cl (by omega)]; simp [hlt]) (Or.inl ⟨rfl, rfl⟩) (by decide +kernel) ?_
    have go6 : OG p e below s Z EL nb (Q5 Z h0 d kd cs) ck sk T (mkF m 20 #[.val (.ref b), .val (.int (Int32.ofNat k)), .val (.ref d), .val (.int (Int32.ofNat k)), .val (.int (Int32.ofNat cs.length)), .val (.int (Int32.ofNat k)), .val (.int cs[k])] [.int (255 : Int32), .int cs[k]]) := by
      by_cases hc : (255 : Int32) < cs[k]
      · refine oIcF W (cd := .le) (o := 6) (by decide +kernel) (XT.ii_le_f hc) (pc' := 23) rfl ?_
        refine oGo W [.iload 5] (by decide +kernel) (ls' := #[.val (.ref b), .val (.int (Int32.ofNat k)), .val (.ref d), .val (.int (Int32.ofNat k)), .val (.int (Int32.ofNat cs.length)), .val (.int (Int32.ofNat k)), .val (.int cs[k])]) (st' := [.int (Int32.ofNat k)]) rfl rfl (pc' := 25) rfl ?_
        have hb := bigAt_at hlt hsm hc
        exact oRetI W (by decide +kernel) (Nat.zero_le _) (Nat.zero_le _) (fun _ _ => ⟨by rw [hb], K, fun q => absurd (hb.symm.trans q) (by omega)⟩)
      · refine oIcT W (cd := .le) (o := 6) (by decide +kernel) (XT.ii_le_t hc) (pc' := 26) (by decide) (by decide) ?_
        refine oGo W [.aload_n 2, .iload_n 3, .iload 6, .i2b] (by decide +kernel) (ls' := #[.val (.ref b), .val (.int (Int32.ofNat k)), .val (.ref d), .val (.int (Int32.ofNat k)), .val (.int (Int32.ofNat cs.length)), .val (.int (Int32.ofNat k)), .val (.int cs[k])]) (st' := [.int (cs[k].toInt8.toInt32), .int (Int32.ofNat k), .ref d]) rfl rfl (pc' := 31) rfl ?_
        obtain ⟨T1, h1, W1, Wr1, B1, C1, st1⟩ := oPut W B (j := Int32.ofNat k) (pc := 31) (ls := #[.val (.ref b), .val (.int (Int32.ofNat k)), .val (.ref d), .val (.int (Int32.ofNat k)), .val (.int (Int32.ofNat cs.length)), .val (.int (Int32.ofNat k)), .val (.int cs[k])]) (st := []) (n_nn (by omega)) (i := k) (n_cl (by omega)) (by simp; omega) hdf S (ins := .bastore) (Or.inr (Or.inl ⟨rfl, rfl, nar_b _⟩)) (by decide +kernel)
        refine oLift st1 ?_
        refine oGo W1 [.iinc 1 1, .iinc 3 1, .iinc 5 1, .goto (-38)] (by decide +kernel) (ls' := #[.val (.ref b), .val (.int (Int32.ofNat k + 1)), .val (.ref d), .val (.int (Int32.ofNat k + 1)), .val (.int (Int32.ofNat cs.length)), .val (.int (Int32.ofNat k + 1)), .val (.int cs[k])]) (st' := []) rfl rfl (pc' := 3) rfl ?_
        rw [n_in]
        rw [set_step hk hlt] at B1
        refine k_C5_loop hl hbd hdf r (k + 1) (by omega) W1 (A.other Wr1 hbd) B1 (C1.safe B.lt S) (K.wr Wr1 (Or.inl (List.mem_singleton.mpr rfl))) ?_ (Or.inr ⟨_, rfl⟩)
        intro c hcm
        rw [List.take_succ_eq_append_getElem hlt, List.mem_append, List.mem_singleton] at hcm
        rcases hcm with hcm | rfl
        · exact hsm c hcm
        · exact hc
    rcases h6 with rfl | ⟨x, rfl⟩
    · exact oGo W [.istore 6, .iload 6, .sipush 255] (by decide +kernel) (ls' := #[.val (.ref b), .val (.int (Int32.ofNat k)), .val (.ref d), .val (.int (Int32.ofNat k)), .val (.int (Int32.ofNat cs.length)), .val (.int (Int32.ofNat k)), .val (.int cs[k])]) (st' := [.int (255 : Int32), .int cs[k]]) rfl rfl (pc' := 20) rfl go6
    · exact oGo W [.istore 6, .iload 6, .sipush 255] (by decide +kernel) (ls' := #[.val (.ref b), .val (.int (Int32.ofNat k)), .val (.ref d), .val (.int (Int32.ofNat k)), .val (.int (Int32.ofNat cs.length)), .val (.int (Int32.ofNat k)), .val (.int cs[k])]) (st' := [.int (255 : Int32), .int cs[k]]) rfl rfl (pc' := 20) rfl go6
theorem k_C5 (hE : EW Z a0 EL) {b d : Addr} {kb kd : ClassId} {cs : List Int32} (hl : cs.length < 2147483648) (hbd : b ≠ d) (hdf : Z.heap.size ≤ d) (A : OA Z h0 b kb .char (cs.map Value.int)) (B : OA Z h0 d kd .byte (List.replicate cs.length (.int 0))) :
    OC l Z EL nb [] mC5 jdk_52_method_21_code 7 (some .int) rm0 #[.ref b, .int 0, .ref d, .int 0, .int (Int32.ofNat cs.length)] h0 [d] (Q5 Z h0 d kd cs) := by
  refine oEnter (by decide +kernel) hE ?_
  intro p e s m below meth c T0 W0 S0
  refine oEq (g' := mkF m 0 #[.val (.ref b), .val (.int 0), .val (.ref d), .val (.int 0), .val (.int (Int32.ofNat cs.length)), .unset, .unset] []) (by first | (simp [entryFrame, mkF, argsToLocals, Value.category]; done) | rfl) ?_
  refine oGo W0 [.iconst 0, .istore 5] (by decide +kernel) (ls' := #[.val (.ref b), .val (.int 0), .val (.ref d), .val (.int 0), .val (.int (Int32.ofNat cs.length)), .val (.int 0), .unset]) (st' := []) rfl rfl (pc' := 3) rfl ?_
  exact k_C5_loop hl hbd hdf cs.length 0 (by omega) W0 A (by simpa using B) (S0 d (List.mem_singleton.mpr rfl)) (Keep.refl _ _) (by simp) (Or.inl rfl)
abbrev rmC3 (n : Nat) : Room := { frames := 1, cells := 1, slots := n, locals := 18 }
theorem k_C3 (K : SC Z a0 EL) {b : Addr} {kb : ClassId} {cs : List Int32} (hl : cs.length ≤ 4000) (A : OA Z h0 b kb .char (cs.map Value.int)) (hsm : ∀ c ∈ cs, ¬ (255 : Int32) < c) :
    OC l Z EL nb [] mC3 jdk_52_method_16_code 6 (some (.array .byte)) (rmC3 cs.length) #[.ref b, .int 0, .int (Int32.ofNat cs.length)] h0 [] (fun v _ h => ∃ d k, v = some (.ref d) ∧ h0.size ≤ d ∧ Ext h0 h ∧ OA Z h d k .byte (cs.map fun c => Value.int c.toInt8.toInt32)) := by
  have hs := K.1
  refine oEnter (by decide +kernel) K.2.1 ?_
  intro p e s m below meth c T0 W0 _
  refine oEq (g' := mkF m 0 #[.val (.ref b), .val (.int 0), .val (.int (Int32.ofNat cs.length)), .unset, .unset, .unset] []) (by first | (simp [entryFrame, mkF, argsToLocals, Value.category]; done) | rfl) ?_
  refine oGo W0 [.iload_n 2] (by decide +kernel) (ls' := #[.val (.ref b), .val (.int 0), .val (.int (Int32.ofNat cs.length)), .unset, .unset, .unset]) (st' := [.int (Int32.ofNat cs.length)]) rfl rfl (pc' := 1) rfl ?_
  have hcl : (Int32.ofNat cs.length).toNatClampNeg = cs.length := n_cl (by omega)
  obtain ⟨T1, h1, d, kd, W1, g1, E1, B1, S1, C1, st1⟩ := oNewA W0 (aty := .byte) (pc := 1) (ls := #[.val (.ref b), .val (.int 0), .val (.int (Int32.ofNat cs.length)), .unset, .unset, .unset]) (st := []) (hs _ (List.mem_of_getElem? (i := 11) rfl)) (by decide +kernel) (n := Int32.ofNat cs.length) (n_nn (by omega)) (cap := cs.length) (by rw [hcl]; exact Nat.le_refl _) (by omega) (lb rfl) (by show 0 + cs.length ≤ cs.length; omega)
  refine oLift st1 ?_
  rw [hcl] at B1
  refine oGo W1 [.astore_n 3, .aload_n 0, .iload_n 1, .aload_n 3, .iconst 0, .iload_n 2] (by decide +kernel) (ls' := #[.val (.ref b), .val (.int 0), .val (.int (Int32.ofNat cs.length)), .val (.ref d), .unset, .unset]) (st' := [.int (Int32.ofNat cs.length), .int 0, .ref d, .int 0, .ref b]) rfl rfl (pc' := 9) rfl ?_
  have hbd : b ≠ d := Nat.ne_of_lt (Nat.lt_of_lt_of_le A.lt g1)
  obtain ⟨v2, T2, L2, h2, vm2, W2, ⟨rfl, K2, B2⟩, C2, st2⟩ := oCallS W1 (idx := 115) (pc := 9) (ls := #[.val (.ref b), .val (.int 0), .val (.int (Int32.ofNat cs.length)), .val (.ref d), .unset, .unset]) (st := []) (argsL := [.ref b, .int 0, .ref d, .int 0, .int (Int32.ofNat cs.length)]) (k_C5 (h0 := h1) K.2.1 (by omega) hbd (Nat.le_trans W0.ext.1 g1) (A.ext E1) B1)
    (fun x hx => by cases List.mem_singleton.mp hx; exact ⟨B1.lt, S1⟩) (hs _ (List.mem_of_getElem? (i := 12) rfl)) (hs _ (List.mem_of_getElem? (i := 13) rfl)) (hs _ (List.mem_of_getElem? (i := 9) rfl)) (hs _ (List.mem_of_getElem? (i := 14) rfl)) (by decide) (na := 5) rfl (by decide +kernel) rfl (stk := [.int (Int32.ofNat cs.length), .int 0, .ref d, .int 0, .ref b]) rfl (by decide +kernel) (V := 0) (lb rfl) (lb rfl) (lb rfl) (lb rfl) (by show 0 + cs.length + 0 ≤ cs.length; omega)
  refine oLift st2 ?_
  have hb := bigAt_all hsm
  rw [hb]
  refine oGo W2 [.istore 4, .iload 4, .iload_n 2] (by decide +kernel) (ls' := #[.val (.ref b), .val (.int 0), .val (.int (Int32.ofNat cs.length)), .val (.ref d), .val (.int (Int32.ofNat cs.length)), .unset]) (st' := [.int (Int32.ofNat cs.length), .int (Int32.ofNat cs.length)]) rfl rfl (pc' := 17) rfl ?_
  refine oIcT W2 (cd := .eq) (o := 40) (by decide +kernel) (XT.ii_eq_t rfl) (pc' := 57) (by decide) (by decide) ?_
  refine oGo W2 [.aload_n 3] (by decide +kernel) (ls' := #[.val (.ref b), .val (.int 0), .val (.int (Int32.ofNat cs.length)), .val (.ref d), .val (.int (Int32.ofNat cs.length)), .unset]) (st' := [.ref d]) rfl rfl (pc' := 58) rfl ?_
  exact oRetA rfl W2 rfl rfl (by decide +kernel) (lb rfl) (by show 0 + cs.length + 0 ≤ cs.length; omega) (fun _ _ => ⟨d, kd, rfl, g1, exK E1 K2 (fun x hx => by cases List.mem_singleton.mp hx; exact g1), B2 hb⟩)
theorem slots_vc (K : SC Z a0 EL) : RoadKit.slotOf Z "java/lang/String" "coder" "B" ≠ RoadKit.slotOf Z "java/lang/String" "value" "[B" :=
  slot_ne (a0 := a0) (C := "java/lang/String") (Or.inr (K.1 _ (List.mem_of_getElem? (i := 19) rfl))) (Or.inr (K.1 _ (List.mem_of_getElem? (i := 21) rfl))) (by decide) (t := .byte) (t' := .array .byte) (by decide) (by decide)
abbrev rmI4 (n : Nat) : Room := { frames := 2, cells := 1, slots := n, locals := 35 }
theorem k_I4 (K : SC Z a0 EL) {x b : Addr} {kb : ClassId} {cs : List Int32} {v0 c0 : Value} (hl : cs.length ≤ 4000) (hl0 : 0 < cs.length) (A : OA Z h0 b kb .char (cs.map Value.int)) (hsm : ∀ c ∈ cs, ¬ c < 0 ∧ ¬ (255 : Int32) < c) (hxf : Z.heap.size ≤ x) (E : Exa Z h0 x "java/lang/String") (Fc : Fld Z h0 x "java/lang/String" "coder" "B" c0) (Fv : Fld Z h0 x "java/lang/String" "value" "[B" v0) :
    OC l Z EL nb [] mI4 jdk_42_method_149_code 6 none (rmI4 cs.length) #[.ref x, .ref b, .int 0, .int (Int32.ofNat cs.length), .null] h0 [x] (fun v _ h => v = none ∧ Keep h0 h [x] ∧ Str Z h x cs) := by
  have hs := K.1
  obtain ⟨z, hz, hz0⟩ := K.2.2
  refine oEnter (by decide +kernel) K.2.1 ?_
  intro p e s m below meth c T0 W0 S0
  refine oEq (g' := mkF m 0 #[.val (.ref x), .val (.ref b), .val (.int 0), .val (.int (Int32.ofNat cs.length)), .val .null, .unset] []) (by first | (simp [entryFrame, mkF, argsToLocals, Value.category]; done) | rfl) ?_
  refine oGo W0 [.aload_n 0] (by decide +kernel) (ls' := #[.val (.ref x), .val (.ref b), .val (.int 0), .val (.int (Int32.ofNat cs.length)), .val .null, .unset]) (st' := [.ref x]) rfl rfl (pc' := 1) rfl ?_
  obtain ⟨T1, W1, st1⟩ := oInit W0 (idx := 1) (pc := 1) (ls := #[.val (.ref x), .val (.ref b), .val (.int 0), .val (.int (Int32.ofNat cs.length)), .val .null, .unset]) (st := []) (a := x) (hs _ (List.mem_of_getElem? (i := 3) rfl)) (hs _ (List.mem_of_getElem? (i := 4) rfl)) (hs _ (List.mem_of_getElem? (i := 5) rfl)) rfl (by decide +kernel) (lb rfl) (V := 0) (lb rfl) (lb rfl)
  refine oLift st1 ?_
  refine oGo W1 [.iload_n 3] (by decide +kernel) (ls' := #[.val (.ref x), .val (.ref b), .val (.int 0), .val (.int (Int32.ofNat cs.length)), .val .null, .unset]) (st' := [.int (Int32.ofNat cs.length)]) rfl rfl (pc' := 5) rfl ?_
  have hn0 : ¬ Int32.ofNat cs.length = 0 := fun q => by
    have := congrArg Int32.toNatClampNeg q
    rw [n_cl (by omega)] at this
    exact absurd this (by show ¬ cs.length = 0; omega)
  refine oIfT W1 (cd := .ne) (o := 22) (by decide +kernel) (XT.i0_ne_t hn0) (pc' := 27) (by decide) (by decide) ?_
  obtain ⟨T2, W2, st2⟩ := oGetS W1 (pc := 27) (ls := #[.val (.ref x), .val (.ref b), .val (.int 0), .val (.int (Int32.ofNat cs.length)), .val .null, .unset]) (st := []) (hs _ (List.mem_of_getElem? (i := 6) rfl)) Via.refl (hz.ext W1.ext) (by decide +kernel)
  refine oLift st2 ?_
  refine oIfF W2 (cd := .eq) (o := 28) (by decide +kernel) (XT.i0_eq_f hz0) (pc' := 33) rfl ?_
  refine oGo W2 [.aload_n 1, .iload_n 2, .iload_n 3] (by decide +kernel) (ls' := #[.val (.ref x), .val (.ref b), .val (.int 0), .val (.int (Int32.ofNat cs.length)), .val .null, .unset]) (st' := [.int (Int32.ofNat cs.length), .int 0, .ref b]) rfl rfl (pc' := 36) rfl ?_
  obtain ⟨v3, T3, L3, h3, vm3, W3, ⟨d, kd, rfl, g3, E3, B3⟩, C3, st3⟩ := oCallS W2 (idx := 177) (pc := 36) (ls := #[.val (.ref x), .val (.ref b), .val (.int 0), .val (.int (Int32.ofNat cs.length)), .val .null, .unset]) (st := []) (argsL := [.ref b, .int 0, .int (Int32.ofNat cs.length)]) (k_C3 (h0 := h0) K hl A (fun c hc => (hsm c hc).2))
    (fun x hx => nomatch hx) (hs _ (List.mem_of_getElem? (i := 7) rfl)) (hs _ (List.mem_of_getElem? (i := 8) rfl)) (hs _ (List.mem_of_getElem? (i := 9) rfl)) (hs _ (List.mem_of_getElem? (i := 10) rfl)) (by decide) (na := 3) rfl (by decide +kernel) rfl (stk := [.int (Int32.ofNat cs.length), .int 0, .ref b]) rfl (by decide +kernel) (V := 0) (lb rfl) (lb rfl) (lb rfl) (lb rfl) (by show 0 + cs.length ≤ cs.length; omega)
  refine oLift st3 ?_
  refine oGo W3 [.astore 5, .aload_n 0, .aload 5, .iload_n 3] (by decide +kernel) (ls' := #[.val (.ref x), .val (.ref b), .val (.int 0), .val (.int (Int32.ofNat cs.length)), .val .null, .val (.ref d)]) (st' := [.int (Int32.ofNat cs.length), .ref d, .ref x]) rfl rfl (pc' := 45) rfl ?_
  obtain ⟨v4, T4, L4, h4, vm4, W4, ⟨rfl, e4⟩, C4, st4⟩ := oCallS W3 (idx := 47) (pc := 45) (ls := #[.val (.ref x), .val (.ref b), .val (.int 0), .val (.int (Int32.ofNat cs.length)), .val .null, .val (.ref d)]) (st := [.ref x]) (argsL := [.ref d, .int (Int32.ofNat cs.length)]) (k_CL (h0 := h3) K.2.1 B3)
    (fun x hx => nomatch hx) (hs _ (List.mem_of_getElem? (i := 15) rfl)) (hs _ (List.mem_of_getElem? (i := 16) rfl)) (hs _ (List.mem_of_getElem? (i := 9) rfl)) (hs _ (List.mem_of_getElem? (i := 17) rfl)) (by decide) (na := 2) rfl (by decide +kernel) rfl (stk := [.int (Int32.ofNat cs.length), .ref d, .ref x]) rfl (by decide +kernel) (V := 1) (lb rfl) (lb rfl) (lb rfl) (lb rfl) (by show 0 + cs.length + 0 ≤ cs.length; omega)
  refine oLift st4 ?_
  subst e4
  have hc0 : (XT.ushr (Int32.ofNat cs.length - (cs.map fun c : Int32 => Value.int c.toInt8.toInt32).length.toInt32) (31 : Int32)).toInt8.toInt32 = 0 := by
    rw [List.length_map]
    show (XT.ushr (Int32.ofNat cs.length - Int32.ofNat cs.length) (31 : Int32)).toInt8.toInt32 = 0
    rw [Int32.sub_self]; decide
  rw [hc0]
  have S4 : Safe Z EL vm4 h4 x := C4.safe (E.ext E3).lt (C3.safe E.lt (S0 x (List.mem_singleton.mpr rfl)))
  obtain ⟨T5, h5, W5, Wr5, Fc5, E5, C5, st5⟩ := oPutF W4 (idx := 15) (pc := 48) (ls := #[.val (.ref x), .val (.ref b), .val (.int 0), .val (.int (Int32.ofNat cs.length)), .val .null, .val (.ref d)]) (st := []) (v := .int 0) (hs _ (List.mem_of_getElem? (i := 18) rfl)) Via.refl (Fc.ext E3) (E.ext E3) (Or.inr ⟨hs _ (List.mem_of_getElem? (i := 19) rfl), rfl, rfl⟩) (hs _ (List.mem_of_getElem? (i := 23) rfl)) (ty := .byte) (by decide) rfl rfl hxf S4 (by decide +kernel)
  refine oLift st5 ?_
  refine oGo W5 [.aload_n 0, .aload 5] (by decide +kernel) (ls' := #[.val (.ref x), .val (.ref b), .val (.int 0), .val (.int (Int32.ofNat cs.length)), .val .null, .val (.ref d)]) (st' := [.ref d, .ref x]) rfl rfl (pc' := 54) rfl ?_
  have hdx : d ≠ x := Nat.ne_of_gt (Nat.lt_of_lt_of_le E.lt g3)
  obtain ⟨T6, h6, W6, Wr6, Fv6, E6, C6, st6⟩ := oPutF W5 (idx := 9) (pc := 54) (ls := #[.val (.ref x), .val (.ref b), .val (.int 0), .val (.int (Int32.ofNat cs.length)), .val .null, .val (.ref d)]) (st := []) (v := .ref d) (hs _ (List.mem_of_getElem? (i := 20) rfl)) Via.refl ((Fv.ext E3).other Wr5 (Or.inr (Ne.symm (slots_vc K)))) E5 (Or.inr ⟨hs _ (List.mem_of_getElem? (i := 21) rfl), rfl, rfl⟩) (hs _ (List.mem_of_getElem? (i := 23) rfl)) (ty := .array .byte) (by decide) rfl rfl hxf (C5.safe (E.ext E3).lt S4) (by decide +kernel)
  refine oLift st6 ?_
  exact oRet0 W6 (by decide +kernel) (lb rfl) (by show 0 + cs.length + 0 ≤ cs.length; omega) (fun _ _ => ⟨rfl, (((Keep.refl h0 [x]).ext E3).wr Wr5 (Or.inl (List.mem_singleton.mpr rfl))).wr Wr6 (Or.inl (List.mem_singleton.mpr rfl)),
    d, kd, E6, Fc5.other Wr6 (Or.inr (slots_vc K)), Fv6, (B3.other Wr5 hdx).other Wr6 hdx, hsm⟩)
abbrev rmI1 (n : Nat) : Room := { frames := 3, cells := 1, slots := n, locals := 52 }
/-- new String(char[]): one to 4,000 chars of 0 to 255 -/
theorem k_I1 (K : SC Z a0 EL) {x b : Addr} {kb : ClassId} (cs : List Int32) {v0 c0 : Value} (hl : cs.length ≤ 4000) (hl0 : 0 < cs.length) (A : OA Z h0 b kb .char (cs.map Value.int)) (hsm : ∀ c ∈ cs, ¬ c < 0 ∧ ¬ (255 : Int32) < c) (hxf : Z.heap.size ≤ x) (E : Exa Z h0 x "java/lang/String") (Fc : Fld Z h0 x "java/lang/String" "coder" "B" c0) (Fv : Fld Z h0 x "java/lang/String" "value" "[B" v0) :
    OC l Z EL nb [] mI1 jdk_42_method_3_code 2 none (rmI1 cs.length) #[.ref x, .ref b] h0 [x] (fun v _ h => v = none ∧ Keep h0 h [x] ∧ Str Z h x cs) := by
  have hs := K.1
  refine oEnter (by decide +kernel) K.2.1 ?_
  intro p e s m below meth c T0 W0 S0
  refine oEq (g' := mkF m 0 #[.val (.ref x), .val (.ref b)] []) (by first | (simp [entryFrame, mkF, argsToLocals, Value.category]; done) | rfl) ?_
  refine oGo W0 [.aload_n 0, .aload_n 1, .iconst 0, .aload_n 1] (by decide +kernel) (ls' := #[.val (.ref x), .val (.ref b)]) (st' := [.ref b, .int 0, .ref b, .ref x]) rfl rfl (pc' := 4) rfl ?_
  refine oLen W0 A (by decide +kernel) ?_
  rw [List.length_map]
  refine oGo W0 [.aconst_null] (by decide +kernel) (ls' := #[.val (.ref x), .val (.ref b)]) (st' := [.null, .int (Int32.ofNat cs.length), .int 0, .ref b, .ref x]) rfl rfl (pc' := 6) rfl ?_
  obtain ⟨v1, T1, L1, h1, vm1, W1, ⟨rfl, K1, F1⟩, C1, st1⟩ := oCallN W0 (idx := 27) (pc := 6) (ls := #[.val (.ref x), .val (.ref b)]) (st := []) (a := x) (argsL := [.ref b, .int 0, .int (Int32.ofNat cs.length), .null]) (k_I4 (h0 := h0) K hl hl0 A hsm hxf E Fc Fv)
    (fun y hy => by cases List.mem_singleton.mp hy; exact ⟨E.lt, S0 x (List.mem_singleton.mpr rfl)⟩) rfl (hs _ (List.mem_of_getElem? (i := 0) rfl)) (hs _ (List.mem_of_getElem? (i := 1) rfl)) (hs _ (List.mem_of_getElem? (i := 22) rfl)) (hs _ (List.mem_of_getElem? (i := 2) rfl)) (by decide) (na := 4) rfl (by decide +kernel) rfl (stk := [.null, .int (Int32.ofNat cs.length), .int 0, .ref b, .ref x]) rfl (by decide +kernel) (V := 0) (lb rfl) (lb rfl) (lb rfl) (lb rfl) (by show 0 + cs.length ≤ cs.length; omega)
  refine oLift st1 ?_
  exact oRet0 W1 (by decide +kernel) (lb rfl) (by show 0 + cs.length ≤ cs.length; omega) (fun _ _ => ⟨rfl, K1, F1⟩)
end OwnStr
end Jvm.Pilot.@@N@@
namespace Jvm.Pilot.@@N@@
open Jvm Jvm.ClassFile Sem Op Lib Jvm.Free Jvm.Stand Jvm.LawKit Jvm.RoadKit Bundle Jvm.Pilot.@@N@@.Jvm.D Jvm.OwnK
section OwnEq
abbrev mEq : MethodName := ⟨"java/lang/String", "equals", "(Ljava/lang/Object;)Z"⟩
abbrev mEL : MethodName := ⟨"java/lang/StringLatin1", "equals", "([B[B)Z"⟩
def eW : List Jvm.Cond := [.classLink "java/lang/String" 10 "java/lang/String", .methodLink "java/lang/String" 541 mEL, .static mEL, .initialized "java/lang/StringLatin1", .code mEL jdk_43_method_13_code 3 (some .boolean)]
theorem eW_in : ∀ d ∈ eW, d ∈ tables_1 := by decide +kernel
variable {l : Launch} {Z : State} {a0 : Array Value} {EL : List (String × Nat)} {nb : Bool} {h0 : Heap}
def QE (xs ys : List Int32) (h0 : Heap) (v : Option Value) (_ : Vm) (h : Heap) : Prop := v = some (.int (if xs = ys then 1 else 0)) ∧ h = h0
theorem k_EL_loop {p : Program} {e : Env} {R : Room} {s : State} {m : MethodId} {args : Array Value} {below : List Frame} {meth : Method} {c : Code} {nm : String} {ck sk : Nat} {a b : Addr} {ka kb : ClassId} {xs ys : List Int32} (hl : xs.length < 2147483648) (hxy : xs.length = ys.length)
    {vm : Vm} {T : State} {locs : List Loc} (W : OW p l e R s m args below meth c Z a0 EL nb "java/lang/StringLatin1" jdk_43_method_13_code 3 (some .boolean) nm vm T locs 0 0 h0) (A : OA Z h0 a ka .byte (xs.map Value.int)) (B : OA Z h0 b kb .byte (ys.map Value.int)) :
    ∀ (r i : Nat), i + r = xs.length → xs.take i = ys.take i → OG p e below s Z EL nb (QE xs ys h0) ck sk T (mkF m 9 #[.val (.ref a), .val (.ref b), .val (.int (Int32.ofNat i))] [])
  | 0, i, hi, ht => by
    have hil : i = xs.length := by omega
    subst hil
    refine oGo W [.iload_n 2, .aload_n 0] (by decide +kernel) (ls' := #[.val (.ref a), .val (.ref b), .val (.int (Int32.ofNat xs.length))]) (st' := [.ref a, .int (Int32.ofNat xs.length)]) rfl rfl (pc' := 11) rfl ?_
    refine oLen W A (by decide +kernel) ?_
    rw [List.length_map]
    refine oIcT W (cd := .ge) (o := 20) (by decide +kernel) (XT.ii_ge_t (fun q => Int32.lt_irrefl q)) (pc' := 32) (by decide) (by decide) ?_
    refine oGo W [.iconst 1] (by decide +kernel) (ls' := #[.val (.ref a), .val (.ref b), .val (.int (Int32.ofNat xs.length))]) (st' := [.int (1 : Int32)]) rfl rfl (pc' := 33) rfl ?_
    have e : xs = ys := by rw [List.take_length, hxy, List.take_length] at ht; exact ht
    exact oRetN (by simp) W rfl (by decide +kernel) (Nat.zero_le _) (Nat.zero_le _) (fun _ _ => ⟨by rw [if_pos e], rfl⟩)
  | r + 1, i, hi, ht => by
    have hlt : i < xs.length := by omega
    have hlt2 : i < ys.length := by omega
    refine oGo W [.iload_n 2, .aload_n 0] (by decide +kernel) (ls' := #[.val (.ref a), .val (.ref b), .val (.int (Int32.ofNat i))]) (st' := [.ref a, .int (Int32.ofNat i)]) rfl rfl (pc' := 11) rfl ?_
    refine oLen W A (by decide +kernel) ?_
    rw [List.length_map]
    refine oIcF W (cd := .ge) (o := 20) (by decide +kernel) (XT.ii_ge_f ((n_lt (by omega) hl).mpr hlt)) (pc' := 15) rfl ?_
    refine oGo W [.aload_n 0, .iload_n 2] (by decide +kernel) (ls' := #[.val (.ref a), .val (.ref b), .val (.int (Int32.ofNat i))]) (st' := [.int (Int32.ofNat i), .ref a]) rfl rfl (pc' := 17) rfl ?_
    refine oGet W A (n_nn (by omega)) (v := .int xs[i]) (by rw [n_cl (by omega)]; simp [hlt]) (Or.inr (Or.inl ⟨rfl, rfl⟩)) (by decide +kernel) ?_
    refine oGo W [.aload_n 1, .iload_n 2] (by decide +kernel) (ls' := #[.val (.ref a), .val (.ref b), .val (.int (Int32.ofNat i))]) (st' := [.int (Int32.ofNat i), .ref b, .int xs[i]]) rfl rfl (pc' := 20) rfl ?_
    refine oGet W B (n_nn (by omega)) (v := .int ys[i]) (by rw [n_cl (by omega)]; simp [hlt2]) (Or.inr (Or.inl ⟨rfl, rfl⟩)) (by decide +kernel) ?_
    by_cases hc : xs[i] = ys[i]
    · refine oIcT W (cd := .eq) (o := 5) (by decide +kernel) (XT.ii_eq_t hc) (pc' := 26) (by decide) (by decide) ?_
      refine oGo W [.iinc 2 1, .goto (-20)] (by decide +kernel) (ls' := #[.val (.ref a), .val (.ref b), .val (.int (Int32.ofNat i + 1))]) (st' := []) rfl rfl (pc' := 9) rfl ?_
      rw [n_in]
      refine k_EL_loop hl hxy W A B r (i + 1) (by omega) ?_
      rw [List.take_succ_eq_append_getElem hlt, List.take_succ_eq_append_getElem hlt2, ht, hc]
    · refine oIcF W (cd := .eq) (o := 5) (by decide +kernel) (XT.ii_eq_f hc) (pc' := 24) rfl ?_
      refine oGo W [.iconst 0] (by decide +kernel) (ls' := #[.val (.ref a), .val (.ref b), .val (.int (Int32.ofNat i))]) (st' := [.int (0 : Int32)]) rfl rfl (pc' := 25) rfl ?_
      have e : ¬ xs = ys := fun q => hc (by subst q; rfl)
      exact oRetN (by simp) W rfl (by decide +kernel) (Nat.zero_le _) (Nat.zero_le _) (fun _ _ => ⟨by rw [if_neg e], rfl⟩)
theorem k_EL (hE : EW Z a0 EL) {a b : Addr} {ka kb : ClassId} {xs ys : List Int32} (hl : xs.length < 2147483648) (hl2 : ys.length < 2147483648) (A : OA Z h0 a ka .byte (xs.map Value.int)) (B : OA Z h0 b kb .byte (ys.map Value.int)) :
    OC l Z EL nb [] mEL jdk_43_method_13_code 3 (some .boolean) rm0 #[.ref a, .ref b] h0 [] (QE xs ys h0) := by
  refine oEnter (by decide +kernel) hE ?_
  intro p e s m below meth c T0 W0 _
  refine oEq (g' := mkF m 0 #[.val (.ref a), .val (.ref b), .unset] []) (by first | (simp [entryFrame, mkF, argsToLocals, Value.category]; done) | rfl) ?_
  refine oGo W0 [.aload_n 0] (by decide +kernel) (ls' := #[.val (.ref a), .val (.ref b), .unset]) (st' := [.ref a]) rfl rfl (pc' := 1) rfl ?_
  refine oLen W0 A (by decide +kernel) ?_
  refine oGo W0 [.aload_n 1] (by decide +kernel) (ls' := #[.val (.ref a), .val (.ref b), .unset]) (st' := [.ref b, .int (xs.map Value.int).length.toInt32]) rfl rfl (pc' := 3) rfl ?_
  refine oLen W0 B (by decide +kernel) ?_
  rw [List.length_map, List.length_map]
  by_cases hc : xs.length = ys.length
  · refine oIcF W0 (cd := .ne) (o := 30) (by decide +kernel) (XT.ii_ne_f (by rw [hc])) (pc' := 7) rfl ?_
    refine oGo W0 [.iconst 0, .istore_n 2] (by decide +kernel) (ls' := #[.val (.ref a), .val (.ref b), .val (.int (0 : Int32))]) (st' := []) rfl rfl (pc' := 9) rfl ?_
    exact k_EL_loop hl hc W0 A B xs.length 0 (by omega) (by simp)
  · have hne : ¬ Int32.ofNat xs.length = Int32.ofNat ys.length := fun q => hc (by have := congrArg Int32.toNatClampNeg q; rwa [n_cl hl, n_cl hl2] at this)
    refine oIcT W0 (cd := .ne) (o := 30) (by decide +kernel) (XT.ii_ne_t hne) (pc' := 34) (by decide) (by decide) ?_
    refine oGo W0 [.iconst 0] (by decide +kernel) (ls' := #[.val (.ref a), .val (.ref b), .unset]) (st' := [.int (0 : Int32)]) rfl rfl (pc' := 35) rfl ?_
    have e : ¬ xs = ys := fun q => hc (by rw [q])
    exact oRetN (by simp) W0 rfl (by decide +kernel) (Nat.zero_le _) (Nat.zero_le _) (fun _ _ => ⟨by rw [if_neg e], rfl⟩)
theorem lo8_inj {c d : Int32} (hc : ¬ c < 0 ∧ ¬ (255 : Int32) < c) (hd : ¬ d < 0 ∧ ¬ (255 : Int32) < d) (h : c.toInt8.toInt32 = d.toInt8.toInt32) : c = d := by
  have e1 := (c_i2b c).1
  have e2 := (c_i2b d).1
  rw [h] at e1
  simp only [Int32.lt_iff_toInt_lt] at hc hd
  have k0 : (0 : Int32).toInt = 0 := rfl
  have k1 : (255 : Int32).toInt = 255 := rfl
  rw [k0, k1] at hc hd
  apply Int32.toInt_inj.mp
  omega
theorem lo8_inj_map : ∀ {cs ds : List Int32}, (∀ c ∈ cs, ¬ c < 0 ∧ ¬ (255 : Int32) < c) → (∀ c ∈ ds, ¬ c < 0 ∧ ¬ (255 : Int32) < c) → cs.map (fun c => c.toInt8.toInt32) = ds.map (fun c => c.toInt8.toInt32) → cs = ds
  | [], [], _, _, _ => rfl
  | [], _ :: _, _, _, h => by simp at h
  | _ :: _, [], _, _, h => by simp at h
  | c :: cs, d :: ds, hc, hd, h => by
    simp only [List.map_cons, List.cons.injEq] at h
    rw [lo8_inj (hc c (List.mem_cons_self ..)) (hd d (List.mem_cons_self ..)) h.1, lo8_inj_map (fun c q => hc c (List.mem_cons_of_mem _ q)) (fun c q => hd c (List.mem_cons_of_mem _ q)) h.2]
theorem Str.uniq {h : Heap} {x : Addr} {cs ds : List Int32} (F : Str Z h x cs) (G : Str Z h x ds) : cs = ds := by
  obtain ⟨t, k, -, -, v1, A, p1⟩ := F
  obtain ⟨t', k', -, -, v2, B, p2⟩ := G
  have e : t = t' := by
    by_cases q : t = t'
    · exact q
    · exact absurd rfl (Fld.ne v1 v2 (fun r => q (by injection r)))
  subst e
  obtain ⟨n, d, ⟨c1, a1, -, s1, -, H1, -⟩, r1⟩ := A
  obtain ⟨n', d', ⟨c2, a2, -, s2, -, H2, -⟩, r2⟩ := B
  cases a1.1.symm.trans a2.1
  have hl : (cs.map fun c : Int32 => Value.int c.toInt8.toInt32).length = (ds.map fun c : Int32 => Value.int c.toInt8.toInt32).length := by rw [← r1, ← r2, ← s1, ← s2]
  have hm : (cs.map fun c : Int32 => Value.int c.toInt8.toInt32) = (ds.map fun c : Int32 => Value.int c.toInt8.toInt32) := by
    apply List.ext_getElem hl
    intro i h1 h2
    have q1 := H1 i (by rw [s1, r1]; exact h1)
    have q2 := H2 i (by rw [s2, r2]; exact h2)
    rw [q1] at q2
    rw [List.getD_eq_getElem?_getD, List.getD_eq_getElem?_getD, List.getElem?_eq_getElem h1, List.getElem?_eq_getElem h2] at q2
    exact Option.some.inj q2
  apply lo8_inj_map p1 p2
  have := congrArg (List.map fun v => match v with | Value.int z => z | _ => 0) hm
  simpa [List.map_map, Function.comp_def] using this
abbrev rmEq : Room := { frames := 1, cells := 0, slots := 0, locals := 14 }
/-- equals of two Strings of Latin-1 chars -/
theorem k_Eq (K : SC Z a0 EL) (he : ∀ d ∈ eW, d.before a0 Z = true) {x y : Addr} {cs ds : List Int32} (hl : cs.length ≤ 4000) (hl2 : ds.length ≤ 4000) (F : Str Z h0 x cs) (G : Str Z h0 y ds) :
    OC l Z EL nb [] mEq jdk_42_method_66_code 3 (some .boolean) rmEq #[.ref x, .ref y] h0 [] (QE cs ds h0) := by
  have hs := K.1
  obtain ⟨z, hz, hz0⟩ := K.2.2
  refine oEnter (by decide +kernel) K.2.1 ?_
  intro p e s m below meth c T0 W0 _
  refine oEq (g' := mkF m 0 #[.val (.ref x), .val (.ref y), .unset] []) (by first | (simp [entryFrame, mkF, argsToLocals, Value.category]; done) | rfl) ?_
  refine oGo W0 [.aload_n 0, .aload_n 1] (by decide +kernel) (ls' := #[.val (.ref x), .val (.ref y), .unset]) (st' := [.ref y, .ref x]) rfl rfl (pc' := 2) rfl ?_
  by_cases hxy : x = y
  · subst hxy
    refine oAcF W0 (cd := .ne) (o := 5) (by decide +kernel) rfl rfl (by simp [XT.acmp]) (pc' := 5) rfl ?_
    refine oGo W0 [.iconst 1] (by decide +kernel) (ls' := #[.val (.ref x), .val (.ref x), .unset]) (st' := [.int (1 : Int32)]) rfl rfl (pc' := 6) rfl ?_
    exact oRetN (by simp) W0 rfl (by decide +kernel) (lb rfl) (lb rfl) (fun _ _ => ⟨by rw [if_pos (F.uniq G)], rfl⟩)
  refine oAcT W0 (cd := .ne) (o := 5) (by decide +kernel) rfl rfl (by simp [XT.acmp, hxy]) (pc' := 7) (by decide) (by decide) ?_
  refine oGo W0 [.aload_n 1] (by decide +kernel) (ls' := #[.val (.ref x), .val (.ref y), .unset]) (st' := [.ref y]) rfl rfl (pc' := 8) rfl ?_
  obtain ⟨t, k, x1, x2, x3, A, pA⟩ := F
  obtain ⟨u, k', y1, y2, y3, B, pB⟩ := G
  obtain ⟨T1, W1, st1⟩ := oInst W0 (idx := 10) (pc := 8) (ls := #[.val (.ref x), .val (.ref y), .unset]) (st := []) (he _ (List.mem_of_getElem? (i := 0) rfl)) (Ins.self y1) (by decide +kernel)
  refine oLift st1 ?_
  refine oIfF W1 (cd := .eq) (o := 43) (by decide +kernel) (by decide) (pc' := 14) rfl ?_
  refine oGo W1 [.aload_n 1] (by decide +kernel) (ls' := #[.val (.ref x), .val (.ref y), .unset]) (st' := [.ref y]) rfl rfl (pc' := 15) rfl ?_
  obtain ⟨T2, W2, st2⟩ := oCast W1 (idx := 10) (pc := 15) (ls := #[.val (.ref x), .val (.ref y), .unset]) (st := []) (he _ (List.mem_of_getElem? (i := 0) rfl)) (Ins.self y1) (by decide +kernel)
  refine oLift st2 ?_
  refine oGo W2 [.astore_n 2] (by decide +kernel) (ls' := #[.val (.ref x), .val (.ref y), .val (.ref y)]) (st' := []) rfl rfl (pc' := 19) rfl ?_
  obtain ⟨T3, W3, st3⟩ := oGetS W2 (pc := 19) (ls := #[.val (.ref x), .val (.ref y), .val (.ref y)]) (st := []) (hs _ (List.mem_of_getElem? (i := 6) rfl)) Via.refl (hz.ext W2.ext) (by decide +kernel)
  refine oLift st3 ?_
  refine oIfF W3 (cd := .eq) (o := 14) (by decide +kernel) (XT.i0_eq_f hz0) (pc' := 25) rfl ?_
  refine oGo W3 [.aload_n 0] (by decide +kernel) (ls' := #[.val (.ref x), .val (.ref y), .val (.ref y)]) (st' := [.ref x]) rfl rfl (pc' := 26) rfl ?_
  obtain ⟨T4, W4, st4⟩ := oGetF W3 (pc := 26) (ls := #[.val (.ref x), .val (.ref y), .val (.ref y)]) (st := []) (hs _ (List.mem_of_getElem? (i := 18) rfl)) Via.refl x2 (by decide +kernel)
  refine oLift st4 ?_
  refine oGo W4 [.aload_n 2] (by decide +kernel) (ls' := #[.val (.ref x), .val (.ref y), .val (.ref y)]) (st' := [.ref y, .int 0]) rfl rfl (pc' := 30) rfl ?_
  obtain ⟨T5, W5, st5⟩ := oGetF W4 (pc := 30) (ls := #[.val (.ref x), .val (.ref y), .val (.ref y)]) (st := [.int 0]) (hs _ (List.mem_of_getElem? (i := 18) rfl)) Via.refl y2 (by decide +kernel)
  refine oLift st5 ?_
  refine oIcF W5 (cd := .ne) (o := 21) (by decide +kernel) (XT.ii_ne_f rfl) (pc' := 36) rfl ?_
  refine oGo W5 [.aload_n 0] (by decide +kernel) (ls' := #[.val (.ref x), .val (.ref y), .val (.ref y)]) (st' := [.ref x]) rfl rfl (pc' := 37) rfl ?_
  obtain ⟨T6, W6, st6⟩ := oGetF W5 (pc := 37) (ls := #[.val (.ref x), .val (.ref y), .val (.ref y)]) (st := []) (hs _ (List.mem_of_getElem? (i := 20) rfl)) Via.refl x3 (by decide +kernel)
  refine oLift st6 ?_
  refine oGo W6 [.aload_n 2] (by decide +kernel) (ls' := #[.val (.ref x), .val (.ref y), .val (.ref y)]) (st' := [.ref y, .ref t]) rfl rfl (pc' := 41) rfl ?_
  obtain ⟨T7, W7, st7⟩ := oGetF W6 (pc := 41) (ls := #[.val (.ref x), .val (.ref y), .val (.ref y)]) (st := [.ref t]) (hs _ (List.mem_of_getElem? (i := 20) rfl)) Via.refl y3 (by decide +kernel)
  refine oLift st7 ?_
  have A' : OA Z h0 t k .byte ((cs.map fun c => c.toInt8.toInt32).map Value.int) := by rw [List.map_map]; exact A
  have B' : OA Z h0 u k' .byte ((ds.map fun c => c.toInt8.toInt32).map Value.int) := by rw [List.map_map]; exact B
  obtain ⟨v8, T8, L8, h8, vm8, W8, ⟨rfl, e8⟩, C8, st8⟩ := oCallS W7 (idx := 541) (pc := 44) (ls := #[.val (.ref x), .val (.ref y), .val (.ref y)]) (st := []) (argsL := [.ref t, .ref u]) (k_EL (h0 := h0) K.2.1 (by rw [List.length_map]; omega) (by rw [List.length_map]; omega) A' B')
    (fun x hx => nomatch hx) (he _ (List.mem_of_getElem? (i := 1) rfl)) (he _ (List.mem_of_getElem? (i := 2) rfl)) (he _ (List.mem_of_getElem? (i := 3) rfl)) (he _ (List.mem_of_getElem? (i := 4) rfl)) (by decide) (na := 2) rfl (by decide +kernel) rfl (stk := [.ref u, .ref t]) rfl (by decide +kernel) (V := 0) (lb rfl) (lb rfl) (lb rfl) (lb rfl) (lb rfl)
  refine oLift st8 ?_
  rw [e8] at W8 C8
  by_cases hq : (cs.map fun c => c.toInt8.toInt32) = (ds.map fun c => c.toInt8.toInt32)
  · rw [if_pos hq]
    have hcd := lo8_inj_map pA pB hq
    refine oIfF W8 (cd := .eq) (o := 7) (by decide +kernel) (by decide) (pc' := 50) rfl ?_
    refine oGo W8 [.iconst 1, .goto 4] (by decide +kernel) (ls' := #[.val (.ref x), .val (.ref y), .val (.ref y)]) (st' := [.int (1 : Int32)]) rfl rfl (pc' := 55) rfl ?_
    exact oRetN (by simp) W8 rfl (by decide +kernel) (lb rfl) (lb rfl) (fun _ _ => ⟨by rw [if_pos hcd], rfl⟩)
  · rw [if_neg hq]
    have hcd : ¬ cs = ds := fun q => hq (by rw [q])
    refine oIfT W8 (cd := .eq) (o := 7) (by decide +kernel) (by decide) (pc' := 54) (by decide) (by decide) ?_
    refine oGo W8 [.iconst 0] (by decide +kernel) (ls' := #[.val (.ref x), .val (.ref y), .val (.ref y)]) (st' := [.int (0 : Int32)]) rfl rfl (pc' := 55) rfl ?_
    exact oRetN (by simp) W8 rfl (by decide +kernel) (lb rfl) (lb rfl) (fun _ _ => ⟨by rw [if_neg hcd], rfl⟩)
end OwnEq
end Jvm.Pilot.@@N@@
namespace Jvm.Pilot.@@N@@
open Jvm Jvm.ClassFile Sem Op Lib Jvm.Free Jvm.Stand Jvm.LawKit Jvm.RoadKit Bundle Jvm.Pilot.@@N@@.Jvm.D Jvm.OwnK
/-- a String that stood at the start, told by the sheet -/
theorem strStart {args : Array Value} {s : State} {t : Term} (hf : Fit s) {x : Addr} (ht : t.eval args s none [] s = some (.ref x)) (h1 : (Jvm.Cond.exactly t "java/lang/String").value args s none s [] = some true) (h2 : (Jvm.Cond.eq (.field t "java/lang/String" "coder" "B") (.int 0)).value args s none s [] = some true)
    (h3 : (Jvm.Cond.arrayOf (.field t "java/lang/String" "value" "[B") .byte).value args s none s [] = some true) {n : Nat} (hn : n < 2147483648) (h4 : (Jvm.Cond.eq (.length (.field t "java/lang/String" "value" "[B")) (.int (Int32.ofNat n))).value args s none s [] = some true)
    {cs : List Int32} (hl : cs.length = n) (hp : ∀ c ∈ cs, ¬ c < 0 ∧ ¬ (255 : Int32) < c) (H : ∀ va c, (Term.field t "java/lang/String" "value" "[B").eval args s none [] s = some (.ref va) → s.heap[va]? = some c → HasL c 0 (cs.map fun c => .int c.toInt8.toInt32)) : Str s s.heap x cs := by
  obtain ⟨va, hv⟩ := arr_v h3
  obtain ⟨k, A⟩ := arrStart hf hv h3 hn h4 (vs := cs.map fun c => .int c.toInt8.toInt32) (by rw [List.length_map]; exact hl) (fun c hc => H va c hv hc)
  have hc := eqv h2 rfl (Or.inr ⟨_, rfl⟩)
  exact ⟨va, k, Exa.start ht h1, Fld.start (by rw [← fld_at ht]; exact hc), Fld.start (by rw [← fld_at ht]; exact hv), A, hp⟩
end Jvm.Pilot.@@N@@
namespace Jvm.Pilot.@@N@@
open Jvm Jvm.ClassFile Sem Op Lib Jvm.Free Jvm.Stand Jvm.LawKit Jvm.RoadKit Bundle Jvm.Pilot.@@N@@.Jvm.D Jvm.OwnK
abbrev EL : List (String × Nat) := []
def Ctx (Z : State) (a0 : Array Value) : Prop := (∀ d ∈ tables_1, d.before a0 Z = true) ∧ SC Z a0 EL ∧ (∀ d ∈ eW, d.before a0 Z = true)
def En (Z : State) (c0 c1 c2 c3 va : Addr) (kv : ClassId) (l0 l1 l2 l3 : Addr) : Prop := (Sta Z Z.heap "com/example/irrmirror/irrmirror/SyncOutcome" "CURRENT" "Lcom/example/irrmirror/irrmirror/SyncOutcome;" (.ref c0) ∧ Sta Z Z.heap "com/example/irrmirror/irrmirror/SyncOutcome" "BEHIND" "Lcom/example/irrmirror/irrmirror/SyncOutcome;" (.ref c1) ∧ Sta Z Z.heap "com/example/irrmirror/irrmirror/SyncOutcome" "REJECTED" "Lcom/example/irrmirror/irrmirror/SyncOutcome;" (.ref c2) ∧ Sta Z Z.heap "com/example/irrmirror/irrmirror/SyncOutcome" "STOPPED" "Lcom/example/irrmirror/irrmirror/SyncOutcome;" (.ref c3)) ∧ (Sta Z Z.heap "com/example/irrmirror/irrmirror/SyncOutcome" "$VALUES" "[Lcom/example/irrmirror/irrmirror/SyncOutcome;" (.ref va) ∧ OA Z Z.heap va kv (.object "com/example/irrmirror/irrmirror/SyncOutcome") [.ref c0, .ref c1, .ref c2, .ref c3] ∧ Exa Z Z.heap va "[Lcom/example/irrmirror/irrmirror/SyncOutcome;") ∧ (Exa Z Z.heap c0 "com/example/irrmirror/irrmirror/SyncOutcome" ∧ Exa Z Z.heap c1 "com/example/irrmirror/irrmirror/SyncOutcome" ∧ Exa Z Z.heap c2 "com/example/irrmirror/irrmirror/SyncOutcome" ∧ Exa Z Z.heap c3 "com/example/irrmirror/irrmirror/SyncOutcome") ∧ (Fld Z Z.heap c0 "com/example/irrmirror/irrmirror/SyncOutcome" "label" "Ljava/lang/String;" (.ref l0) ∧ Fld Z Z.heap c1 "com/example/irrmirror/irrmirror/SyncOutcome" "label" "Ljava/lang/String;" (.ref l1) ∧ Fld Z Z.heap c2 "com/example/irrmirror/irrmirror/SyncOutcome" "label" "Ljava/lang/String;" (.ref l2) ∧ Fld Z Z.heap c3 "com/example/irrmirror/irrmirror/SyncOutcome" "label" "Ljava/lang/String;" (.ref l3)) ∧ (Str Z Z.heap l0 [99, 117, 114, 114, 101, 110, 116] ∧ Str Z Z.heap l1 [98, 101, 104, 105, 110, 100] ∧ Str Z Z.heap l2 [114, 101, 106, 101, 99, 116, 101, 100] ∧ Str Z Z.heap l3 [115, 116, 111, 112, 112, 101, 100])
abbrev rm_c_values : Room := { frames := 1, cells := 1, slots := 4, locals := 14 }
set_option maxRecDepth 65536 in
set_option maxHeartbeats 40000000 in
theorem c_values {l : Launch} {Z : State} {a0 : Array Value} {nb : Bool} (K : Ctx Z a0) {c0 c1 c2 c3 va : Addr} {kv : ClassId} {l0 l1 l2 l3 : Addr} (H : En Z c0 c1 c2 c3 va kv l0 l1 l2 l3) {h0 : Heap} :
    OC l Z EL nb [] (⟨"com/example/irrmirror/irrmirror/SyncOutcome", "values", "()[Lcom/example/irrmirror/irrmirror/SyncOutcome;"⟩ : MethodName) prog_26_method_1_code 0 (some (.array (.object "com/example/irrmirror/irrmirror/SyncOutcome"))) rm_c_values #[] h0 [] (fun v _ h => ∃ b, v = some (.ref b) ∧ Ext h0 h ∧ OA Z h b kv (.object "com/example/irrmirror/irrmirror/SyncOutcome") [.ref c0, .ref c1, .ref c2, .ref c3]) := by
  have hw := K.1
  have hS := K.1
  have he := K.2.2
  obtain ⟨⟨S0c, S1c, S2c, S3c⟩, ⟨SV, AV, XV⟩, ⟨X0c, X1c, X2c, X3c⟩, ⟨F0c, F1c, F2c, F3c⟩, ⟨T0c, T1c, T2c, T3c⟩⟩ := id H
  refine oEnter (by decide +kernel) K.2.1.2.1 ?_
  intro _p _e _s m _below _meth _c T0 W0 S0
  refine oEq (g' := mkF m 0 #[] []) (by first | (simp [entryFrame, mkF, argsToLocals, Value.category]; done) | rfl) ?_
  obtain ⟨T1, W1, st1⟩ := oGetS W0 (pc := 0) (ls := #[]) (st := []) (hw _ (List.mem_of_getElem? (i := 39) rfl)) Via.refl (SV.ext W0.ext) (by decide +kernel)
  refine oLift st1 ?_
  obtain ⟨T2, h2, a2, W2, g2, E2, A2, X2, C2, st2⟩ := oClone W1 (pc := 3) (ls := #[]) (st := []) (hw _ (List.mem_of_getElem? (i := 41) rfl)) (hw _ (List.mem_of_getElem? (i := 42) rfl)) (hw _ (List.mem_of_getElem? (i := 46) rfl)) (hw _ (List.mem_of_getElem? (i := 44) rfl)) (hw _ (List.mem_of_getElem? (i := 45) rfl)) (hw _ (List.mem_of_getElem? (i := 47) rfl)) (AV.ext W1.ext) (XV.ext W1.ext) rfl (by decide +kernel) (lb rfl) (V := 0) (cap := 4) (lb rfl) (lb rfl) (lb rfl) (lb rfl) (lb rfl)
  refine oLift st2 ?_
  obtain ⟨T3, W3, st3⟩ := oCast W2 (pc := 6) (ls := #[]) (st := []) (hw _ (List.mem_of_getElem? (i := 52) rfl)) (Ins.self X2) (by decide +kernel)
  refine oLift st3 ?_
  exact oRetA rfl W3 rfl rfl (by decide +kernel) (lb rfl) (lb rfl) (fun vm' hv => ⟨_, rfl, E2, A2⟩)
abbrev rm_c_parse0 : Room := { frames := 2, cells := 1, slots := 4, locals := 28 }
set_option maxRecDepth 65536 in
set_option maxHeartbeats 40000000 in
theorem c_parse0 {l : Launch} {Z : State} {a0 : Array Value} {nb : Bool} (K : Ctx Z a0) {c0 c1 c2 c3 va : Addr} {kv : ClassId} {l0 l1 l2 l3 : Addr} (H : En Z c0 c1 c2 c3 va kv l0 l1 l2 l3) {x : Addr} {h0 : Heap} (F : Str Z h0 x [99, 117, 114, 114, 101, 110, 116]) :
    OC l Z EL nb [] (⟨"com/example/irrmirror/irrmirror/SyncOutcome", "parse", "(Ljava/lang/String;)Lcom/example/irrmirror/irrmirror/SyncOutcome;"⟩ : MethodName) prog_26_method_4_code 5 (some (.object "com/example/irrmirror/irrmirror/SyncOutcome")) rm_c_parse0 #[(.ref x)] h0 [] (fun v _ h => v = some (.ref c0) ∧ Ext h0 h) := by
  have hw := K.1
  have hS := K.1
  have he := K.2.2
  obtain ⟨⟨S0c, S1c, S2c, S3c⟩, ⟨SV, AV, XV⟩, ⟨X0c, X1c, X2c, X3c⟩, ⟨F0c, F1c, F2c, F3c⟩, ⟨T0c, T1c, T2c, T3c⟩⟩ := id H
  refine oEnter (by decide +kernel) K.2.1.2.1 ?_
  intro _p _e _s m _below _meth _c T0 W0 S0
  refine oEq (g' := mkF m 0 #[.val (.ref x), .unset, .unset, .unset, .unset] []) (by first | (simp [entryFrame, mkF, argsToLocals, Value.category]; done) | rfl) ?_
  obtain ⟨v1, T1, L1, h1, vm1, W1, ⟨b1, rfl, E1, A1⟩, C1, st1⟩ := oCallS W0 (idx := 39) (pc := 0) (ls := #[.val (.ref x), .unset, .unset, .unset, .unset]) (st := []) (argsL := []) (c_values K H) (fun x hx => nomatch hx) (hw _ (List.mem_of_getElem? (i := 36) rfl)) (hw _ (List.mem_of_getElem? (i := 37) rfl)) (hw _ (List.mem_of_getElem? (i := 1) rfl)) (hw _ (List.mem_of_getElem? (i := 38) rfl)) (by decide) (na := 0) rfl (by decide +kernel) rfl (stk := []) rfl (by decide +kernel) (V := 0) (lb rfl) (lb rfl) (lb rfl) (lb rfl) (lb rfl)
  refine oLift st1 ?_
  show OG _ _ _ _ _ _ _ _ _ _ _ (mkF m 3 #[.val (.ref x), .unset, .unset, .unset, .unset] [(.ref b1)])
  refine oGo W1 [.astore_n 1, .aload_n 1] (by decide +kernel) (ls' := #[.val (.ref x), .val (.ref b1), .unset, .unset, .unset]) (st' := [(.ref b1)]) rfl rfl (pc' := 5) rfl ?_
  refine oLen W1 A1 (by decide +kernel) ?_
  show OG _ _ _ _ _ _ _ _ _ _ _ (mkF m 6 #[.val (.ref x), .val (.ref b1), .unset, .unset, .unset] [(.int (4 : Int32))])
  refine oGo W1 [.istore_n 2, .iconst 0, .istore_n 3] (by decide +kernel) (ls' := #[.val (.ref x), .val (.ref b1), .val (.int (4 : Int32)), .val (.int (0 : Int32)), .unset]) (st' := []) rfl rfl (pc' := 9) rfl ?_
  refine oGo W1 [.iload_n 3, .iload_n 2] (by decide +kernel) (ls' := #[.val (.ref x), .val (.ref b1), .val (.int (4 : Int32)), .val (.int (0 : Int32)), .unset]) (st' := [(.int (4 : Int32)), (.int (0 : Int32))]) rfl rfl (pc' := 11) rfl ?_
  refine oIcF W1 (cd := .ge) (o := 29) (by decide +kernel) (XT.ii_ge_f (by decide)) (pc' := 14) rfl ?_
  refine oGo W1 [.aload_n 1, .iload_n 3] (by decide +kernel) (ls' := #[.val (.ref x), .val (.ref b1), .val (.int (4 : Int32)), .val (.int (0 : Int32)), .unset]) (st' := [(.int (0 : Int32)), (.ref b1)]) rfl rfl (pc' := 16) rfl ?_
  refine oGet W1 A1 (v := (.ref c0)) (by decide) rfl (Or.inr (Or.inr (Or.inr ⟨rfl, rfl⟩))) (by decide +kernel) ?_
  refine oGo W1 [.astore 4, .aload 4] (by decide +kernel) (ls' := #[.val (.ref x), .val (.ref b1), .val (.int (4 : Int32)), .val (.int (0 : Int32)), .val (.ref c0)]) (st' := [(.ref c0)]) rfl rfl (pc' := 21) rfl ?_
  obtain ⟨T2, W2, st2⟩ := oGetF W1 (pc := 21) (ls := #[.val (.ref x), .val (.ref b1), .val (.int (4 : Int32)), .val (.int (0 : Int32)), .val (.ref c0)]) (st := []) (hw _ (List.mem_of_getElem? (i := 54) rfl)) Via.refl (F0c.ext W1.ext) (by decide +kernel)
  refine oLift st2 ?_
  refine oGo W2 [.aload_n 0] (by decide +kernel) (ls' := #[.val (.ref x), .val (.ref b1), .val (.int (4 : Int32)), .val (.int (0 : Int32)), .val (.ref c0)]) (st' := [(.ref x), (.ref l0)]) rfl rfl (pc' := 25) rfl ?_
  obtain ⟨v3, T3, L3, h3, vm3, W3, ⟨rfl, e3⟩, C3, st3⟩ := oCallV W2 (idx := 43) (pc := 25) (ls := #[.val (.ref x), .val (.ref b1), .val (.int (4 : Int32)), .val (.int (0 : Int32)), .val (.ref c0)]) (st := []) (argsL := [(.ref x)]) (T0c.exa.ext W2.ext) (k_Eq K.2.1 he (by decide) (by decide) (T0c.ext W2.ext) (F.ext E1)) (fun x hx => nomatch hx) (hw _ (List.mem_of_getElem? (i := 56) rfl)) (hw _ (List.mem_of_getElem? (i := 57) rfl)) (notFace_of_selects (args := #[]) (mvT W2.warm (hw _ (List.mem_of_getElem? (i := 59) rfl)))) (hw _ (List.mem_of_getElem? (i := 59) rfl)) (hw _ (List.mem_of_getElem? (i := 58) rfl)) (hw _ (List.mem_of_getElem? (i := 6) rfl)) (hw _ (List.mem_of_getElem? (i := 60) rfl)) (by decide) (na := 1) rfl (by decide +kernel) rfl (stk := [(.ref x), (.ref l0)]) rfl (by decide +kernel) (V := 0) (lb rfl) (lb rfl) (lb rfl) (lb rfl) (lb rfl)
  refine oLift st3 ?_
  rw [e3] at W3 C3
  show OG _ _ _ _ _ _ _ _ _ _ _ (mkF m 28 #[.val (.ref x), .val (.ref b1), .val (.int (4 : Int32)), .val (.int (0 : Int32)), .val (.ref c0)] [(.int (if ([99, 117, 114, 114, 101, 110, 116] : List Int32) = [99, 117, 114, 114, 101, 110, 116] then 1 else 0))])
  refine oIfF W3 (cd := .eq) (o := 6) (by decide +kernel) (XT.i0_eq_f (by decide)) (pc' := 31) rfl ?_
  refine oGo W3 [.aload 4] (by decide +kernel) (ls' := #[.val (.ref x), .val (.ref b1), .val (.int (4 : Int32)), .val (.int (0 : Int32)), .val (.ref c0)]) (st' := [(.ref c0)]) rfl rfl (pc' := 33) rfl ?_
  exact oRetA rfl W3 rfl rfl (by decide +kernel) (lb rfl) (lb rfl) (fun vm' hv => ⟨rfl, E1⟩)
abbrev rm_c_parse1 : Room := { frames := 2, cells := 1, slots := 4, locals := 28 }
set_option maxRecDepth 65536 in
set_option maxHeartbeats 40000000 in
theorem c_parse1 {l : Launch} {Z : State} {a0 : Array Value} {nb : Bool} (K : Ctx Z a0) {c0 c1 c2 c3 va : Addr} {kv : ClassId} {l0 l1 l2 l3 : Addr} (H : En Z c0 c1 c2 c3 va kv l0 l1 l2 l3) {x : Addr} {h0 : Heap} (F : Str Z h0 x [98, 101, 104, 105, 110, 100]) :
    OC l Z EL nb [] (⟨"com/example/irrmirror/irrmirror/SyncOutcome", "parse", "(Ljava/lang/String;)Lcom/example/irrmirror/irrmirror/SyncOutcome;"⟩ : MethodName) prog_26_method_4_code 5 (some (.object "com/example/irrmirror/irrmirror/SyncOutcome")) rm_c_parse1 #[(.ref x)] h0 [] (fun v _ h => v = some (.ref c1) ∧ Ext h0 h) := by
  have hw := K.1
  have hS := K.1
  have he := K.2.2
  obtain ⟨⟨S0c, S1c, S2c, S3c⟩, ⟨SV, AV, XV⟩, ⟨X0c, X1c, X2c, X3c⟩, ⟨F0c, F1c, F2c, F3c⟩, ⟨T0c, T1c, T2c, T3c⟩⟩ := id H
  refine oEnter (by decide +kernel) K.2.1.2.1 ?_
  intro _p _e _s m _below _meth _c T0 W0 S0
  refine oEq (g' := mkF m 0 #[.val (.ref x), .unset, .unset, .unset, .unset] []) (by first | (simp [entryFrame, mkF, argsToLocals, Value.category]; done) | rfl) ?_
  obtain ⟨v1, T1, L1, h1, vm1, W1, ⟨b1, rfl, E1, A1⟩, C1, st1⟩ := oCallS W0 (idx := 39) (pc := 0) (ls := #[.val (.ref x), .unset, .unset, .unset, .unset]) (st := []) (argsL := []) (c_values K H) (fun x hx => nomatch hx) (hw _ (List.mem_of_getElem? (i := 36) rfl)) (hw _ (List.mem_of_getElem? (i := 37) rfl)) (hw _ (List.mem_of_getElem? (i := 1) rfl)) (hw _ (List.mem_of_getElem? (i := 38) rfl)) (by decide) (na := 0) rfl (by decide +kernel) rfl (stk := []) rfl (by decide +kernel) (V := 0) (lb rfl) (lb rfl) (lb rfl) (lb rfl) (lb rfl)
  refine oLift st1 ?_
  show OG _ _ _ _ _ _ _ _ _ _ _ (mkF m 3 #[.val (.ref x), .unset, .unset, .unset, .unset] [(.ref b1)])
  refine oGo W1 [.astore_n 1, .aload_n 1] (by decide +kernel) (ls' := #[.val (.ref x), .val (.ref b1), .unset, .unset, .unset]) (st' := [(.ref b1)]) rfl rfl (pc' := 5) rfl ?_
  refine oLen W1 A1 (by decide +kernel) ?_
  show OG _ _ _ _ _ _ _ _ _ _ _ (mkF m 6 #[.val (.ref x), .val (.ref b1), .unset, .unset, .unset] [(.int (4 : Int32))])
  refine oGo W1 [.istore_n 2, .iconst 0, .istore_n 3] (by decide +kernel) (ls' := #[.val (.ref x), .val (.ref b1), .val (.int (4 : Int32)), .val (.int (0 : Int32)), .unset]) (st' := []) rfl rfl (pc' := 9) rfl ?_
  refine oGo W1 [.iload_n 3, .iload_n 2] (by decide +kernel) (ls' := #[.val (.ref x), .val (.ref b1), .val (.int (4 : Int32)), .val (.int (0 : Int32)), .unset]) (st' := [(.int (4 : Int32)), (.int (0 : Int32))]) rfl rfl (pc' := 11) rfl ?_
  refine oIcF W1 (cd := .ge) (o := 29) (by decide +kernel) (XT.ii_ge_f (by decide)) (pc' := 14) rfl ?_
  refine oGo W1 [.aload_n 1, .iload_n 3] (by decide +kernel) (ls' := #[.val (.ref x), .val (.ref b1), .val (.int (4 : Int32)), .val (.int (0 : Int32)), .unset]) (st' := [(.int (0 : Int32)), (.ref b1)]) rfl rfl (pc' := 16) rfl ?_
  refine oGet W1 A1 (v := (.ref c0)) (by decide) rfl (Or.inr (Or.inr (Or.inr ⟨rfl, rfl⟩))) (by decide +kernel) ?_
  refine oGo W1 [.astore 4, .aload 4] (by decide +kernel) (ls' := #[.val (.ref x), .val (.ref b1), .val (.int (4 : Int32)), .val (.int (0 : Int32)), .val (.ref c0)]) (st' := [(.ref c0)]) rfl rfl (pc' := 21) rfl ?_
  obtain ⟨T2, W2, st2⟩ := oGetF W1 (pc := 21) (ls := #[.val (.ref x), .val (.ref b1), .val (.int (4 : Int32)), .val (.int (0 : Int32)), .val (.ref c0)]) (st := []) (hw _ (List.mem_of_getElem? (i := 54) rfl)) Via.refl (F0c.ext W1.ext) (by decide +kernel)
  refine oLift st2 ?_
  refine oGo W2 [.aload_n 0] (by decide +kernel) (ls' := #[.val (.ref x), .val (.ref b1), .val (.int (4 : Int32)), .val (.int (0 : Int32)), .val (.ref c0)]) (st' := [(.ref x), (.ref l0)]) rfl rfl (pc' := 25) rfl ?_
  obtain ⟨v3, T3, L3, h3, vm3, W3, ⟨rfl, e3⟩, C3, st3⟩ := oCallV W2 (idx := 43) (pc := 25) (ls := #[.val (.ref x), .val (.ref b1), .val (.int (4 : Int32)), .val (.int (0 : Int32)), .val (.ref c0)]) (st := []) (argsL := [(.ref x)]) (T0c.exa.ext W2.ext) (k_Eq K.2.1 he (by decide) (by decide) (T0c.ext W2.ext) (F.ext E1)) (fun x hx => nomatch hx) (hw _ (List.mem_of_getElem? (i := 56) rfl)) (hw _ (List.mem_of_getElem? (i := 57) rfl)) (notFace_of_selects (args := #[]) (mvT W2.warm (hw _ (List.mem_of_getElem? (i := 59) rfl)))) (hw _ (List.mem_of_getElem? (i := 59) rfl)) (hw _ (List.mem_of_getElem? (i := 58) rfl)) (hw _ (List.mem_of_getElem? (i := 6) rfl)) (hw _ (List.mem_of_getElem? (i := 60) rfl)) (by decide) (na := 1) rfl (by decide +kernel) rfl (stk := [(.ref x), (.ref l0)]) rfl (by decide +kernel) (V := 0) (lb rfl) (lb rfl) (lb rfl) (lb rfl) (lb rfl)
  refine oLift st3 ?_
  rw [e3] at W3 C3
  show OG _ _ _ _ _ _ _ _ _ _ _ (mkF m 28 #[.val (.ref x), .val (.ref b1), .val (.int (4 : Int32)), .val (.int (0 : Int32)), .val (.ref c0)] [(.int (if ([99, 117, 114, 114, 101, 110, 116] : List Int32) = [98, 101, 104, 105, 110, 100] then 1 else 0))])
  refine oIfT W3 (cd := .eq) (o := 6) (by decide +kernel) (XT.i0_eq_t (by decide)) (pc' := 34) (by decide) (by decide) ?_
  refine oGo W3 [.iinc 3 1, .goto (-28)] (by decide +kernel) (ls' := #[.val (.ref x), .val (.ref b1), .val (.int (4 : Int32)), .val (.int (1 : Int32)), .val (.ref c0)]) (st' := []) rfl rfl (pc' := 9) rfl ?_
  refine oGo W3 [.iload_n 3, .iload_n 2] (by decide +kernel) (ls' := #[.val (.ref x), .val (.ref b1), .val (.int (4 : Int32)), .val (.int (1 : Int32)), .val (.ref c0)]) (st' := [(.int (4 : Int32)), (.int (1 : Int32))]) rfl rfl (pc' := 11) rfl ?_
  refine oIcF W3 (cd := .ge) (o := 29) (by decide +kernel) (XT.ii_ge_f (by decide)) (pc' := 14) rfl ?_
  refine oGo W3 [.aload_n 1, .iload_n 3] (by decide +kernel) (ls' := #[.val (.ref x), .val (.ref b1), .val (.int (4 : Int32)), .val (.int (1 : Int32)), .val (.ref c0)]) (st' := [(.int (1 : Int32)), (.ref b1)]) rfl rfl (pc' := 16) rfl ?_
  refine oGet W3 A1 (v := (.ref c1)) (by decide) rfl (Or.inr (Or.inr (Or.inr ⟨rfl, rfl⟩))) (by decide +kernel) ?_
  refine oGo W3 [.astore 4, .aload 4] (by decide +kernel) (ls' := #[.val (.ref x), .val (.ref b1), .val (.int (4 : Int32)), .val (.int (1 : Int32)), .val (.ref c1)]) (st' := [(.ref c1)]) rfl rfl (pc' := 21) rfl ?_
  obtain ⟨T4, W4, st4⟩ := oGetF W3 (pc := 21) (ls := #[.val (.ref x), .val (.ref b1), .val (.int (4 : Int32)), .val (.int (1 : Int32)), .val (.ref c1)]) (st := []) (hw _ (List.mem_of_getElem? (i := 54) rfl)) Via.refl (F1c.ext W3.ext) (by decide +kernel)
  refine oLift st4 ?_
  refine oGo W4 [.aload_n 0] (by decide +kernel) (ls' := #[.val (.ref x), .val (.ref b1), .val (.int (4 : Int32)), .val (.int (1 : Int32)), .val (.ref c1)]) (st' := [(.ref x), (.ref l1)]) rfl rfl (pc' := 25) rfl ?_
  obtain ⟨v5, T5, L5, h5, vm5, W5, ⟨rfl, e5⟩, C5, st5⟩ := oCallV W4 (idx := 43) (pc := 25) (ls := #[.val (.ref x), .val (.ref b1), .val (.int (4 : Int32)), .val (.int (1 : Int32)), .val (.ref c1)]) (st := []) (argsL := [(.ref x)]) (T1c.exa.ext W4.ext) (k_Eq K.2.1 he (by decide) (by decide) (T1c.ext W4.ext) (F.ext E1)) (fun x hx => nomatch hx) (hw _ (List.mem_of_getElem? (i := 56) rfl)) (hw _ (List.mem_of_getElem? (i := 57) rfl)) (notFace_of_selects (args := #[]) (mvT W4.warm (hw _ (List.mem_of_getElem? (i := 59) rfl)))) (hw _ (List.mem_of_getElem? (i := 59) rfl)) (hw _ (List.mem_of_getElem? (i := 58) rfl)) (hw _ (List.mem_of_getElem? (i := 6) rfl)) (hw _ (List.mem_of_getElem? (i := 60) rfl)) (by decide) (na := 1) rfl (by decide +kernel) rfl (stk := [(.ref x), (.ref l1)]) rfl (by decide +kernel) (V := 0) (lb rfl) (lb rfl) (lb rfl) (lb rfl) (lb rfl)
  refine oLift st5 ?_
  rw [e5] at W5 C5
  show OG _ _ _ _ _ _ _ _ _ _ _ (mkF m 28 #[.val (.ref x), .val (.ref b1), .val (.int (4 : Int32)), .val (.int (1 : Int32)), .val (.ref c1)] [(.int (if ([98, 101, 104, 105, 110, 100] : List Int32) = [98, 101, 104, 105, 110, 100] then 1 else 0))])
  refine oIfF W5 (cd := .eq) (o := 6) (by decide +kernel) (XT.i0_eq_f (by decide)) (pc' := 31) rfl ?_
  refine oGo W5 [.aload 4] (by decide +kernel) (ls' := #[.val (.ref x), .val (.ref b1), .val (.int (4 : Int32)), .val (.int (1 : Int32)), .val (.ref c1)]) (st' := [(.ref c1)]) rfl rfl (pc' := 33) rfl ?_
  exact oRetA rfl W5 rfl rfl (by decide +kernel) (lb rfl) (lb rfl) (fun vm' hv => ⟨rfl, E1⟩)
abbrev rm_c_parse2 : Room := { frames := 2, cells := 1, slots := 4, locals := 28 }
set_option maxRecDepth 65536 in
set_option maxHeartbeats 40000000 in
theorem c_parse2 {l : Launch} {Z : State} {a0 : Array Value} {nb : Bool} (K : Ctx Z a0) {c0 c1 c2 c3 va : Addr} {kv : ClassId} {l0 l1 l2 l3 : Addr} (H : En Z c0 c1 c2 c3 va kv l0 l1 l2 l3) {x : Addr} {h0 : Heap} (F : Str Z h0 x [114, 101, 106, 101, 99, 116, 101, 100]) :
    OC l Z EL nb [] (⟨"com/example/irrmirror/irrmirror/SyncOutcome", "parse", "(Ljava/lang/String;)Lcom/example/irrmirror/irrmirror/SyncOutcome;"⟩ : MethodName) prog_26_method_4_code 5 (some (.object "com/example/irrmirror/irrmirror/SyncOutcome")) rm_c_parse2 #[(.ref x)] h0 [] (fun v _ h => v = some (.ref c2) ∧ Ext h0 h) := by
  have hw := K.1
  have hS := K.1
  have he := K.2.2
  obtain ⟨⟨S0c, S1c, S2c, S3c⟩, ⟨SV, AV, XV⟩, ⟨X0c, X1c, X2c, X3c⟩, ⟨F0c, F1c, F2c, F3c⟩, ⟨T0c, T1c, T2c, T3c⟩⟩ := id H
  refine oEnter (by decide +kernel) K.2.1.2.1 ?_
  intro _p _e _s m _below _meth _c T0 W0 S0
  refine oEq (g' := mkF m 0 #[.val (.ref x), .unset, .unset, .unset, .unset] []) (by first | (simp [entryFrame, mkF, argsToLocals, Value.category]; done) | rfl) ?_
  obtain ⟨v1, T1, L1, h1, vm1, W1, ⟨b1, rfl, E1, A1⟩, C1, st1⟩ := oCallS W0 (idx := 39) (pc := 0) (ls := #[.val (.ref x), .unset, .unset, .unset, .unset]) (st := []) (argsL := []) (c_values K H) (fun x hx => nomatch hx) (hw _ (List.mem_of_getElem? (i := 36) rfl)) (hw _ (List.mem_of_getElem? (i := 37) rfl)) (hw _ (List.mem_of_getElem? (i := 1) rfl)) (hw _ (List.mem_of_getElem? (i := 38) rfl)) (by decide) (na := 0) rfl (by decide +kernel) rfl (stk := []) rfl (by decide +kernel) (V := 0) (lb rfl) (lb rfl) (lb rfl) (lb rfl) (lb rfl)
  refine oLift st1 ?_
  show OG _ _ _ _ _ _ _ _ _ _ _ (mkF m 3 #[.val (.ref x), .unset, .unset, .unset, .unset] [(.ref b1)])
  refine oGo W1 [.astore_n 1, .aload_n 1] (by decide +kernel) (ls' := #[.val (.ref x), .val (.ref b1), .unset, .unset, .unset]) (st' := [(.ref b1)]) rfl rfl (pc' := 5) rfl ?_
  refine oLen W1 A1 (by decide +kernel) ?_
  show OG _ _ _ _ _ _ _ _ _ _ _ (mkF m 6 #[.val (.ref x), .val (.ref b1), .unset, .unset, .unset] [(.int (4 : Int32))])
  refine oGo W1 [.istore_n 2, .iconst 0, .istore_n 3] (by decide +kernel) (ls' := #[.val (.ref x), .val (.ref b1), .val (.int (4 : Int32)), .val (.int (0 : Int32)), .unset]) (st' := []) rfl rfl (pc' := 9) rfl ?_
  refine oGo W1 [.iload_n 3, .iload_n 2] (by decide +kernel) (ls' := #[.val (.ref x), .val (.ref b1), .val (.int (4 : Int32)), .val (.int (0 : Int32)), .unset]) (st' := [(.int (4 : Int32)), (.int (0 : Int32))]) rfl rfl (pc' := 11) rfl ?_
  refine oIcF W1 (cd := .ge) (o := 29) (by decide +kernel) (XT.ii_ge_f (by decide)) (pc' := 14) rfl ?_
  refine oGo W1 [.aload_n 1, .iload_n 3] (by decide +kernel) (ls' := #[.val (.ref x), .val (.ref b1), .val (.int (4 : Int32)), .val (.int (0 : Int32)), .unset]) (st' := [(.int (0 : Int32)), (.ref b1)]) rfl rfl (pc' := 16) rfl ?_
  refine oGet W1 A1 (v := (.ref c0)) (by decide) rfl (Or.inr (Or.inr (Or.inr ⟨rfl, rfl⟩))) (by decide +kernel) ?_
  refine oGo W1 [.astore 4, .aload 4] (by decide +kernel) (ls' := #[.val (.ref x), .val (.ref b1), .val (.int (4 : Int32)), .val (.int (0 : Int32)), .val (.ref c0)]) (st' := [(.ref c0)]) rfl rfl (pc' := 21) rfl ?_
  obtain ⟨T2, W2, st2⟩ := oGetF W1 (pc := 21) (ls := #[.val (.ref x), .val (.ref b1), .val (.int (4 : Int32)), .val (.int (0 : Int32)), .val (.ref c0)]) (st := []) (hw _ (List.mem_of_getElem? (i := 54) rfl)) Via.refl (F0c.ext W1.ext) (by decide +kernel)
  refine oLift st2 ?_
  refine oGo W2 [.aload_n 0] (by decide +kernel) (ls' := #[.val (.ref x), .val (.ref b1), .val (.int (4 : Int32)), .val (.int (0 : Int32)), .val (.ref c0)]) (st' := [(.ref x), (.ref l0)]) rfl rfl (pc' := 25) rfl ?_
  obtain ⟨v3, T3, L3, h3, vm3, W3, ⟨rfl, e3⟩, C3, st3⟩ := oCallV W2 (idx := 43) (pc := 25) (ls := #[.val (.ref x), .val (.ref b1), .val (.int (4 : Int32)), .val (.int (0 : Int32)), .val (.ref c0)]) (st := []) (argsL := [(.ref x)]) (T0c.exa.ext W2.ext) (k_Eq K.2.1 he (by decide) (by decide) (T0c.ext W2.ext) (F.ext E1)) (fun x hx => nomatch hx) (hw _ (List.mem_of_getElem? (i := 56) rfl)) (hw _ (List.mem_of_getElem? (i := 57) rfl)) (notFace_of_selects (args := #[]) (mvT W2.warm (hw _ (List.mem_of_getElem? (i := 59) rfl)))) (hw _ (List.mem_of_getElem? (i := 59) rfl)) (hw _ (List.mem_of_getElem? (i := 58) rfl)) (hw _ (List.mem_of_getElem? (i := 6) rfl)) (hw _ (List.mem_of_getElem? (i := 60) rfl)) (by decide) (na := 1) rfl (by decide +kernel) rfl (stk := [(.ref x), (.ref l0)]) rfl (by decide +kernel) (V := 0) (lb rfl) (lb rfl) (lb rfl) (lb rfl) (lb rfl)
  refine oLift st3 ?_
  rw [e3] at W3 C3
  show OG _ _ _ _ _ _ _ _ _ _ _ (mkF m 28 #[.val (.ref x), .val (.ref b1), .val (.int (4 : Int32)), .val (.int (0 : Int32)), .val (.ref c0)] [(.int (if ([99, 117, 114, 114, 101, 110, 116] : List Int32) = [114, 101, 106, 101, 99, 116, 101, 100] then 1 else 0))])
  refine oIfT W3 (cd := .eq) (o := 6) (by decide +kernel) (XT.i0_eq_t (by decide)) (pc' := 34) (by decide) (by decide) ?_
  refine oGo W3 [.iinc 3 1, .goto (-28)] (by decide +kernel) (ls' := #[.val (.ref x), .val (.ref b1), .val (.int (4 : Int32)), .val (.int (1 : Int32)), .val (.ref c0)]) (st' := []) rfl rfl (pc' := 9) rfl ?_
  refine oGo W3 [.iload_n 3, .iload_n 2] (by decide +kernel) (ls' := #[.val (.ref x), .val (.ref b1), .val (.int (4 : Int32)), .val (.int (1 : Int32)), .val (.ref c0)]) (st' := [(.int (4 : Int32)), (.int (1 : Int32))]) rfl rfl (pc' := 11) rfl ?_
  refine oIcF W3 (cd := .ge) (o := 29) (by decide +kernel) (XT.ii_ge_f (by decide)) (pc' := 14) rfl ?_
  refine oGo W3 [.aload_n 1, .iload_n 3] (by decide +kernel) (ls' := #[.val (.ref x), .val (.ref b1), .val (.int (4 : Int32)), .val (.int (1 : Int32)), .val (.ref c0)]) (st' := [(.int (1 : Int32)), (.ref b1)]) rfl rfl (pc' := 16) rfl ?_
  refine oGet W3 A1 (v := (.ref c1)) (by decide) rfl (Or.inr (Or.inr (Or.inr ⟨rfl, rfl⟩))) (by decide +kernel) ?_
  refine oGo W3 [.astore 4, .aload 4] (by decide +kernel) (ls' := #[.val (.ref x), .val (.ref b1), .val (.int (4 : Int32)), .val (.int (1 : Int32)), .val (.ref c1)]) (st' := [(.ref c1)]) rfl rfl (pc' := 21) rfl ?_
  obtain ⟨T4, W4, st4⟩ := oGetF W3 (pc := 21) (ls := #[.val (.ref x), .val (.ref b1), .val (.int (4 : Int32)), .val (.int (1 : Int32)), .val (.ref c1)]) (st := []) (hw _ (List.mem_of_getElem? (i := 54) rfl)) Via.refl (F1c.ext W3.ext) (by decide +kernel)
  refine oLift st4 ?_
  refine oGo W4 [.aload_n 0] (by decide +kernel) (ls' := #[.val (.ref x), .val (.ref b1), .val (.int (4 : Int32)), .val (.int (1 : Int32)), .val (.ref c1)]) (st' := [(.ref x), (.ref l1)]) rfl rfl (pc' := 25) rfl ?_
  obtain ⟨v5, T5, L5, h5, vm5, W5, ⟨rfl, e5⟩, C5, st5⟩ := oCallV W4 (idx := 43) (pc := 25) (ls := #[.val (.ref x), .val (.ref b1), .val (.int (4 : Int32)), .val (.int (1 : Int32)), .val (.ref c1)]) (st := []) (argsL := [(.ref x)]) (T1c.exa.ext W4.ext) (k_Eq K.2.1 he (by decide) (by decide) (T1c.ext W4.ext) (F.ext E1)) (fun x hx => nomatch hx) (hw _ (List.mem_of_getElem? (i := 56) rfl)) (hw _ (List.mem_of_getElem? (i := 57) rfl)) (notFace_of_selects (args := #[]) (mvT W4.warm (hw _ (List.mem_of_getElem? (i := 59) rfl)))) (hw _ (List.mem_of_getElem? (i := 59) rfl)) (hw _ (List.mem_of_getElem? (i := 58) rfl)) (hw _ (List.mem_of_getElem? (i := 6) rfl)) (hw _ (List.mem_of_getElem? (i := 60) rfl)) (by decide) (na := 1) rfl (by decide +kernel) rfl (stk := [(.ref x), (.ref l1)]) rfl (by decide +kernel) (V := 0) (lb rfl) (lb rfl) (lb rfl) (lb rfl) (lb rfl)
  refine oLift st5 ?_
  rw [e5] at W5 C5
  show OG _ _ _ _ _ _ _ _ _ _ _ (mkF m 28 #[.val (.ref x), .val (.ref b1), .val (.int (4 : Int32)), .val (.int (1 : Int32)), .val (.ref c1)] [(.int (if ([98, 101, 104, 105, 110, 100] : List Int32) = [114, 101, 106, 101, 99, 116, 101, 100] then 1 else 0))])
  refine oIfT W5 (cd := .eq) (o := 6) (by decide +kernel) (XT.i0_eq_t (by decide)) (pc' := 34) (by decide) (by decide) ?_
  refine oGo W5 [.iinc 3 1, .goto (-28)] (by decide +kernel) (ls' := #[.val (.ref x), .val (.ref b1), .val (.int (4 : Int32)), .val (.int (2 : Int32)), .val (.ref c1)]) (st' := []) rfl rfl (pc' := 9) rfl ?_
  refine oGo W5 [.iload_n 3, .iload_n 2] (by decide +kernel) (ls' := #[.val (.ref x), .val (.ref b1), .val (.int (4 : Int32)), .val (.int (2 : Int32)), .val (.ref c1)]) (st' := [(.int (4 : Int32)), (.int (2 : Int32))]) rfl rfl (pc' := 11) rfl ?_
  refine oIcF W5 (cd := .ge) (o := 29) (by decide +kernel) (XT.ii_ge_f (by decide)) (pc' := 14) rfl ?_
  refine oGo W5 [.aload_n 1, .iload_n 3] (by decide +kernel) (ls' := #[.val (.ref x), .val (.ref b1), .val (.int (4 : Int32)), .val (.int (2 : Int32)), .val (.ref c1)]) (st' := [(.int (2 : Int32)), (.ref b1)]) rfl rfl (pc' := 16) rfl ?_
  refine oGet W5 A1 (v := (.ref c2)) (by decide) rfl (Or.inr (Or.inr (Or.inr ⟨rfl, rfl⟩))) (by decide +kernel) ?_
  refine oGo W5 [.astore 4, .aload 4] (by decide +kernel) (ls' := #[.val (.ref x), .val (.ref b1), .val (.int (4 : Int32)), .val (.int (2 : Int32)), .val (.ref c2)]) (st' := [(.ref c2)]) rfl rfl (pc' := 21) rfl ?_
  obtain ⟨T6, W6, st6⟩ := oGetF W5 (pc := 21) (ls := #[.val (.ref x), .val (.ref b1), .val (.int (4 : Int32)), .val (.int (2 : Int32)), .val (.ref c2)]) (st := []) (hw _ (List.mem_of_getElem? (i := 54) rfl)) Via.refl (F2c.ext W5.ext) (by decide +kernel)
  refine oLift st6 ?_
  refine oGo W6 [.aload_n 0] (by decide +kernel) (ls' := #[.val (.ref x), .val (.ref b1), .val (.int (4 : Int32)), .val (.int (2 : Int32)), .val (.ref c2)]) (st' := [(.ref x), (.ref l2)]) rfl rfl (pc' := 25) rfl ?_
  obtain ⟨v7, T7, L7, h7, vm7, W7, ⟨rfl, e7⟩, C7, st7⟩ := oCallV W6 (idx := 43) (pc := 25) (ls := #[.val (.ref x), .val (.ref b1), .val (.int (4 : Int32)), .val (.int (2 : Int32)), .val (.ref c2)]) (st := []) (argsL := [(.ref x)]) (T2c.exa.ext W6.ext) (k_Eq K.2.1 he (by decide) (by decide) (T2c.ext W6.ext) (F.ext E1)) (fun x hx => nomatch hx) (hw _ (List.mem_of_getElem? (i := 56) rfl)) (hw _ (List.mem_of_getElem? (i := 57) rfl)) (notFace_of_selects (args := #[]) (mvT W6.warm (hw _ (List.mem_of_getElem? (i := 59) rfl)))) (hw _ (List.mem_of_getElem? (i := 59) rfl)) (hw _ (List.mem_of_getElem? (i := 58) rfl)) (hw _ (List.mem_of_getElem? (i := 6) rfl)) (hw _ (List.mem_of_getElem? (i := 60) rfl)) (by decide) (na := 1) rfl (by decide +kernel) rfl (stk := [(.ref x), (.ref l2)]) rfl (by decide +kernel) (V := 0) (lb rfl) (lb rfl) (lb rfl) (lb rfl) (lb rfl)
  refine oLift st7 ?_
  rw [e7] at W7 C7
  show OG _ _ _ _ _ _ _ _ _ _ _ (mkF m 28 #[.val (.ref x), .val (.ref b1), .val (.int (4 : Int32)), .val (.int (2 : Int32)), .val (.ref c2)] [(.int (if ([114, 101, 106, 101, 99, 116, 101, 100] : List Int32) = [114, 101, 106, 101, 99, 116, 101, 100] then 1 else 0))])
  refine oIfF W7 (cd := .eq) (o := 6) (by decide +kernel) (XT.i0_eq_f (by decide)) (pc' := 31) rfl ?_
  refine oGo W7 [.aload 4] (by decide +kernel) (ls' := #[.val (.ref x), .val (.ref b1), .val (.int (4 : Int32)), .val (.int (2 : Int32)), .val (.ref c2)]) (st' := [(.ref c2)]) rfl rfl (pc' := 33) rfl ?_
  exact oRetA rfl W7 rfl rfl (by decide +kernel) (lb rfl) (lb rfl) (fun vm' hv => ⟨rfl, E1⟩)
abbrev rm_c_parse3 : Room := { frames := 2, cells := 1, slots := 4, locals := 28 }
set_option maxRecDepth 65536 in
set_option maxHeartbeats 40000000 in
theorem c_parse3 {l : Launch} {Z : State} {a0 : Array Value} {nb : Bool} (K : Ctx Z a0) {c0 c1 c2 c3 va : Addr} {kv : ClassId} {l0 l1 l2 l3 : Addr} (H : En Z c0 c1 c2 c3 va kv l0 l1 l2 l3) {x : Addr} {h0 : Heap} (F : Str Z h0 x [115, 116, 111, 112, 112, 101, 100]) :
    OC l Z EL nb [] (⟨"com/example/irrmirror/irrmirror/SyncOutcome", "parse", "(Ljava/lang/String;)Lcom/example/irrmirror/irrmirror/SyncOutcome;"⟩ : MethodName) prog_26_method_4_code 5 (some (.object "com/example/irrmirror/irrmirror/SyncOutcome")) rm_c_parse3 #[(.ref x)] h0 [] (fun v _ h => v = some (.ref c3) ∧ Ext h0 h) := by
  have hw := K.1
  have hS := K.1
  have he := K.2.2
  obtain ⟨⟨S0c, S1c, S2c, S3c⟩, ⟨SV, AV, XV⟩, ⟨X0c, X1c, X2c, X3c⟩, ⟨F0c, F1c, F2c, F3c⟩, ⟨T0c, T1c, T2c, T3c⟩⟩ := id H
  refine oEnter (by decide +kernel) K.2.1.2.1 ?_
  intro _p _e _s m _below _meth _c T0 W0 S0
  refine oEq (g' := mkF m 0 #[.val (.ref x), .unset, .unset, .unset, .unset] []) (by first | (simp [entryFrame, mkF, argsToLocals, Value.category]; done) | rfl) ?_
  obtain ⟨v1, T1, L1, h1, vm1, W1, ⟨b1, rfl, E1, A1⟩, C1, st1⟩ := oCallS W0 (idx := 39) (pc := 0) (ls := #[.val (.ref x), .unset, .unset, .unset, .unset]) (st := []) (argsL := []) (c_values K H) (fun x hx => nomatch hx) (hw _ (List.mem_of_getElem? (i := 36) rfl)) (hw _ (List.mem_of_getElem? (i := 37) rfl)) (hw _ (List.mem_of_getElem? (i := 1) rfl)) (hw _ (List.mem_of_getElem? (i := 38) rfl)) (by decide) (na := 0) rfl (by decide +kernel) rfl (stk := []) rfl (by decide +kernel) (V := 0) (lb rfl) (lb rfl) (lb rfl) (lb rfl) (lb rfl)
  refine oLift st1 ?_
  show OG _ _ _ _ _ _ _ _ _ _ _ (mkF m 3 #[.val (.ref x), .unset, .unset, .unset, .unset] [(.ref b1)])
  refine oGo W1 [.astore_n 1, .aload_n 1] (by decide +kernel) (ls' := #[.val (.ref x), .val (.ref b1), .unset, .unset, .unset]) (st' := [(.ref b1)]) rfl rfl (pc' := 5) rfl ?_
  refine oLen W1 A1 (by decide +kernel) ?_
  show OG _ _ _ _ _ _ _ _ _ _ _ (mkF m 6 #[.val (.ref x), .val (.ref b1), .unset, .unset, .unset] [(.int (4 : Int32))])
  refine oGo W1 [.istore_n 2, .iconst 0, .istore_n 3] (by decide +kernel) (ls' := #[.val (.ref x), .val (.ref b1), .val (.int (4 : Int32)), .val (.int (0 : Int32)), .unset]) (st' := []) rfl rfl (pc' := 9) rfl ?_
  refine oGo W1 [.iload_n 3, .iload_n 2] (by decide +kernel) (ls' := #[.val (.ref x), .val (.ref b1), .val (.int (4 : Int32)), .val (.int (0 : Int32)), .unset]) (st' := [(.int (4 : Int32)), (.int (0 : Int32))]) rfl rfl (pc' := 11) rfl ?_
  refine oIcF W1 (cd := .ge) (o := 29) (by decide +kernel) (XT.ii_ge_f (by decide)) (pc' := 14) rfl ?_
  refine oGo W1 [.aload_n 1, .iload_n 3] (by decide +kernel) (ls' := #[.val (.ref x), .val (.ref b1), .val (.int (4 : Int32)), .val (.int (0 : Int32)), .unset]) (st' := [(.int (0 : Int32)), (.ref b1)]) rfl rfl (pc' := 16) rfl ?_
  refine oGet W1 A1 (v := (.ref c0)) (by decide) rfl (Or.inr (Or.inr (Or.inr ⟨rfl, rfl⟩))) (by decide +kernel) ?_
  refine oGo W1 [.astore 4, .aload 4] (by decide +kernel) (ls' := #[.val (.ref x), .val (.ref b1), .val (.int (4 : Int32)), .val (.int (0 : Int32)), .val (.ref c0)]) (st' := [(.ref c0)]) rfl rfl (pc' := 21) rfl ?_
  obtain ⟨T2, W2, st2⟩ := oGetF W1 (pc := 21) (ls := #[.val (.ref x), .val (.ref b1), .val (.int (4 : Int32)), .val (.int (0 : Int32)), .val (.ref c0)]) (st := []) (hw _ (List.mem_of_getElem? (i := 54) rfl)) Via.refl (F0c.ext W1.ext) (by decide +kernel)
  refine oLift st2 ?_
  refine oGo W2 [.aload_n 0] (by decide +kernel) (ls' := #[.val (.ref x), .val (.ref b1), .val (.int (4 : Int32)), .val (.int (0 : Int32)), .val (.ref c0)]) (st' := [(.ref x), (.ref l0)]) rfl rfl (pc' := 25) rfl ?_
  obtain ⟨v3, T3, L3, h3, vm3, W3, ⟨rfl, e3⟩, C3, st3⟩ := oCallV W2 (idx := 43) (pc := 25) (ls := #[.val (.ref x), .val (.ref b1), .val (.int (4 : Int32)), .val (.int (0 : Int32)), .val (.ref c0)]) (st := []) (argsL := [(.ref x)]) (T0c.exa.ext W2.ext) (k_Eq K.2.1 he (by decide) (by decide) (T0c.ext W2.ext) (F.ext E1)) (fun x hx => nomatch hx) (hw _ (List.mem_of_getElem? (i := 56) rfl)) (hw _ (List.mem_of_getElem? (i := 57) rfl)) (notFace_of_selects (args := #[]) (mvT W2.warm (hw _ (List.mem_of_getElem? (i := 59) rfl)))) (hw _ (List.mem_of_getElem? (i := 59) rfl)) (hw _ (List.mem_of_getElem? (i := 58) rfl)) (hw _ (List.mem_of_getElem? (i := 6) rfl)) (hw _ (List.mem_of_getElem? (i := 60) rfl)) (by decide) (na := 1) rfl (by decide +kernel) rfl (stk := [(.ref x), (.ref l0)]) rfl (by decide +kernel) (V := 0) (lb rfl) (lb rfl) (lb rfl) (lb rfl) (lb rfl)
  refine oLift st3 ?_
  rw [e3] at W3 C3
  show OG _ _ _ _ _ _ _ _ _ _ _ (mkF m 28 #[.val (.ref x), .val (.ref b1), .val (.int (4 : Int32)), .val (.int (0 : Int32)), .val (.ref c0)] [(.int (if ([99, 117, 114, 114, 101, 110, 116] : List Int32) = [115, 116, 111, 112, 112, 101, 100] then 1 else 0))])
  refine oIfT W3 (cd := .eq) (o := 6) (by decide +kernel) (XT.i0_eq_t (by decide)) (pc' := 34) (by decide) (by decide) ?_
  refine oGo W3 [.iinc 3 1, .goto (-28)] (by decide +kernel) (ls' := #[.val (.ref x), .val (.ref b1), .val (.int (4 : Int32)), .val (.int (1 : Int32)), .val (.ref c0)]) (st' := []) rfl rfl (pc' := 9) rfl ?_
  refine oGo W3 [.iload_n 3, .iload_n 2] (by decide +kernel) (ls' := #[.val (.ref x), .val (.ref b1), .val (.int (4 : Int32)), .val (.int (1 : Int32)), .val (.ref c0)]) (st' := [(.int (4 : Int32)), (.int (1 : Int32))]) rfl rfl (pc' := 11) rfl ?_
  refine oIcF W3 (cd := .ge) (o := 29) (by decide +kernel) (XT.ii_ge_f (by decide)) (pc' := 14) rfl ?_
  refine oGo W3 [.aload_n 1, .iload_n 3] (by decide +kernel) (ls' := #[.val (.ref x), .val (.ref b1), .val (.int (4 : Int32)), .val (.int (1 : Int32)), .val (.ref c0)]) (st' := [(.int (1 : Int32)), (.ref b1)]) rfl rfl (pc' := 16) rfl ?_
  refine oGet W3 A1 (v := (.ref c1)) (by decide) rfl (Or.inr (Or.inr (Or.inr ⟨rfl, rfl⟩))) (by decide +kernel) ?_
  refine oGo W3 [.astore 4, .aload 4] (by decide +kernel) (ls' := #[.val (.ref x), .val (.ref b1), .val (.int (4 : Int32)), .val (.int (1 : Int32)), .val (.ref c1)]) (st' := [(.ref c1)]) rfl rfl (pc' := 21) rfl ?_
  obtain ⟨T4, W4, st4⟩ := oGetF W3 (pc := 21) (ls := #[.val (.ref x), .val (.ref b1), .val (.int (4 : Int32)), .val (.int (1 : Int32)), .val (.ref c1)]) (st := []) (hw _ (List.mem_of_getElem? (i := 54) rfl)) Via.refl (F1c.ext W3.ext) (by decide +kernel)
  refine oLift st4 ?_
  refine oGo W4 [.aload_n 0] (by decide +kernel) (ls' := #[.val (.ref x), .val (.ref b1), .val (.int (4 : Int32)), .val (.int (1 : Int32)), .val (.ref c1)]) (st' := [(.ref x), (.ref l1)]) rfl rfl (pc' := 25) rfl ?_
  obtain ⟨v5, T5, L5, h5, vm5, W5, ⟨rfl, e5⟩, C5, st5⟩ := oCallV W4 (idx := 43) (pc := 25) (ls := #[.val (.ref x), .val (.ref b1), .val (.int (4 : Int32)), .val (.int (1 : Int32)), .val (.ref c1)]) (st := []) (argsL := [(.ref x)]) (T1c.exa.ext W4.ext) (k_Eq K.2.1 he (by decide) (by decide) (T1c.ext W4.ext) (F.ext E1)) (fun x hx => nomatch hx) (hw _ (List.mem_of_getElem? (i := 56) rfl)) (hw _ (List.mem_of_getElem? (i := 57) rfl)) (notFace_of_selects (args := #[]) (mvT W4.warm (hw _ (List.mem_of_getElem? (i := 59) rfl)))) (hw _ (List.mem_of_getElem? (i := 59) rfl)) (hw _ (List.mem_of_getElem? (i := 58) rfl)) (hw _ (List.mem_of_getElem? (i := 6) rfl)) (hw _ (List.mem_of_getElem? (i := 60) rfl)) (by decide) (na := 1) rfl (by decide +kernel) rfl (stk := [(.ref x), (.ref l1)]) rfl (by decide +kernel) (V := 0) (lb rfl) (lb rfl) (lb rfl) (lb rfl) (lb rfl)
  refine oLift st5 ?_
  rw [e5] at W5 C5
  show OG _ _ _ _ _ _ _ _ _ _ _ (mkF m 28 #[.val (.ref x), .val (.ref b1), .val (.int (4 : Int32)), .val (.int (1 : Int32)), .val (.ref c1)] [(.int (if ([98, 101, 104, 105, 110, 100] : List Int32) = [115, 116, 111, 112, 112, 101, 100] then 1 else 0))])
  refine oIfT W5 (cd := .eq) (o := 6) (by decide +kernel) (XT.i0_eq_t (by decide)) (pc' := 34) (by decide) (by decide) ?_
  refine oGo W5 [.iinc 3 1, .goto (-28)] (by decide +kernel) (ls' := #[.val (.ref x), .val (.ref b1), .val (.int (4 : Int32)), .val (.int (2 : Int32)), .val (.ref c1)]) (st' := []) rfl rfl (pc' := 9) rfl ?_
  refine oGo W5 [.iload_n 3, .iload_n 2] (by decide +kernel) (ls' := #[.val (.ref x), .val (.ref b1), .val (.int (4 : Int32)), .val (.int (2 : Int32)), .val (.ref c1)]) (st' := [(.int (4 : Int32)), (.int (2 : Int32))]) rfl rfl (pc' := 11) rfl ?_
  refine oIcF W5 (cd := .ge) (o := 29) (by decide +kernel) (XT.ii_ge_f (by decide)) (pc' := 14) rfl ?_
  refine oGo W5 [.aload_n 1, .iload_n 3] (by decide +kernel) (ls' := #[.val (.ref x), .val (.ref b1), .val (.int (4 : Int32)), .val (.int (2 : Int32)), .val (.ref c1)]) (st' := [(.int (2 : Int32)), (.ref b1)]) rfl rfl (pc' := 16) rfl ?_
  refine oGet W5 A1 (v := (.ref c2)) (by decide) rfl (Or.inr (Or.inr (Or.inr ⟨rfl, rfl⟩))) (by decide +kernel) ?_
  refine oGo W5 [.astore 4, .aload 4] (by decide +kernel) (ls' := #[.val (.ref x), .val (.ref b1), .val (.int (4 : Int32)), .val (.int (2 : Int32)), .val (.ref c2)]) (st' := [(.ref c2)]) rfl rfl (pc' := 21) rfl ?_
  obtain ⟨T6, W6, st6⟩ := oGetF W5 (pc := 21) (ls := #[.val (.ref x), .val (.ref b1), .val (.int (4 : Int32)), .val (.int (2 : Int32)), .val (.ref c2)]) (st := []) (hw _ (List.mem_of_getElem? (i := 54) rfl)) Via.refl (F2c.ext W5.ext) (by decide +kernel)
  refine oLift st6 ?_
  refine oGo W6 [.aload_n 0] (by decide +kernel) (ls' := #[.val (.ref x), .val (.ref b1), .val (.int (4 : Int32)), .val (.int (2 : Int32)), .val (.ref c2)]) (st' := [(.ref x), (.ref l2)]) rfl rfl (pc' := 25) rfl ?_
  obtain ⟨v7, T7, L7, h7, vm7, W7, ⟨rfl, e7⟩, C7, st7⟩ := oCallV W6 (idx := 43) (pc := 25) (ls := #[.val (.ref x), .val (.ref b1), .val (.int (4 : Int32)), .val (.int (2 : Int32)), .val (.ref c2)]) (st := []) (argsL := [(.ref x)]) (T2c.exa.ext W6.ext) (k_Eq K.2.1 he (by decide) (by decide) (T2c.ext W6.ext) (F.ext E1)) (fun x hx => nomatch hx) (hw _ (List.mem_of_getElem? (i := 56) rfl)) (hw _ (List.mem_of_getElem? (i := 57) rfl)) (notFace_of_selects (args := #[]) (mvT W6.warm (hw _ (List.mem_of_getElem? (i := 59) rfl)))) (hw _ (List.mem_of_getElem? (i := 59) rfl)) (hw _ (List.mem_of_getElem? (i := 58) rfl)) (hw _ (List.mem_of_getElem? (i := 6) rfl)) (hw _ (List.mem_of_getElem? (i := 60) rfl)) (by decide) (na := 1) rfl (by decide +kernel) rfl (stk := [(.ref x), (.ref l2)]) rfl (by decide +kernel) (V := 0) (lb rfl) (lb rfl) (lb rfl) (lb rfl) (lb rfl)
  refine oLift st7 ?_
  rw [e7] at W7 C7
  show OG _ _ _ _ _ _ _ _ _ _ _ (mkF m 28 #[.val (.ref x), .val (.ref b1), .val (.int (4 : Int32)), .val (.int (2 : Int32)), .val (.ref c2)] [(.int (if ([114, 101, 106, 101, 99, 116, 101, 100] : List Int32) = [115, 116, 111, 112, 112, 101, 100] then 1 else 0))])
  refine oIfT W7 (cd := .eq) (o := 6) (by decide +kernel) (XT.i0_eq_t (by decide)) (pc' := 34) (by decide) (by decide) ?_
  refine oGo W7 [.iinc 3 1, .goto (-28)] (by decide +kernel) (ls' := #[.val (.ref x), .val (.ref b1), .val (.int (4 : Int32)), .val (.int (3 : Int32)), .val (.ref c2)]) (st' := []) rfl rfl (pc' := 9) rfl ?_
  refine oGo W7 [.iload_n 3, .iload_n 2] (by decide +kernel) (ls' := #[.val (.ref x), .val (.ref b1), .val (.int (4 : Int32)), .val (.int (3 : Int32)), .val (.ref c2)]) (st' := [(.int (4 : Int32)), (.int (3 : Int32))]) rfl rfl (pc' := 11) rfl ?_
  refine oIcF W7 (cd := .ge) (o := 29) (by decide +kernel) (XT.ii_ge_f (by decide)) (pc' := 14) rfl ?_
  refine oGo W7 [.aload_n 1, .iload_n 3] (by decide +kernel) (ls' := #[.val (.ref x), .val (.ref b1), .val (.int (4 : Int32)), .val (.int (3 : Int32)), .val (.ref c2)]) (st' := [(.int (3 : Int32)), (.ref b1)]) rfl rfl (pc' := 16) rfl ?_
  refine oGet W7 A1 (v := (.ref c3)) (by decide) rfl (Or.inr (Or.inr (Or.inr ⟨rfl, rfl⟩))) (by decide +kernel) ?_
  refine oGo W7 [.astore 4, .aload 4] (by decide +kernel) (ls' := #[.val (.ref x), .val (.ref b1), .val (.int (4 : Int32)), .val (.int (3 : Int32)), .val (.ref c3)]) (st' := [(.ref c3)]) rfl rfl (pc' := 21) rfl ?_
  obtain ⟨T8, W8, st8⟩ := oGetF W7 (pc := 21) (ls := #[.val (.ref x), .val (.ref b1), .val (.int (4 : Int32)), .val (.int (3 : Int32)), .val (.ref c3)]) (st := []) (hw _ (List.mem_of_getElem? (i := 54) rfl)) Via.refl (F3c.ext W7.ext) (by decide +kernel)
  refine oLift st8 ?_
  refine oGo W8 [.aload_n 0] (by decide +kernel) (ls' := #[.val (.ref x), .val (.ref b1), .val (.int (4 : Int32)), .val (.int (3 : Int32)), .val (.ref c3)]) (st' := [(.ref x), (.ref l3)]) rfl rfl (pc' := 25) rfl ?_
  obtain ⟨v9, T9, L9, h9, vm9, W9, ⟨rfl, e9⟩, C9, st9⟩ := oCallV W8 (idx := 43) (pc := 25) (ls := #[.val (.ref x), .val (.ref b1), .val (.int (4 : Int32)), .val (.int (3 : Int32)), .val (.ref c3)]) (st := []) (argsL := [(.ref x)]) (T3c.exa.ext W8.ext) (k_Eq K.2.1 he (by decide) (by decide) (T3c.ext W8.ext) (F.ext E1)) (fun x hx => nomatch hx) (hw _ (List.mem_of_getElem? (i := 56) rfl)) (hw _ (List.mem_of_getElem? (i := 57) rfl)) (notFace_of_selects (args := #[]) (mvT W8.warm (hw _ (List.mem_of_getElem? (i := 59) rfl)))) (hw _ (List.mem_of_getElem? (i := 59) rfl)) (hw _ (List.mem_of_getElem? (i := 58) rfl)) (hw _ (List.mem_of_getElem? (i := 6) rfl)) (hw _ (List.mem_of_getElem? (i := 60) rfl)) (by decide) (na := 1) rfl (by decide +kernel) rfl (stk := [(.ref x), (.ref l3)]) rfl (by decide +kernel) (V := 0) (lb rfl) (lb rfl) (lb rfl) (lb rfl) (lb rfl)
  refine oLift st9 ?_
  rw [e9] at W9 C9
  show OG _ _ _ _ _ _ _ _ _ _ _ (mkF m 28 #[.val (.ref x), .val (.ref b1), .val (.int (4 : Int32)), .val (.int (3 : Int32)), .val (.ref c3)] [(.int (if ([115, 116, 111, 112, 112, 101, 100] : List Int32) = [115, 116, 111, 112, 112, 101, 100] then 1 else 0))])
  refine oIfF W9 (cd := .eq) (o := 6) (by decide +kernel) (XT.i0_eq_f (by decide)) (pc' := 31) rfl ?_
  refine oGo W9 [.aload 4] (by decide +kernel) (ls' := #[.val (.ref x), .val (.ref b1), .val (.int (4 : Int32)), .val (.int (3 : Int32)), .val (.ref c3)]) (st' := [(.ref c3)]) rfl rfl (pc' := 33) rfl ?_
  exact oRetA rfl W9 rfl rfl (by decide +kernel) (lb rfl) (lb rfl) (fun vm' hv => ⟨rfl, E1⟩)
abbrev rm_c_tos : Room := { frames := 0, cells := 0, slots := 0, locals := 0 }
set_option maxRecDepth 65536 in
set_option maxHeartbeats 40000000 in
theorem c_tos {l : Launch} {Z : State} {a0 : Array Value} {nb : Bool} (K : Ctx Z a0) {c l0 : Addr} {h0 : Heap} (F : Fld Z h0 c "com/example/irrmirror/irrmirror/SyncOutcome" "label" "Ljava/lang/String;" (.ref l0)) :
    OC l Z EL nb [] (⟨"com/example/irrmirror/irrmirror/SyncOutcome", "toString", "()Ljava/lang/String;"⟩ : MethodName) prog_26_method_5_code 1 (some (.object "java/lang/String")) rm_c_tos #[(.ref c)] h0 [] (fun v _ h => v = some (.ref l0) ∧ h = h0) := by
  have hw := K.1
  have hS := K.1
  refine oEnter (by decide +kernel) K.2.1.2.1 ?_
  intro _p _e _s m _below _meth _c T0 W0 S0
  refine oEq (g' := mkF m 0 #[.val (.ref c)] []) (by first | (simp [entryFrame, mkF, argsToLocals, Value.category]; done) | rfl) ?_
  refine oGo W0 [.aload_n 0] (by decide +kernel) (ls' := #[.val (.ref c)]) (st' := [(.ref c)]) rfl rfl (pc' := 1) rfl ?_
  obtain ⟨T1, W1, st1⟩ := oGetF W0 (pc := 1) (ls := #[.val (.ref c)]) (st := []) (hw _ (List.mem_of_getElem? (i := 54) rfl)) Via.refl F (by decide +kernel)
  refine oLift st1 ?_
  exact oRetA rfl W1 rfl rfl (by decide +kernel) (lb rfl) (lb rfl) (fun vm' hv => ⟨rfl, rfl⟩)
set_option maxRecDepth 65536 in
set_option maxHeartbeats 40000000 in
theorem c_law {l : Launch} {Z : State} {a0 : Array Value} (K : Ctx Z a0) (i0 : Int32) (c0 c1 c2 c3 va : Addr) (kv : ClassId) (l0 l1 l2 l3 : Addr) (H : En Z c0 c1 c2 c3 va kv l0 l1 l2 l3) (h0 : Heap) :
    OC l Z EL true tables_1 x code maxLocals ret room_1 #[(.int i0)] h0 [] (fun v _ h => v = some (.int 1)) := by
  have hw := K.1
  have hS := K.1
  have he := K.2.2
  obtain ⟨⟨S0c, S1c, S2c, S3c⟩, ⟨SV, AV, XV⟩, ⟨X0c, X1c, X2c, X3c⟩, ⟨F0c, F1c, F2c, F3c⟩, ⟨T0c, T1c, T2c, T3c⟩⟩ := id H
  refine oEnter (by decide +kernel) K.2.1.2.1 ?_
  intro _p _e _s m _below _meth _c T0 W0 S0
  refine oEq (g' := mkF m 0 #[.val (.int i0), .unset, .unset, .unset, .unset, .unset] []) (by first | (simp [entryFrame, mkF, argsToLocals, Value.category, maxLocals]; done) | rfl) ?_
  refine oGo W0 [.iload_n 0, .iconst 3, .iand, .istore_n 1, .iload_n 1] (by decide +kernel) (ls' := #[.val (.int i0), .val (.int (i0 &&& (3 : Int32))), .unset, .unset, .unset, .unset]) (st' := [(.int (i0 &&& (3 : Int32)))]) rfl rfl (pc' := 5) rfl ?_
  by_cases hc1 : (i0 &&& (3 : Int32)) = (0 : Int32)
  · refine oIfF W0 (cd := .ne) (o := 51) (by decide +kernel) (XT.i0_ne_f hc1) (pc' := 8) rfl ?_
    obtain ⟨T2, W2, st2⟩ := oGetS W0 (pc := 8) (ls := #[.val (.int i0), .val (.int (i0 &&& (3 : Int32))), .unset, .unset, .unset, .unset]) (st := []) (hw _ (List.mem_of_getElem? (i := 0) rfl)) Via.refl (S0c.ext W0.ext) (by decide +kernel)
    refine oLift st2 ?_
    refine oGo W2 [.astore_n 2, .bipush 7] (by decide +kernel) (ls' := #[.val (.int i0), .val (.int (i0 &&& (3 : Int32))), .val (.ref c0), .unset, .unset, .unset]) (st' := [(.int (7 : Int32))]) rfl rfl (pc' := 14) rfl ?_
    obtain ⟨T3, h3, a3, k3, W3, g3, E3, A3, S3, C3, st3⟩ := oNewA W2 (aty := .char) (pc := 14) (ls := #[.val (.int i0), .val (.int (i0 &&& (3 : Int32))), .val (.ref c0), .unset, .unset, .unset]) (st := []) (hw _ (List.mem_of_getElem? (i := 3) rfl)) (by decide +kernel) (n := (7 : Int32)) (by decide) (cap := 7) (lb rfl) (lb rfl) (lb rfl) (lb rfl)
    refine oLift st3 ?_
    have A3 : OA Z h3 a3 k3 .char [.int 0, .int 0, .int 0, .int 0, .int 0, .int 0, .int 0] := A3
    refine oGo W3 [.dup, .iconst 0, .bipush 99] (by decide +kernel) (ls' := #[.val (.int i0), .val (.int (i0 &&& (3 : Int32))), .val (.ref c0), .unset, .unset, .unset]) (st' := [(.int (99 : Int32)), (.int (0 : Int32)), (.ref a3), (.ref a3)]) rfl rfl (pc' := 20) rfl ?_
    obtain ⟨T4, h4, W4, Wr4, A4, C4, st4⟩ := oPut W3 A3 (j := (0 : Int32)) (x := (99 : Int32)) (x' := (99 : Int32)) (pc := 20) (ls := #[.val (.int i0), .val (.int (i0 &&& (3 : Int32))), .val (.ref c0), .unset, .unset, .unset]) (st := [(.ref a3)]) (by decide) (i := 0) (by decide) (by simp) (Nat.le_trans W0.ext.1 g3) (A3.safe W3.warm.alike (by decide)) (ins := .castore) (Or.inl ⟨rfl, rfl, rfl⟩) (by decide +kernel)
    refine oLift st4 ?_
    have A4 : OA Z h4 a3 k3 .char [.int (99 : Int32), .int 0, .int 0, .int 0, .int 0, .int 0, .int 0] := A4
    refine oGo W4 [.dup, .iconst 1, .bipush 117] (by decide +kernel) (ls' := #[.val (.int i0), .val (.int (i0 &&& (3 : Int32))), .val (.ref c0), .unset, .unset, .unset]) (st' := [(.int (117 : Int32)), (.int (1 : Int32)), (.ref a3), (.ref a3)]) rfl rfl (pc' := 25) rfl ?_
    obtain ⟨T5, h5, W5, Wr5, A5, C5, st5⟩ := oPut W4 A4 (j := (1 : Int32)) (x := (117 : Int32)) (x' := (117 : Int32)) (pc := 25) (ls := #[.val (.int i0), .val (.int (i0 &&& (3 : Int32))), .val (.ref c0), .unset, .unset, .unset]) (st := [(.ref a3)]) (by decide) (i := 1) (by decide) (by simp) (Nat.le_trans W0.ext.1 g3) (A4.safe W4.warm.alike (by decide)) (ins := .castore) (Or.inl ⟨rfl, rfl, rfl⟩) (by decide +kernel)
    refine oLift st5 ?_
    have A5 : OA Z h5 a3 k3 .char [.int (99 : Int32), .int (117 : Int32), .int 0, .int 0, .int 0, .int 0, .int 0] := A5
    refine oGo W5 [.dup, .iconst 2, .bipush 114] (by decide +kernel) (ls' := #[.val (.int i0), .val (.int (i0 &&& (3 : Int32))), .val (.ref c0), .unset, .unset, .unset]) (st' := [(.int (114 : Int32)), (.int (2 : Int32)), (.ref a3), (.ref a3)]) rfl rfl (pc' := 30) rfl ?_
    obtain ⟨T6, h6, W6, Wr6, A6, C6, st6⟩ := oPut W5 A5 (j := (2 : Int32)) (x := (114 : Int32)) (x' := (114 : Int32)) (pc := 30) (ls := #[.val (.int i0), .val (.int (i0 &&& (3 : Int32))), .val (.ref c0), .unset, .unset, .unset]) (st := [(.ref a3)]) (by decide) (i := 2) (by decide) (by simp) (Nat.le_trans W0.ext.1 g3) (A5.safe W5.warm.alike (by decide)) (ins := .castore) (Or.inl ⟨rfl, rfl, rfl⟩) (by decide +kernel)
    refine oLift st6 ?_
    have A6 : OA Z h6 a3 k3 .char [.int (99 : Int32), .int (117 : Int32), .int (114 : Int32), .int 0, .int 0, .int 0, .int 0] := A6
    refine oGo W6 [.dup, .iconst 3, .bipush 114] (by decide +kernel) (ls' := #[.val (.int i0), .val (.int (i0 &&& (3 : Int32))), .val (.ref c0), .unset, .unset, .unset]) (st' := [(.int (114 : Int32)), (.int (3 : Int32)), (.ref a3), (.ref a3)]) rfl rfl (pc' := 35) rfl ?_
    obtain ⟨T7, h7, W7, Wr7, A7, C7, st7⟩ := oPut W6 A6 (j := (3 : Int32)) (x := (114 : Int32)) (x' := (114 : Int32)) (pc := 35) (ls := #[.val (.int i0), .val (.int (i0 &&& (3 : Int32))), .val (.ref c0), .unset, .unset, .unset]) (st := [(.ref a3)]) (by decide) (i := 3) (by decide) (by simp) (Nat.le_trans W0.ext.1 g3) (A6.safe W6.warm.alike (by decide)) (ins := .castore) (Or.inl ⟨rfl, rfl, rfl⟩) (by decide +kernel)
    refine oLift st7 ?_
    have A7 : OA Z h7 a3 k3 .char [.int (99 : Int32), .int (117 : Int32), .int (114 : Int32), .int (114 : Int32), .int 0, .int 0, .int 0] := A7
    refine oGo W7 [.dup, .iconst 4, .bipush 101] (by decide +kernel) (ls' := #[.val (.int i0), .val (.int (i0 &&& (3 : Int32))), .val (.ref c0), .unset, .unset, .unset]) (st' := [(.int (101 : Int32)), (.int (4 : Int32)), (.ref a3), (.ref a3)]) rfl rfl (pc' := 40) rfl ?_
    obtain ⟨T8, h8, W8, Wr8, A8, C8, st8⟩ := oPut W7 A7 (j := (4 : Int32)) (x := (101 : Int32)) (x' := (101 : Int32)) (pc := 40) (ls := #[.val (.int i0), .val (.int (i0 &&& (3 : Int32))), .val (.ref c0), .unset, .unset, .unset]) (st := [(.ref a3)]) (by decide) (i := 4) (by decide) (by simp) (Nat.le_trans W0.ext.1 g3) (A7.safe W7.warm.alike (by decide)) (ins := .castore) (Or.inl ⟨rfl, rfl, rfl⟩) (by decide +kernel)
    refine oLift st8 ?_
    have A8 : OA Z h8 a3 k3 .char [.int (99 : Int32), .int (117 : Int32), .int (114 : Int32), .int (114 : Int32), .int (101 : Int32), .int 0, .int 0] := A8
    refine oGo W8 [.dup, .iconst 5, .bipush 110] (by decide +kernel) (ls' := #[.val (.int i0), .val (.int (i0 &&& (3 : Int32))), .val (.ref c0), .unset, .unset, .unset]) (st' := [(.int (110 : Int32)), (.int (5 : Int32)), (.ref a3), (.ref a3)]) rfl rfl (pc' := 45) rfl ?_
    obtain ⟨T9, h9, W9, Wr9, A9, C9, st9⟩ := oPut W8 A8 (j := (5 : Int32)) (x := (110 : Int32)) (x' := (110 : Int32)) (pc := 45) (ls := #[.val (.int i0), .val (.int (i0 &&& (3 : Int32))), .val (.ref c0), .unset, .unset, .unset]) (st := [(.ref a3)]) (by decide) (i := 5) (by decide) (by simp) (Nat.le_trans W0.ext.1 g3) (A8.safe W8.warm.alike (by decide)) (ins := .castore) (Or.inl ⟨rfl, rfl, rfl⟩) (by decide +kernel)
    refine oLift st9 ?_
    have A9 : OA Z h9 a3 k3 .char [.int (99 : Int32), .int (117 : Int32), .int (114 : Int32), .int (114 : Int32), .int (101 : Int32), .int (110 : Int32), .int 0] := A9
    refine oGo W9 [.dup, .bipush 6, .bipush 116] (by decide +kernel) (ls' := #[.val (.int i0), .val (.int (i0 &&& (3 : Int32))), .val (.ref c0), .unset, .unset, .unset]) (st' := [(.int (116 : Int32)), (.int (6 : Int32)), (.ref a3), (.ref a3)]) rfl rfl (pc' := 51) rfl ?_
    obtain ⟨T10, h10, W10, Wr10, A10, C10, st10⟩ := oPut W9 A9 (j := (6 : Int32)) (x := (116 : Int32)) (x' := (116 : Int32)) (pc := 51) (ls := #[.val (.int i0), .val (.int (i0 &&& (3 : Int32))), .val (.ref c0), .unset, .unset, .unset]) (st := [(.ref a3)]) (by decide) (i := 6) (by decide) (by simp) (Nat.le_trans W0.ext.1 g3) (A9.safe W9.warm.alike (by decide)) (ins := .castore) (Or.inl ⟨rfl, rfl, rfl⟩) (by decide +kernel)
    refine oLift st10 ?_
    have A10 : OA Z h10 a3 k3 .char [.int (99 : Int32), .int (117 : Int32), .int (114 : Int32), .int (114 : Int32), .int (101 : Int32), .int (110 : Int32), .int (116 : Int32)] := A10
    refine oGo W10 [.astore_n 3, .goto 154] (by decide +kernel) (ls' := #[.val (.int i0), .val (.int (i0 &&& (3 : Int32))), .val (.ref c0), .val (.ref a3), .unset, .unset]) (st' := []) rfl rfl (pc' := 207) rfl ?_
    obtain ⟨T11, h11, a11, W11, g11, E11, A11, D11, S11, C11, st11⟩ := oNew W10 (pc := 207) (ls := #[.val (.int i0), .val (.int (i0 &&& (3 : Int32))), .val (.ref c0), .val (.ref a3), .unset, .unset]) (st := []) (hw _ (List.mem_of_getElem? (i := 4) rfl)) (hw _ (List.mem_of_getElem? (i := 5) rfl)) (hw _ (List.mem_of_getElem? (i := 6) rfl)) (by decide +kernel) (lb rfl) (lb rfl)
    refine oLift st11 ?_
    refine oGo W11 [.dup, .aload_n 3] (by decide +kernel) (ls' := #[.val (.int i0), .val (.int (i0 &&& (3 : Int32))), .val (.ref c0), .val (.ref a3), .unset, .unset]) (st' := [(.ref a3), (.ref a11), (.ref a11)]) rfl rfl (pc' := 212) rfl ?_
    obtain ⟨v12, T12, L12, h12, vm12, W12, ⟨rfl, K12, F12⟩, C12, st12⟩ := oCallN W11 (idx := 24) (pc := 212) (ls := #[.val (.int i0), .val (.int (i0 &&& (3 : Int32))), .val (.ref c0), .val (.ref a3), .unset, .unset]) (st := [(.ref a11)]) (a := a11) (argsL := [(.ref a3)]) (k_I1 K.2.1 [99, 117, 114, 114, 101, 110, 116] (lb rfl) (lb rfl) (A10.ext E11) (by decide) (Nat.le_trans W10.ext.1 g11) A11 (D11 (Or.inr (hw _ (List.mem_of_getElem? (i := 30) rfl))) (ty := .byte) (by decide)) (D11 (Or.inr (hw _ (List.mem_of_getElem? (i := 32) rfl))) (ty := (.array .byte)) (by decide))) (fun y hy => by cases List.mem_singleton.mp hy; exact ⟨A11.lt, (by exact safe0)⟩) rfl (hw _ (List.mem_of_getElem? (i := 7) rfl)) (hw _ (List.mem_of_getElem? (i := 8) rfl)) (hw _ (List.mem_of_getElem? (i := 6) rfl)) (hw _ (List.mem_of_getElem? (i := 9) rfl)) (by decide) (na := 1) rfl (by decide +kernel) rfl (stk := [(.ref a3), (.ref a11), (.ref a11)]) rfl (by decide +kernel) (V := 1) (lb rfl) (lb rfl) (lb rfl) (lb rfl) (lb rfl)
    refine oLift st12 ?_
    show OG _ _ _ _ _ _ _ _ _ _ _ (mkF m 215 #[.val (.int i0), .val (.int (i0 &&& (3 : Int32))), .val (.ref c0), .val (.ref a3), .unset, .unset] [(.ref a11)])
    refine oGo W12 [.astore 4, .aload 4] (by decide +kernel) (ls' := #[.val (.int i0), .val (.int (i0 &&& (3 : Int32))), .val (.ref c0), .val (.ref a3), .val (.ref a11), .unset]) (st' := [(.ref a11)]) rfl rfl (pc' := 219) rfl ?_
    obtain ⟨v13, T13, L13, h13, vm13, W13, ⟨rfl, E13⟩, C13, st13⟩ := oCallS W12 (idx := 27) (pc := 219) (ls := #[.val (.int i0), .val (.int (i0 &&& (3 : Int32))), .val (.ref c0), .val (.ref a3), .val (.ref a11), .unset]) (st := []) (argsL := [(.ref a11)]) (c_parse0 K H F12) (fun x hx => nomatch hx) (hw _ (List.mem_of_getElem? (i := 33) rfl)) (hw _ (List.mem_of_getElem? (i := 34) rfl)) (hw _ (List.mem_of_getElem? (i := 1) rfl)) (hw _ (List.mem_of_getElem? (i := 35) rfl)) (by decide) (na := 1) rfl (by decide +kernel) rfl (stk := [(.ref a11)]) rfl (by decide +kernel) (V := 0) (lb rfl) (lb rfl) (lb rfl) (lb rfl) (lb rfl)
    refine oLift st13 ?_
    show OG _ _ _ _ _ _ _ _ _ _ _ (mkF m 222 #[.val (.int i0), .val (.int (i0 &&& (3 : Int32))), .val (.ref c0), .val (.ref a3), .val (.ref a11), .unset] [(.ref c0)])
    refine oGo W13 [.astore 5, .aload 5, .aload_n 2] (by decide +kernel) (ls' := #[.val (.int i0), .val (.int (i0 &&& (3 : Int32))), .val (.ref c0), .val (.ref a3), .val (.ref a11), .val (.ref c0)]) (st' := [(.ref c0), (.ref c0)]) rfl rfl (pc' := 227) rfl ?_
    refine oAcF W13 (cd := .ne) (o := 19) (by decide +kernel) rfl rfl (by simp [XT.acmp]) (pc' := 230) rfl ?_
    refine oGo W13 [.aload 4, .aload_n 2] (by decide +kernel) (ls' := #[.val (.int i0), .val (.int (i0 &&& (3 : Int32))), .val (.ref c0), .val (.ref a3), .val (.ref a11), .val (.ref c0)]) (st' := [(.ref c0), (.ref a11)]) rfl rfl (pc' := 233) rfl ?_
    obtain ⟨v14, T14, L14, h14, vm14, W14, ⟨rfl, e14⟩, C14, st14⟩ := oCallV W13 (idx := 31) (pc := 233) (ls := #[.val (.int i0), .val (.int (i0 &&& (3 : Int32))), .val (.ref c0), .val (.ref a3), .val (.ref a11), .val (.ref c0)]) (st := [(.ref a11)]) (argsL := []) (X0c.ext W13.ext) (c_tos K (F0c.ext W13.ext)) (fun x hx => nomatch hx) (hw _ (List.mem_of_getElem? (i := 66) rfl)) (hw _ (List.mem_of_getElem? (i := 67) rfl)) (notFace_of_selects (args := #[]) (mvT W13.warm (hw _ (List.mem_of_getElem? (i := 69) rfl)))) (hw _ (List.mem_of_getElem? (i := 69) rfl)) (hw _ (List.mem_of_getElem? (i := 68) rfl)) (hw _ (List.mem_of_getElem? (i := 1) rfl)) (hw _ (List.mem_of_getElem? (i := 70) rfl)) (by decide) (na := 0) rfl (by decide +kernel) rfl (stk := [(.ref c0), (.ref a11)]) rfl (by decide +kernel) (V := 1) (lb rfl) (lb rfl) (lb rfl) (lb rfl) (lb rfl)
    refine oLift st14 ?_
    rw [e14] at W14 C14
    show OG _ _ _ _ _ _ _ _ _ _ _ (mkF m 236 #[.val (.int i0), .val (.int (i0 &&& (3 : Int32))), .val (.ref c0), .val (.ref a3), .val (.ref a11), .val (.ref c0)] [(.ref l0), (.ref a11)])
    obtain ⟨v15, T15, L15, h15, vm15, W15, ⟨rfl, e15⟩, C15, st15⟩ := oCallV W14 (idx := 35) (pc := 236) (ls := #[.val (.int i0), .val (.int (i0 &&& (3 : Int32))), .val (.ref c0), .val (.ref a3), .val (.ref a11), .val (.ref c0)]) (st := []) (argsL := [(.ref l0)]) (F12.exa.ext E13) (k_Eq K.2.1 he (by decide) (by decide) (F12.ext E13) (T0c.ext W14.ext)) (fun x hx => nomatch hx) (hw _ (List.mem_of_getElem? (i := 71) rfl)) (hw _ (List.mem_of_getElem? (i := 57) rfl)) (notFace_of_selects (args := #[]) (mvT W14.warm (hw _ (List.mem_of_getElem? (i := 59) rfl)))) (hw _ (List.mem_of_getElem? (i := 59) rfl)) (hw _ (List.mem_of_getElem? (i := 58) rfl)) (hw _ (List.mem_of_getElem? (i := 6) rfl)) (hw _ (List.mem_of_getElem? (i := 60) rfl)) (by decide) (na := 1) rfl (by decide +kernel) rfl (stk := [(.ref l0), (.ref a11)]) rfl (by decide +kernel) (V := 0) (lb rfl) (lb rfl) (lb rfl) (lb rfl) (lb rfl)
    refine oLift st15 ?_
    rw [e15] at W15 C15
    show OG _ _ _ _ _ _ _ _ _ _ _ (mkF m 239 #[.val (.int i0), .val (.int (i0 &&& (3 : Int32))), .val (.ref c0), .val (.ref a3), .val (.ref a11), .val (.ref c0)] [(.int (if ([99, 117, 114, 114, 101, 110, 116] : List Int32) = [99, 117, 114, 114, 101, 110, 116] then 1 else 0))])
    refine oIfF W15 (cd := .eq) (o := 7) (by decide +kernel) (XT.i0_eq_f (by decide)) (pc' := 242) rfl ?_
    refine oGo W15 [.iconst 1, .goto 4] (by decide +kernel) (ls' := #[.val (.int i0), .val (.int (i0 &&& (3 : Int32))), .val (.ref c0), .val (.ref a3), .val (.ref a11), .val (.ref c0)]) (st' := [(.int (1 : Int32))]) rfl rfl (pc' := 247) rfl ?_
    exact oRetN (by simp) W15 rfl (by decide +kernel) (lb rfl) (lb rfl) (fun vm' hv => rfl)
  refine oIfT W0 (cd := .ne) (o := 51) (by decide +kernel) (XT.i0_ne_t hc1) (pc' := 56) (by decide) (by decide) ?_
  refine oGo W0 [.iload_n 1, .iconst 1] (by decide +kernel) (ls' := #[.val (.int i0), .val (.int (i0 &&& (3 : Int32))), .unset, .unset, .unset, .unset]) (st' := [(.int (1 : Int32)), (.int (i0 &&& (3 : Int32)))]) rfl rfl (pc' := 58) rfl ?_
  by_cases hc16 : (i0 &&& (3 : Int32)) = (1 : Int32)
  · refine oIcF W0 (cd := .ne) (o := 45) (by decide +kernel) (XT.ii_ne_f hc16) (pc' := 61) rfl ?_
    obtain ⟨T17, W17, st17⟩ := oGetS W0 (pc := 61) (ls := #[.val (.int i0), .val (.int (i0 &&& (3 : Int32))), .unset, .unset, .unset, .unset]) (st := []) (hw _ (List.mem_of_getElem? (i := 74) rfl)) Via.refl (S1c.ext W0.ext) (by decide +kernel)
    refine oLift st17 ?_
    refine oGo W17 [.astore_n 2, .bipush 6] (by decide +kernel) (ls' := #[.val (.int i0), .val (.int (i0 &&& (3 : Int32))), .val (.ref c1), .unset, .unset, .unset]) (st' := [(.int (6 : Int32))]) rfl rfl (pc' := 67) rfl ?_
    obtain ⟨T18, h18, a18, k18, W18, g18, E18, A18, S18, C18, st18⟩ := oNewA W17 (aty := .char) (pc := 67) (ls := #[.val (.int i0), .val (.int (i0 &&& (3 : Int32))), .val (.ref c1), .unset, .unset, .unset]) (st := []) (hw _ (List.mem_of_getElem? (i := 3) rfl)) (by decide +kernel) (n := (6 : Int32)) (by decide) (cap := 6) (lb rfl) (lb rfl) (lb rfl) (lb rfl)
    refine oLift st18 ?_
    have A18 : OA Z h18 a18 k18 .char [.int 0, .int 0, .int 0, .int 0, .int 0, .int 0] := A18
    refine oGo W18 [.dup, .iconst 0, .bipush 98] (by decide +kernel) (ls' := #[.val (.int i0), .val (.int (i0 &&& (3 : Int32))), .val (.ref c1), .unset, .unset, .unset]) (st' := [(.int (98 : Int32)), (.int (0 : Int32)), (.ref a18), (.ref a18)]) rfl rfl (pc' := 73) rfl ?_
    obtain ⟨T19, h19, W19, Wr19, A19, C19, st19⟩ := oPut W18 A18 (j := (0 : Int32)) (x := (98 : Int32)) (x' := (98 : Int32)) (pc := 73) (ls := #[.val (.int i0), .val (.int (i0 &&& (3 : Int32))), .val (.ref c1), .unset, .unset, .unset]) (st := [(.ref a18)]) (by decide) (i := 0) (by decide) (by simp) (Nat.le_trans W0.ext.1 g18) (A18.safe W18.warm.alike (by decide)) (ins := .castore) (Or.inl ⟨rfl, rfl, rfl⟩) (by decide +kernel)
    refine oLift st19 ?_
    have A19 : OA Z h19 a18 k18 .char [.int (98 : Int32), .int 0, .int 0, .int 0, .int 0, .int 0] := A19
    refine oGo W19 [.dup, .iconst 1, .bipush 101] (by decide +kernel) (ls' := #[.val (.int i0), .val (.int (i0 &&& (3 : Int32))), .val (.ref c1), .unset, .unset, .unset]) (st' := [(.int (101 : Int32)), (.int (1 : Int32)), (.ref a18), (.ref a18)]) rfl rfl (pc' := 78) rfl ?_
    obtain ⟨T20, h20, W20, Wr20, A20, C20, st20⟩ := oPut W19 A19 (j := (1 : Int32)) (x := (101 : Int32)) (x' := (101 : Int32)) (pc := 78) (ls := #[.val (.int i0), .val (.int (i0 &&& (3 : Int32))), .val (.ref c1), .unset, .unset, .unset]) (st := [(.ref a18)]) (by decide) (i := 1) (by decide) (by simp) (Nat.le_trans W0.ext.1 g18) (A19.safe W19.warm.alike (by decide)) (ins := .castore) (Or.inl ⟨rfl, rfl, rfl⟩) (by decide +kernel)
    refine oLift st20 ?_
    have A20 : OA Z h20 a18 k18 .char [.int (98 : Int32), .int (101 : Int32), .int 0, .int 0, .int 0, .int 0] := A20
    refine oGo W20 [.dup, .iconst 2, .bipush 104] (by decide +kernel) (ls' := #[.val (.int i0), .val (.int (i0 &&& (3 : Int32))), .val (.ref c1), .unset, .unset, .unset]) (st' := [(.int (104 : Int32)), (.int (2 : Int32)), (.ref a18), (.ref a18)]) rfl rfl (pc' := 83) rfl ?_
    obtain ⟨T21, h21, W21, Wr21, A21, C21, st21⟩ := oPut W20 A20 (j := (2 : Int32)) (x := (104 : Int32)) (x' := (104 : Int32)) (pc := 83) (ls := #[.val (.int i0), .val (.int (i0 &&& (3 : Int32))), .val (.ref c1), .unset, .unset, .unset]) (st := [(.ref a18)]) (by decide) (i := 2) (by decide) (by simp) (Nat.le_trans W0.ext.1 g18) (A20.safe W20.warm.alike (by decide)) (ins := .castore) (Or.inl ⟨rfl, rfl, rfl⟩) (by decide +kernel)
    refine oLift st21 ?_
    have A21 : OA Z h21 a18 k18 .char [.int (98 : Int32), .int (101 : Int32), .int (104 : Int32), .int 0, .int 0, .int 0] := A21
    refine oGo W21 [.dup, .iconst 3, .bipush 105] (by decide +kernel) (ls' := #[.val (.int i0), .val (.int (i0 &&& (3 : Int32))), .val (.ref c1), .unset, .unset, .unset]) (st' := [(.int (105 : Int32)), (.int (3 : Int32)), (.ref a18), (.ref a18)]) rfl rfl (pc' := 88) rfl ?_
    obtain ⟨T22, h22, W22, Wr22, A22, C22, st22⟩ := oPut W21 A21 (j := (3 : Int32)) (x := (105 : Int32)) (x' := (105 : Int32)) (pc := 88) (ls := #[.val (.int i0), .val (.int (i0 &&& (3 : Int32))), .val (.ref c1), .unset, .unset, .unset]) (st := [(.ref a18)]) (by decide) (i := 3) (by decide) (by simp) (Nat.le_trans W0.ext.1 g18) (A21.safe W21.warm.alike (by decide)) (ins := .castore) (Or.inl ⟨rfl, rfl, rfl⟩) (by decide +kernel)
    refine oLift st22 ?_
    have A22 : OA Z h22 a18 k18 .char [.int (98 : Int32), .int (101 : Int32), .int (104 : Int32), .int (105 : Int32), .int 0, .int 0] := A22
    refine oGo W22 [.dup, .iconst 4, .bipush 110] (by decide +kernel) (ls' := #[.val (.int i0), .val (.int (i0 &&& (3 : Int32))), .val (.ref c1), .unset, .unset, .unset]) (st' := [(.int (110 : Int32)), (.int (4 : Int32)), (.ref a18), (.ref a18)]) rfl rfl (pc' := 93) rfl ?_
    obtain ⟨T23, h23, W23, Wr23, A23, C23, st23⟩ := oPut W22 A22 (j := (4 : Int32)) (x := (110 : Int32)) (x' := (110 : Int32)) (pc := 93) (ls := #[.val (.int i0), .val (.int (i0 &&& (3 : Int32))), .val (.ref c1), .unset, .unset, .unset]) (st := [(.ref a18)]) (by decide) (i := 4) (by decide) (by simp) (Nat.le_trans W0.ext.1 g18) (A22.safe W22.warm.alike (by decide)) (ins := .castore) (Or.inl ⟨rfl, rfl, rfl⟩) (by decide +kernel)
    refine oLift st23 ?_
    have A23 : OA Z h23 a18 k18 .char [.int (98 : Int32), .int (101 : Int32), .int (104 : Int32), .int (105 : Int32), .int (110 : Int32), .int 0] := A23
    refine oGo W23 [.dup, .iconst 5, .bipush 100] (by decide +kernel) (ls' := #[.val (.int i0), .val (.int (i0 &&& (3 : Int32))), .val (.ref c1), .unset, .unset, .unset]) (st' := [(.int (100 : Int32)), (.int (5 : Int32)), (.ref a18), (.ref a18)]) rfl rfl (pc' := 98) rfl ?_
    obtain ⟨T24, h24, W24, Wr24, A24, C24, st24⟩ := oPut W23 A23 (j := (5 : Int32)) (x := (100 : Int32)) (x' := (100 : Int32)) (pc := 98) (ls := #[.val (.int i0), .val (.int (i0 &&& (3 : Int32))), .val (.ref c1), .unset, .unset, .unset]) (st := [(.ref a18)]) (by decide) (i := 5) (by decide) (by simp) (Nat.le_trans W0.ext.1 g18) (A23.safe W23.warm.alike (by decide)) (ins := .castore) (Or.inl ⟨rfl, rfl, rfl⟩) (by decide +kernel)
    refine oLift st24 ?_
    have A24 : OA Z h24 a18 k18 .char [.int (98 : Int32), .int (101 : Int32), .int (104 : Int32), .int (105 : Int32), .int (110 : Int32), .int (100 : Int32)] := A24
    refine oGo W24 [.astore_n 3, .goto 107] (by decide +kernel) (ls' := #[.val (.int i0), .val (.int (i0 &&& (3 : Int32))), .val (.ref c1), .val (.ref a18), .unset, .unset]) (st' := []) rfl rfl (pc' := 207) rfl ?_
    obtain ⟨T25, h25, a25, W25, g25, E25, A25, D25, S25, C25, st25⟩ := oNew W24 (pc := 207) (ls := #[.val (.int i0), .val (.int (i0 &&& (3 : Int32))), .val (.ref c1), .val (.ref a18), .unset, .unset]) (st := []) (hw _ (List.mem_of_getElem? (i := 4) rfl)) (hw _ (List.mem_of_getElem? (i := 5) rfl)) (hw _ (List.mem_of_getElem? (i := 6) rfl)) (by decide +kernel) (lb rfl) (lb rfl)
    refine oLift st25 ?_
    refine oGo W25 [.dup, .aload_n 3] (by decide +kernel) (ls' := #[.val (.int i0), .val (.int (i0 &&& (3 : Int32))), .val (.ref c1), .val (.ref a18), .unset, .unset]) (st' := [(.ref a18), (.ref a25), (.ref a25)]) rfl rfl (pc' := 212) rfl ?_
    obtain ⟨v26, T26, L26, h26, vm26, W26, ⟨rfl, K26, F26⟩, C26, st26⟩ := oCallN W25 (idx := 24) (pc := 212) (ls := #[.val (.int i0), .val (.int (i0 &&& (3 : Int32))), .val (.ref c1), .val (.ref a18), .unset, .unset]) (st := [(.ref a25)]) (a := a25) (argsL := [(.ref a18)]) (k_I1 K.2.1 [98, 101, 104, 105, 110, 100] (lb rfl) (lb rfl) (A24.ext E25) (by decide) (Nat.le_trans W24.ext.1 g25) A25 (D25 (Or.inr (hw _ (List.mem_of_getElem? (i := 30) rfl))) (ty := .byte) (by decide)) (D25 (Or.inr (hw _ (List.mem_of_getElem? (i := 32) rfl))) (ty := (.array .byte)) (by decide))) (fun y hy => by cases List.mem_singleton.mp hy; exact ⟨A25.lt, (by exact safe0)⟩) rfl (hw _ (List.mem_of_getElem? (i := 7) rfl)) (hw _ (List.mem_of_getElem? (i := 8) rfl)) (hw _ (List.mem_of_getElem? (i := 6) rfl)) (hw _ (List.mem_of_getElem? (i := 9) rfl)) (by decide) (na := 1) rfl (by decide +kernel) rfl (stk := [(.ref a18), (.ref a25), (.ref a25)]) rfl (by decide +kernel) (V := 1) (lb rfl) (lb rfl) (lb rfl) (lb rfl) (lb rfl)
    refine oLift st26 ?_
    show OG _ _ _ _ _ _ _ _ _ _ _ (mkF m 215 #[.val (.int i0), .val (.int (i0 &&& (3 : Int32))), .val (.ref c1), .val (.ref a18), .unset, .unset] [(.ref a25)])
    refine oGo W26 [.astore 4, .aload 4] (by decide +kernel) (ls' := #[.val (.int i0), .val (.int (i0 &&& (3 : Int32))), .val (.ref c1), .val (.ref a18), .val (.ref a25), .unset]) (st' := [(.ref a25)]) rfl rfl (pc' := 219) rfl ?_
    obtain ⟨v27, T27, L27, h27, vm27, W27, ⟨rfl, E27⟩, C27, st27⟩ := oCallS W26 (idx := 27) (pc := 219) (ls := #[.val (.int i0), .val (.int (i0 &&& (3 : Int32))), .val (.ref c1), .val (.ref a18), .val (.ref a25), .unset]) (st := []) (argsL := [(.ref a25)]) (c_parse1 K H F26) (fun x hx => nomatch hx) (hw _ (List.mem_of_getElem? (i := 33) rfl)) (hw _ (List.mem_of_getElem? (i := 34) rfl)) (hw _ (List.mem_of_getElem? (i := 1) rfl)) (hw _ (List.mem_of_getElem? (i := 35) rfl)) (by decide) (na := 1) rfl (by decide +kernel) rfl (stk := [(.ref a25)]) rfl (by decide +kernel) (V := 0) (lb rfl) (lb rfl) (lb rfl) (lb rfl) (lb rfl)
    refine oLift st27 ?_
    show OG _ _ _ _ _ _ _ _ _ _ _ (mkF m 222 #[.val (.int i0), .val (.int (i0 &&& (3 : Int32))), .val (.ref c1), .val (.ref a18), .val (.ref a25), .unset] [(.ref c1)])
    refine oGo W27 [.astore 5, .aload 5, .aload_n 2] (by decide +kernel) (ls' := #[.val (.int i0), .val (.int (i0 &&& (3 : Int32))), .val (.ref c1), .val (.ref a18), .val (.ref a25), .val (.ref c1)]) (st' := [(.ref c1), (.ref c1)]) rfl rfl (pc' := 227) rfl ?_
    refine oAcF W27 (cd := .ne) (o := 19) (by decide +kernel) rfl rfl (by simp [XT.acmp]) (pc' := 230) rfl ?_
    refine oGo W27 [.aload 4, .aload_n 2] (by decide +kernel) (ls' := #[.val (.int i0), .val (.int (i0 &&& (3 : Int32))), .val (.ref c1), .val (.ref a18), .val (.ref a25), .val (.ref c1)]) (st' := [(.ref c1), (.ref a25)]) rfl rfl (pc' := 233) rfl ?_
    obtain ⟨v28, T28, L28, h28, vm28, W28, ⟨rfl, e28⟩, C28, st28⟩ := oCallV W27 (idx := 31) (pc := 233) (ls := #[.val (.int i0), .val (.int (i0 &&& (3 : Int32))), .val (.ref c1), .val (.ref a18), .val (.ref a25), .val (.ref c1)]) (st := [(.ref a25)]) (argsL := []) (X1c.ext W27.ext) (c_tos K (F1c.ext W27.ext)) (fun x hx => nomatch hx) (hw _ (List.mem_of_getElem? (i := 66) rfl)) (hw _ (List.mem_of_getElem? (i := 67) rfl)) (notFace_of_selects (args := #[]) (mvT W27.warm (hw _ (List.mem_of_getElem? (i := 69) rfl)))) (hw _ (List.mem_of_getElem? (i := 69) rfl)) (hw _ (List.mem_of_getElem? (i := 68) rfl)) (hw _ (List.mem_of_getElem? (i := 1) rfl)) (hw _ (List.mem_of_getElem? (i := 70) rfl)) (by decide) (na := 0) rfl (by decide +kernel) rfl (stk := [(.ref c1), (.ref a25)]) rfl (by decide +kernel) (V := 1) (lb rfl) (lb rfl) (lb rfl) (lb rfl) (lb rfl)
    refine oLift st28 ?_
    rw [e28] at W28 C28
    show OG _ _ _ _ _ _ _ _ _ _ _ (mkF m 236 #[.val (.int i0), .val (.int (i0 &&& (3 : Int32))), .val (.ref c1), .val (.ref a18), .val (.ref a25), .val (.ref c1)] [(.ref l1), (.ref a25)])
    obtain ⟨v29, T29, L29, h29, vm29, W29, ⟨rfl, e29⟩, C29, st29⟩ := oCallV W28 (idx := 35) (pc := 236) (ls := #[.val (.int i0), .val (.int (i0 &&& (3 : Int32))), .val (.ref c1), .val (.ref a18), .val (.ref a25), .val (.ref c1)]) (st := []) (argsL := [(.ref l1)]) (F26.exa.ext E27) (k_Eq K.2.1 he (by decide) (by decide) (F26.ext E27) (T1c.ext W28.ext)) (fun x hx => nomatch hx) (hw _ (List.mem_of_getElem? (i := 71) rfl)) (hw _ (List.mem_of_getElem? (i := 57) rfl)) (notFace_of_selects (args := #[]) (mvT W28.warm (hw _ (List.mem_of_getElem? (i := 59) rfl)))) (hw _ (List.mem_of_getElem? (i := 59) rfl)) (hw _ (List.mem_of_getElem? (i := 58) rfl)) (hw _ (List.mem_of_getElem? (i := 6) rfl)) (hw _ (List.mem_of_getElem? (i := 60) rfl)) (by decide) (na := 1) rfl (by decide +kernel) rfl (stk := [(.ref l1), (.ref a25)]) rfl (by decide +kernel) (V := 0) (lb rfl) (lb rfl) (lb rfl) (lb rfl) (lb rfl)
    refine oLift st29 ?_
    rw [e29] at W29 C29
    show OG _ _ _ _ _ _ _ _ _ _ _ (mkF m 239 #[.val (.int i0), .val (.int (i0 &&& (3 : Int32))), .val (.ref c1), .val (.ref a18), .val (.ref a25), .val (.ref c1)] [(.int (if ([98, 101, 104, 105, 110, 100] : List Int32) = [98, 101, 104, 105, 110, 100] then 1 else 0))])
    refine oIfF W29 (cd := .eq) (o := 7) (by decide +kernel) (XT.i0_eq_f (by decide)) (pc' := 242) rfl ?_
    refine oGo W29 [.iconst 1, .goto 4] (by decide +kernel) (ls' := #[.val (.int i0), .val (.int (i0 &&& (3 : Int32))), .val (.ref c1), .val (.ref a18), .val (.ref a25), .val (.ref c1)]) (st' := [(.int (1 : Int32))]) rfl rfl (pc' := 247) rfl ?_
    exact oRetN (by simp) W29 rfl (by decide +kernel) (lb rfl) (lb rfl) (fun vm' hv => rfl)
  refine oIcT W0 (cd := .ne) (o := 45) (by decide +kernel) (XT.ii_ne_t hc16) (pc' := 103) (by decide) (by decide) ?_
  refine oGo W0 [.iload_n 1, .iconst 2] (by decide +kernel) (ls' := #[.val (.int i0), .val (.int (i0 &&& (3 : Int32))), .unset, .unset, .unset, .unset]) (st' := [(.int (2 : Int32)), (.int (i0 &&& (3 : Int32)))]) rfl rfl (pc' := 105) rfl ?_
  by_cases hc30 : (i0 &&& (3 : Int32)) = (2 : Int32)
  · refine oIcF W0 (cd := .ne) (o := 57) (by decide +kernel) (XT.ii_ne_f hc30) (pc' := 108) rfl ?_
    obtain ⟨T31, W31, st31⟩ := oGetS W0 (pc := 108) (ls := #[.val (.int i0), .val (.int (i0 &&& (3 : Int32))), .unset, .unset, .unset, .unset]) (st := []) (hw _ (List.mem_of_getElem? (i := 73) rfl)) Via.refl (S2c.ext W0.ext) (by decide +kernel)
    refine oLift st31 ?_
    refine oGo W31 [.astore_n 2, .bipush 8] (by decide +kernel) (ls' := #[.val (.int i0), .val (.int (i0 &&& (3 : Int32))), .val (.ref c2), .unset, .unset, .unset]) (st' := [(.int (8 : Int32))]) rfl rfl (pc' := 114) rfl ?_
    obtain ⟨T32, h32, a32, k32, W32, g32, E32, A32, S32, C32, st32⟩ := oNewA W31 (aty := .char) (pc := 114) (ls := #[.val (.int i0), .val (.int (i0 &&& (3 : Int32))), .val (.ref c2), .unset, .unset, .unset]) (st := []) (hw _ (List.mem_of_getElem? (i := 3) rfl)) (by decide +kernel) (n := (8 : Int32)) (by decide) (cap := 8) (lb rfl) (lb rfl) (lb rfl) (lb rfl)
    refine oLift st32 ?_
    have A32 : OA Z h32 a32 k32 .char [.int 0, .int 0, .int 0, .int 0, .int 0, .int 0, .int 0, .int 0] := A32
    refine oGo W32 [.dup, .iconst 0, .bipush 114] (by decide +kernel) (ls' := #[.val (.int i0), .val (.int (i0 &&& (3 : Int32))), .val (.ref c2), .unset, .unset, .unset]) (st' := [(.int (114 : Int32)), (.int (0 : Int32)), (.ref a32), (.ref a32)]) rfl rfl (pc' := 120) rfl ?_
    obtain ⟨T33, h33, W33, Wr33, A33, C33, st33⟩ := oPut W32 A32 (j := (0 : Int32)) (x := (114 : Int32)) (x' := (114 : Int32)) (pc := 120) (ls := #[.val (.int i0), .val (.int (i0 &&& (3 : Int32))), .val (.ref c2), .unset, .unset, .unset]) (st := [(.ref a32)]) (by decide) (i := 0) (by decide) (by simp) (Nat.le_trans W0.ext.1 g32) (A32.safe W32.warm.alike (by decide)) (ins := .castore) (Or.inl ⟨rfl, rfl, rfl⟩) (by decide +kernel)
    refine oLift st33 ?_
    have A33 : OA Z h33 a32 k32 .char [.int (114 : Int32), .int 0, .int 0, .int 0, .int 0, .int 0, .int 0, .int 0] := A33
    refine oGo W33 [.dup, .iconst 1, .bipush 101] (by decide +kernel) (ls' := #[.val (.int i0), .val (.int (i0 &&& (3 : Int32))), .val (.ref c2), .unset, .unset, .unset]) (st' := [(.int (101 : Int32)), (.int (1 : Int32)), (.ref a32), (.ref a32)]) rfl rfl (pc' := 125) rfl ?_
    obtain ⟨T34, h34, W34, Wr34, A34, C34, st34⟩ := oPut W33 A33 (j := (1 : Int32)) (x := (101 : Int32)) (x' := (101 : Int32)) (pc := 125) (ls := #[.val (.int i0), .val (.int (i0 &&& (3 : Int32))), .val (.ref c2), .unset, .unset, .unset]) (st := [(.ref a32)]) (by decide) (i := 1) (by decide) (by simp) (Nat.le_trans W0.ext.1 g32) (A33.safe W33.warm.alike (by decide)) (ins := .castore) (Or.inl ⟨rfl, rfl, rfl⟩) (by decide +kernel)
    refine oLift st34 ?_
    have A34 : OA Z h34 a32 k32 .char [.int (114 : Int32), .int (101 : Int32), .int 0, .int 0, .int 0, .int 0, .int 0, .int 0] := A34
    refine oGo W34 [.dup, .iconst 2, .bipush 106] (by decide +kernel) (ls' := #[.val (.int i0), .val (.int (i0 &&& (3 : Int32))), .val (.ref c2), .unset, .unset, .unset]) (st' := [(.int (106 : Int32)), (.int (2 : Int32)), (.ref a32), (.ref a32)]) rfl rfl (pc' := 130) rfl ?_
    obtain ⟨T35, h35, W35, Wr35, A35, C35, st35⟩ := oPut W34 A34 (j := (2 : Int32)) (x := (106 : Int32)) (x' := (106 : Int32)) (pc := 130) (ls := #[.val (.int i0), .val (.int (i0 &&& (3 : Int32))), .val (.ref c2), .unset, .unset, .unset]) (st := [(.ref a32)]) (by decide) (i := 2) (by decide) (by simp) (Nat.le_trans W0.ext.1 g32) (A34.safe W34.warm.alike (by decide)) (ins := .castore) (Or.inl ⟨rfl, rfl, rfl⟩) (by decide +kernel)
    refine oLift st35 ?_
    have A35 : OA Z h35 a32 k32 .char [.int (114 : Int32), .int (101 : Int32), .int (106 : Int32), .int 0, .int 0, .int 0, .int 0, .int 0] := A35
    refine oGo W35 [.dup, .iconst 3, .bipush 101] (by decide +kernel) (ls' := #[.val (.int i0), .val (.int (i0 &&& (3 : Int32))), .val (.ref c2), .unset, .unset, .unset]) (st' := [(.int (101 : Int32)), (.int (3 : Int32)), (.ref a32), (.ref a32)]) rfl rfl (pc' := 135) rfl ?_
    obtain ⟨T36, h36, W36, Wr36, A36, C36, st36⟩ := oPut W35 A35 (j := (3 : Int32)) (x := (101 : Int32)) (x' := (101 : Int32)) (pc := 135) (ls := #[.val (.int i0), .val (.int (i0 &&& (3 : Int32))), .val (.ref c2), .unset, .unset, .unset]) (st := [(.ref a32)]) (by decide) (i := 3) (by decide) (by simp) (Nat.le_trans W0.ext.1 g32) (A35.safe W35.warm.alike (by decide)) (ins := .castore) (Or.inl ⟨rfl, rfl, rfl⟩) (by decide +kernel)
    refine oLift st36 ?_
    have A36 : OA Z h36 a32 k32 .char [.int (114 : Int32), .int (101 : Int32), .int (106 : Int32), .int (101 : Int32), .int 0, .int 0, .int 0, .int 0] := A36
    refine oGo W36 [.dup, .iconst 4, .bipush 99] (by decide +kernel) (ls' := #[.val (.int i0), .val (.int (i0 &&& (3 : Int32))), .val (.ref c2), .unset, .unset, .unset]) (st' := [(.int (99 : Int32)), (.int (4 : Int32)), (.ref a32), (.ref a32)]) rfl rfl (pc' := 140) rfl ?_
    obtain ⟨T37, h37, W37, Wr37, A37, C37, st37⟩ := oPut W36 A36 (j := (4 : Int32)) (x := (99 : Int32)) (x' := (99 : Int32)) (pc := 140) (ls := #[.val (.int i0), .val (.int (i0 &&& (3 : Int32))), .val (.ref c2), .unset, .unset, .unset]) (st := [(.ref a32)]) (by decide) (i := 4) (by decide) (by simp) (Nat.le_trans W0.ext.1 g32) (A36.safe W36.warm.alike (by decide)) (ins := .castore) (Or.inl ⟨rfl, rfl, rfl⟩) (by decide +kernel)
    refine oLift st37 ?_
    have A37 : OA Z h37 a32 k32 .char [.int (114 : Int32), .int (101 : Int32), .int (106 : Int32), .int (101 : Int32), .int (99 : Int32), .int 0, .int 0, .int 0] := A37
    refine oGo W37 [.dup, .iconst 5, .bipush 116] (by decide +kernel) (ls' := #[.val (.int i0), .val (.int (i0 &&& (3 : Int32))), .val (.ref c2), .unset, .unset, .unset]) (st' := [(.int (116 : Int32)), (.int (5 : Int32)), (.ref a32), (.ref a32)]) rfl rfl (pc' := 145) rfl ?_
    obtain ⟨T38, h38, W38, Wr38, A38, C38, st38⟩ := oPut W37 A37 (j := (5 : Int32)) (x := (116 : Int32)) (x' := (116 : Int32)) (pc := 145) (ls := #[.val (.int i0), .val (.int (i0 &&& (3 : Int32))), .val (.ref c2), .unset, .unset, .unset]) (st := [(.ref a32)]) (by decide) (i := 5) (by decide) (by simp) (Nat.le_trans W0.ext.1 g32) (A37.safe W37.warm.alike (by decide)) (ins := .castore) (Or.inl ⟨rfl, rfl, rfl⟩) (by decide +kernel)
    refine oLift st38 ?_
    have A38 : OA Z h38 a32 k32 .char [.int (114 : Int32), .int (101 : Int32), .int (106 : Int32), .int (101 : Int32), .int (99 : Int32), .int (116 : Int32), .int 0, .int 0] := A38
    refine oGo W38 [.dup, .bipush 6, .bipush 101] (by decide +kernel) (ls' := #[.val (.int i0), .val (.int (i0 &&& (3 : Int32))), .val (.ref c2), .unset, .unset, .unset]) (st' := [(.int (101 : Int32)), (.int (6 : Int32)), (.ref a32), (.ref a32)]) rfl rfl (pc' := 151) rfl ?_
    obtain ⟨T39, h39, W39, Wr39, A39, C39, st39⟩ := oPut W38 A38 (j := (6 : Int32)) (x := (101 : Int32)) (x' := (101 : Int32)) (pc := 151) (ls := #[.val (.int i0), .val (.int (i0 &&& (3 : Int32))), .val (.ref c2), .unset, .unset, .unset]) (st := [(.ref a32)]) (by decide) (i := 6) (by decide) (by simp) (Nat.le_trans W0.ext.1 g32) (A38.safe W38.warm.alike (by decide)) (ins := .castore) (Or.inl ⟨rfl, rfl, rfl⟩) (by decide +kernel)
    refine oLift st39 ?_
    have A39 : OA Z h39 a32 k32 .char [.int (114 : Int32), .int (101 : Int32), .int (106 : Int32), .int (101 : Int32), .int (99 : Int32), .int (116 : Int32), .int (101 : Int32), .int 0] := A39
    refine oGo W39 [.dup, .bipush 7, .bipush 100] (by decide +kernel) (ls' := #[.val (.int i0), .val (.int (i0 &&& (3 : Int32))), .val (.ref c2), .unset, .unset, .unset]) (st' := [(.int (100 : Int32)), (.int (7 : Int32)), (.ref a32), (.ref a32)]) rfl rfl (pc' := 157) rfl ?_
    obtain ⟨T40, h40, W40, Wr40, A40, C40, st40⟩ := oPut W39 A39 (j := (7 : Int32)) (x := (100 : Int32)) (x' := (100 : Int32)) (pc := 157) (ls := #[.val (.int i0), .val (.int (i0 &&& (3 : Int32))), .val (.ref c2), .unset, .unset, .unset]) (st := [(.ref a32)]) (by decide) (i := 7) (by decide) (by simp) (Nat.le_trans W0.ext.1 g32) (A39.safe W39.warm.alike (by decide)) (ins := .castore) (Or.inl ⟨rfl, rfl, rfl⟩) (by decide +kernel)
    refine oLift st40 ?_
    have A40 : OA Z h40 a32 k32 .char [.int (114 : Int32), .int (101 : Int32), .int (106 : Int32), .int (101 : Int32), .int (99 : Int32), .int (116 : Int32), .int (101 : Int32), .int (100 : Int32)] := A40
    refine oGo W40 [.astore_n 3, .goto 48] (by decide +kernel) (ls' := #[.val (.int i0), .val (.int (i0 &&& (3 : Int32))), .val (.ref c2), .val (.ref a32), .unset, .unset]) (st' := []) rfl rfl (pc' := 207) rfl ?_
    obtain ⟨T41, h41, a41, W41, g41, E41, A41, D41, S41, C41, st41⟩ := oNew W40 (pc := 207) (ls := #[.val (.int i0), .val (.int (i0 &&& (3 : Int32))), .val (.ref c2), .val (.ref a32), .unset, .unset]) (st := []) (hw _ (List.mem_of_getElem? (i := 4) rfl)) (hw _ (List.mem_of_getElem? (i := 5) rfl)) (hw _ (List.mem_of_getElem? (i := 6) rfl)) (by decide +kernel) (lb rfl) (lb rfl)
    refine oLift st41 ?_
    refine oGo W41 [.dup, .aload_n 3] (by decide +kernel) (ls' := #[.val (.int i0), .val (.int (i0 &&& (3 : Int32))), .val (.ref c2), .val (.ref a32), .unset, .unset]) (st' := [(.ref a32), (.ref a41), (.ref a41)]) rfl rfl (pc' := 212) rfl ?_
    obtain ⟨v42, T42, L42, h42, vm42, W42, ⟨rfl, K42, F42⟩, C42, st42⟩ := oCallN W41 (idx := 24) (pc := 212) (ls := #[.val (.int i0), .val (.int (i0 &&& (3 : Int32))), .val (.ref c2), .val (.ref a32), .unset, .unset]) (st := [(.ref a41)]) (a := a41) (argsL := [(.ref a32)]) (k_I1 K.2.1 [114, 101, 106, 101, 99, 116, 101, 100] (lb rfl) (lb rfl) (A40.ext E41) (by decide) (Nat.le_trans W40.ext.1 g41) A41 (D41 (Or.inr (hw _ (List.mem_of_getElem? (i := 30) rfl))) (ty := .byte) (by decide)) (D41 (Or.inr (hw _ (List.mem_of_getElem? (i := 32) rfl))) (ty := (.array .byte)) (by decide))) (fun y hy => by cases List.mem_singleton.mp hy; exact ⟨A41.lt, (by exact safe0)⟩) rfl (hw _ (List.mem_of_getElem? (i := 7) rfl)) (hw _ (List.mem_of_getElem? (i := 8) rfl)) (hw _ (List.mem_of_getElem? (i := 6) rfl)) (hw _ (List.mem_of_getElem? (i := 9) rfl)) (by decide) (na := 1) rfl (by decide +kernel) rfl (stk := [(.ref a32), (.ref a41), (.ref a41)]) rfl (by decide +kernel) (V := 1) (lb rfl) (lb rfl) (lb rfl) (lb rfl) (lb rfl)
    refine oLift st42 ?_
    show OG _ _ _ _ _ _ _ _ _ _ _ (mkF m 215 #[.val (.int i0), .val (.int (i0 &&& (3 : Int32))), .val (.ref c2), .val (.ref a32), .unset, .unset] [(.ref a41)])
    refine oGo W42 [.astore 4, .aload 4] (by decide +kernel) (ls' := #[.val (.int i0), .val (.int (i0 &&& (3 : Int32))), .val (.ref c2), .val (.ref a32), .val (.ref a41), .unset]) (st' := [(.ref a41)]) rfl rfl (pc' := 219) rfl ?_
    obtain ⟨v43, T43, L43, h43, vm43, W43, ⟨rfl, E43⟩, C43, st43⟩ := oCallS W42 (idx := 27) (pc := 219) (ls := #[.val (.int i0), .val (.int (i0 &&& (3 : Int32))), .val (.ref c2), .val (.ref a32), .val (.ref a41), .unset]) (st := []) (argsL := [(.ref a41)]) (c_parse2 K H F42) (fun x hx => nomatch hx) (hw _ (List.mem_of_getElem? (i := 33) rfl)) (hw _ (List.mem_of_getElem? (i := 34) rfl)) (hw _ (List.mem_of_getElem? (i := 1) rfl)) (hw _ (List.mem_of_getElem? (i := 35) rfl)) (by decide) (na := 1) rfl (by decide +kernel) rfl (stk := [(.ref a41)]) rfl (by decide +kernel) (V := 0) (lb rfl) (lb rfl) (lb rfl) (lb rfl) (lb rfl)
    refine oLift st43 ?_
    show OG _ _ _ _ _ _ _ _ _ _ _ (mkF m 222 #[.val (.int i0), .val (.int (i0 &&& (3 : Int32))), .val (.ref c2), .val (.ref a32), .val (.ref a41), .unset] [(.ref c2)])
    refine oGo W43 [.astore 5, .aload 5, .aload_n 2] (by decide +kernel) (ls' := #[.val (.int i0), .val (.int (i0 &&& (3 : Int32))), .val (.ref c2), .val (.ref a32), .val (.ref a41), .val (.ref c2)]) (st' := [(.ref c2), (.ref c2)]) rfl rfl (pc' := 227) rfl ?_
    refine oAcF W43 (cd := .ne) (o := 19) (by decide +kernel) rfl rfl (by simp [XT.acmp]) (pc' := 230) rfl ?_
    refine oGo W43 [.aload 4, .aload_n 2] (by decide +kernel) (ls' := #[.val (.int i0), .val (.int (i0 &&& (3 : Int32))), .val (.ref c2), .val (.ref a32), .val (.ref a41), .val (.ref c2)]) (st' := [(.ref c2), (.ref a41)]) rfl rfl (pc' := 233) rfl ?_
    obtain ⟨v44, T44, L44, h44, vm44, W44, ⟨rfl, e44⟩, C44, st44⟩ := oCallV W43 (idx := 31) (pc := 233) (ls := #[.val (.int i0), .val (.int (i0 &&& (3 : Int32))), .val (.ref c2), .val (.ref a32), .val (.ref a41), .val (.ref c2)]) (st := [(.ref a41)]) (argsL := []) (X2c.ext W43.ext) (c_tos K (F2c.ext W43.ext)) (fun x hx => nomatch hx) (hw _ (List.mem_of_getElem? (i := 66) rfl)) (hw _ (List.mem_of_getElem? (i := 67) rfl)) (notFace_of_selects (args := #[]) (mvT W43.warm (hw _ (List.mem_of_getElem? (i := 69) rfl)))) (hw _ (List.mem_of_getElem? (i := 69) rfl)) (hw _ (List.mem_of_getElem? (i := 68) rfl)) (hw _ (List.mem_of_getElem? (i := 1) rfl)) (hw _ (List.mem_of_getElem? (i := 70) rfl)) (by decide) (na := 0) rfl (by decide +kernel) rfl (stk := [(.ref c2), (.ref a41)]) rfl (by decide +kernel) (V := 1) (lb rfl) (lb rfl) (lb rfl) (lb rfl) (lb rfl)
    refine oLift st44 ?_
    rw [e44] at W44 C44
    show OG _ _ _ _ _ _ _ _ _ _ _ (mkF m 236 #[.val (.int i0), .val (.int (i0 &&& (3 : Int32))), .val (.ref c2), .val (.ref a32), .val (.ref a41), .val (.ref c2)] [(.ref l2), (.ref a41)])
    obtain ⟨v45, T45, L45, h45, vm45, W45, ⟨rfl, e45⟩, C45, st45⟩ := oCallV W44 (idx := 35) (pc := 236) (ls := #[.val (.int i0), .val (.int (i0 &&& (3 : Int32))), .val (.ref c2), .val (.ref a32), .val (.ref a41), .val (.ref c2)]) (st := []) (argsL := [(.ref l2)]) (F42.exa.ext E43) (k_Eq K.2.1 he (by decide) (by decide) (F42.ext E43) (T2c.ext W44.ext)) (fun x hx => nomatch hx) (hw _ (List.mem_of_getElem? (i := 71) rfl)) (hw _ (List.mem_of_getElem? (i := 57) rfl)) (notFace_of_selects (args := #[]) (mvT W44.warm (hw _ (List.mem_of_getElem? (i := 59) rfl)))) (hw _ (List.mem_of_getElem? (i := 59) rfl)) (hw _ (List.mem_of_getElem? (i := 58) rfl)) (hw _ (List.mem_of_getElem? (i := 6) rfl)) (hw _ (List.mem_of_getElem? (i := 60) rfl)) (by decide) (na := 1) rfl (by decide +kernel) rfl (stk := [(.ref l2), (.ref a41)]) rfl (by decide +kernel) (V := 0) (lb rfl) (lb rfl) (lb rfl) (lb rfl) (lb rfl)
    refine oLift st45 ?_
    rw [e45] at W45 C45
    show OG _ _ _ _ _ _ _ _ _ _ _ (mkF m 239 #[.val (.int i0), .val (.int (i0 &&& (3 : Int32))), .val (.ref c2), .val (.ref a32), .val (.ref a41), .val (.ref c2)] [(.int (if ([114, 101, 106, 101, 99, 116, 101, 100] : List Int32) = [114, 101, 106, 101, 99, 116, 101, 100] then 1 else 0))])
    refine oIfF W45 (cd := .eq) (o := 7) (by decide +kernel) (XT.i0_eq_f (by decide)) (pc' := 242) rfl ?_
    refine oGo W45 [.iconst 1, .goto 4] (by decide +kernel) (ls' := #[.val (.int i0), .val (.int (i0 &&& (3 : Int32))), .val (.ref c2), .val (.ref a32), .val (.ref a41), .val (.ref c2)]) (st' := [(.int (1 : Int32))]) rfl rfl (pc' := 247) rfl ?_
    exact oRetN (by simp) W45 rfl (by decide +kernel) (lb rfl) (lb rfl) (fun vm' hv => rfl)
  refine oIcT W0 (cd := .ne) (o := 57) (by decide +kernel) (XT.ii_ne_t hc30) (pc' := 162) (by decide) (by decide) ?_
  obtain ⟨T46, W46, st46⟩ := oGetS W0 (pc := 162) (ls := #[.val (.int i0), .val (.int (i0 &&& (3 : Int32))), .unset, .unset, .unset, .unset]) (st := []) (hw _ (List.mem_of_getElem? (i := 72) rfl)) Via.refl (S3c.ext W0.ext) (by decide +kernel)
  refine oLift st46 ?_
  refine oGo W46 [.astore_n 2, .bipush 7] (by decide +kernel) (ls' := #[.val (.int i0), .val (.int (i0 &&& (3 : Int32))), .val (.ref c3), .unset, .unset, .unset]) (st' := [(.int (7 : Int32))]) rfl rfl (pc' := 168) rfl ?_
  obtain ⟨T47, h47, a47, k47, W47, g47, E47, A47, S47, C47, st47⟩ := oNewA W46 (aty := .char) (pc := 168) (ls := #[.val (.int i0), .val (.int (i0 &&& (3 : Int32))), .val (.ref c3), .unset, .unset, .unset]) (st := []) (hw _ (List.mem_of_getElem? (i := 3) rfl)) (by decide +kernel) (n := (7 : Int32)) (by decide) (cap := 7) (lb rfl) (lb rfl) (lb rfl) (lb rfl)
  refine oLift st47 ?_
  have A47 : OA Z h47 a47 k47 .char [.int 0, .int 0, .int 0, .int 0, .int 0, .int 0, .int 0] := A47
  refine oGo W47 [.dup, .iconst 0, .bipush 115] (by decide +kernel) (ls' := #[.val (.int i0), .val (.int (i0 &&& (3 : Int32))), .val (.ref c3), .unset, .unset, .unset]) (st' := [(.int (115 : Int32)), (.int (0 : Int32)), (.ref a47), (.ref a47)]) rfl rfl (pc' := 174) rfl ?_
  obtain ⟨T48, h48, W48, Wr48, A48, C48, st48⟩ := oPut W47 A47 (j := (0 : Int32)) (x := (115 : Int32)) (x' := (115 : Int32)) (pc := 174) (ls := #[.val (.int i0), .val (.int (i0 &&& (3 : Int32))), .val (.ref c3), .unset, .unset, .unset]) (st := [(.ref a47)]) (by decide) (i := 0) (by decide) (by simp) (Nat.le_trans W0.ext.1 g47) (A47.safe W47.warm.alike (by decide)) (ins := .castore) (Or.inl ⟨rfl, rfl, rfl⟩) (by decide +kernel)
  refine oLift st48 ?_
  have A48 : OA Z h48 a47 k47 .char [.int (115 : Int32), .int 0, .int 0, .int 0, .int 0, .int 0, .int 0] := A48
  refine oGo W48 [.dup, .iconst 1, .bipush 116] (by decide +kernel) (ls' := #[.val (.int i0), .val (.int (i0 &&& (3 : Int32))), .val (.ref c3), .unset, .unset, .unset]) (st' := [(.int (116 : Int32)), (.int (1 : Int32)), (.ref a47), (.ref a47)]) rfl rfl (pc' := 179) rfl ?_
  obtain ⟨T49, h49, W49, Wr49, A49, C49, st49⟩ := oPut W48 A48 (j := (1 : Int32)) (x := (116 : Int32)) (x' := (116 : Int32)) (pc := 179) (ls := #[.val (.int i0), .val (.int (i0 &&& (3 : Int32))), .val (.ref c3), .unset, .unset, .unset]) (st := [(.ref a47)]) (by decide) (i := 1) (by decide) (by simp) (Nat.le_trans W0.ext.1 g47) (A48.safe W48.warm.alike (by decide)) (ins := .castore) (Or.inl ⟨rfl, rfl, rfl⟩) (by decide +kernel)
  refine oLift st49 ?_
  have A49 : OA Z h49 a47 k47 .char [.int (115 : Int32), .int (116 : Int32), .int 0, .int 0, .int 0, .int 0, .int 0] := A49
  refine oGo W49 [.dup, .iconst 2, .bipush 111] (by decide +kernel) (ls' := #[.val (.int i0), .val (.int (i0 &&& (3 : Int32))), .val (.ref c3), .unset, .unset, .unset]) (st' := [(.int (111 : Int32)), (.int (2 : Int32)), (.ref a47), (.ref a47)]) rfl rfl (pc' := 184) rfl ?_
  obtain ⟨T50, h50, W50, Wr50, A50, C50, st50⟩ := oPut W49 A49 (j := (2 : Int32)) (x := (111 : Int32)) (x' := (111 : Int32)) (pc := 184) (ls := #[.val (.int i0), .val (.int (i0 &&& (3 : Int32))), .val (.ref c3), .unset, .unset, .unset]) (st := [(.ref a47)]) (by decide) (i := 2) (by decide) (by simp) (Nat.le_trans W0.ext.1 g47) (A49.safe W49.warm.alike (by decide)) (ins := .castore) (Or.inl ⟨rfl, rfl, rfl⟩) (by decide +kernel)
  refine oLift st50 ?_
  have A50 : OA Z h50 a47 k47 .char [.int (115 : Int32), .int (116 : Int32), .int (111 : Int32), .int 0, .int 0, .int 0, .int 0] := A50
  refine oGo W50 [.dup, .iconst 3, .bipush 112] (by decide +kernel) (ls' := #[.val (.int i0), .val (.int (i0 &&& (3 : Int32))), .val (.ref c3), .unset, .unset, .unset]) (st' := [(.int (112 : Int32)), (.int (3 : Int32)), (.ref a47), (.ref a47)]) rfl rfl (pc' := 189) rfl ?_
  obtain ⟨T51, h51, W51, Wr51, A51, C51, st51⟩ := oPut W50 A50 (j := (3 : Int32)) (x := (112 : Int32)) (x' := (112 : Int32)) (pc := 189) (ls := #[.val (.int i0), .val (.int (i0 &&& (3 : Int32))), .val (.ref c3), .unset, .unset, .unset]) (st := [(.ref a47)]) (by decide) (i := 3) (by decide) (by simp) (Nat.le_trans W0.ext.1 g47) (A50.safe W50.warm.alike (by decide)) (ins := .castore) (Or.inl ⟨rfl, rfl, rfl⟩) (by decide +kernel)
  refine oLift st51 ?_
  have A51 : OA Z h51 a47 k47 .char [.int (115 : Int32), .int (116 : Int32), .int (111 : Int32), .int (112 : Int32), .int 0, .int 0, .int 0] := A51
  refine oGo W51 [.dup, .iconst 4, .bipush 112] (by decide +kernel) (ls' := #[.val (.int i0), .val (.int (i0 &&& (3 : Int32))), .val (.ref c3), .unset, .unset, .unset]) (st' := [(.int (112 : Int32)), (.int (4 : Int32)), (.ref a47), (.ref a47)]) rfl rfl (pc' := 194) rfl ?_
  obtain ⟨T52, h52, W52, Wr52, A52, C52, st52⟩ := oPut W51 A51 (j := (4 : Int32)) (x := (112 : Int32)) (x' := (112 : Int32)) (pc := 194) (ls := #[.val (.int i0), .val (.int (i0 &&& (3 : Int32))), .val (.ref c3), .unset, .unset, .unset]) (st := [(.ref a47)]) (by decide) (i := 4) (by decide) (by simp) (Nat.le_trans W0.ext.1 g47) (A51.safe W51.warm.alike (by decide)) (ins := .castore) (Or.inl ⟨rfl, rfl, rfl⟩) (by decide +kernel)
  refine oLift st52 ?_
  have A52 : OA Z h52 a47 k47 .char [.int (115 : Int32), .int (116 : Int32), .int (111 : Int32), .int (112 : Int32), .int (112 : Int32), .int 0, .int 0] := A52
  refine oGo W52 [.dup, .iconst 5, .bipush 101] (by decide +kernel) (ls' := #[.val (.int i0), .val (.int (i0 &&& (3 : Int32))), .val (.ref c3), .unset, .unset, .unset]) (st' := [(.int (101 : Int32)), (.int (5 : Int32)), (.ref a47), (.ref a47)]) rfl rfl (pc' := 199) rfl ?_
  obtain ⟨T53, h53, W53, Wr53, A53, C53, st53⟩ := oPut W52 A52 (j := (5 : Int32)) (x := (101 : Int32)) (x' := (101 : Int32)) (pc := 199) (ls := #[.val (.int i0), .val (.int (i0 &&& (3 : Int32))), .val (.ref c3), .unset, .unset, .unset]) (st := [(.ref a47)]) (by decide) (i := 5) (by decide) (by simp) (Nat.le_trans W0.ext.1 g47) (A52.safe W52.warm.alike (by decide)) (ins := .castore) (Or.inl ⟨rfl, rfl, rfl⟩) (by decide +kernel)
  refine oLift st53 ?_
  have A53 : OA Z h53 a47 k47 .char [.int (115 : Int32), .int (116 : Int32), .int (111 : Int32), .int (112 : Int32), .int (112 : Int32), .int (101 : Int32), .int 0] := A53
  refine oGo W53 [.dup, .bipush 6, .bipush 100] (by decide +kernel) (ls' := #[.val (.int i0), .val (.int (i0 &&& (3 : Int32))), .val (.ref c3), .unset, .unset, .unset]) (st' := [(.int (100 : Int32)), (.int (6 : Int32)), (.ref a47), (.ref a47)]) rfl rfl (pc' := 205) rfl ?_
  obtain ⟨T54, h54, W54, Wr54, A54, C54, st54⟩ := oPut W53 A53 (j := (6 : Int32)) (x := (100 : Int32)) (x' := (100 : Int32)) (pc := 205) (ls := #[.val (.int i0), .val (.int (i0 &&& (3 : Int32))), .val (.ref c3), .unset, .unset, .unset]) (st := [(.ref a47)]) (by decide) (i := 6) (by decide) (by simp) (Nat.le_trans W0.ext.1 g47) (A53.safe W53.warm.alike (by decide)) (ins := .castore) (Or.inl ⟨rfl, rfl, rfl⟩) (by decide +kernel)
  refine oLift st54 ?_
  have A54 : OA Z h54 a47 k47 .char [.int (115 : Int32), .int (116 : Int32), .int (111 : Int32), .int (112 : Int32), .int (112 : Int32), .int (101 : Int32), .int (100 : Int32)] := A54
  refine oGo W54 [.astore_n 3] (by decide +kernel) (ls' := #[.val (.int i0), .val (.int (i0 &&& (3 : Int32))), .val (.ref c3), .val (.ref a47), .unset, .unset]) (st' := []) rfl rfl (pc' := 207) rfl ?_
  obtain ⟨T55, h55, a55, W55, g55, E55, A55, D55, S55, C55, st55⟩ := oNew W54 (pc := 207) (ls := #[.val (.int i0), .val (.int (i0 &&& (3 : Int32))), .val (.ref c3), .val (.ref a47), .unset, .unset]) (st := []) (hw _ (List.mem_of_getElem? (i := 4) rfl)) (hw _ (List.mem_of_getElem? (i := 5) rfl)) (hw _ (List.mem_of_getElem? (i := 6) rfl)) (by decide +kernel) (lb rfl) (lb rfl)
  refine oLift st55 ?_
  refine oGo W55 [.dup, .aload_n 3] (by decide +kernel) (ls' := #[.val (.int i0), .val (.int (i0 &&& (3 : Int32))), .val (.ref c3), .val (.ref a47), .unset, .unset]) (st' := [(.ref a47), (.ref a55), (.ref a55)]) rfl rfl (pc' := 212) rfl ?_
  obtain ⟨v56, T56, L56, h56, vm56, W56, ⟨rfl, K56, F56⟩, C56, st56⟩ := oCallN W55 (idx := 24) (pc := 212) (ls := #[.val (.int i0), .val (.int (i0 &&& (3 : Int32))), .val (.ref c3), .val (.ref a47), .unset, .unset]) (st := [(.ref a55)]) (a := a55) (argsL := [(.ref a47)]) (k_I1 K.2.1 [115, 116, 111, 112, 112, 101, 100] (lb rfl) (lb rfl) (A54.ext E55) (by decide) (Nat.le_trans W54.ext.1 g55) A55 (D55 (Or.inr (hw _ (List.mem_of_getElem? (i := 30) rfl))) (ty := .byte) (by decide)) (D55 (Or.inr (hw _ (List.mem_of_getElem? (i := 32) rfl))) (ty := (.array .byte)) (by decide))) (fun y hy => by cases List.mem_singleton.mp hy; exact ⟨A55.lt, (by exact safe0)⟩) rfl (hw _ (List.mem_of_getElem? (i := 7) rfl)) (hw _ (List.mem_of_getElem? (i := 8) rfl)) (hw _ (List.mem_of_getElem? (i := 6) rfl)) (hw _ (List.mem_of_getElem? (i := 9) rfl)) (by decide) (na := 1) rfl (by decide +kernel) rfl (stk := [(.ref a47), (.ref a55), (.ref a55)]) rfl (by decide +kernel) (V := 1) (lb rfl) (lb rfl) (lb rfl) (lb rfl) (lb rfl)
  refine oLift st56 ?_
  show OG _ _ _ _ _ _ _ _ _ _ _ (mkF m 215 #[.val (.int i0), .val (.int (i0 &&& (3 : Int32))), .val (.ref c3), .val (.ref a47), .unset, .unset] [(.ref a55)])
  refine oGo W56 [.astore 4, .aload 4] (by decide +kernel) (ls' := #[.val (.int i0), .val (.int (i0 &&& (3 : Int32))), .val (.ref c3), .val (.ref a47), .val (.ref a55), .unset]) (st' := [(.ref a55)]) rfl rfl (pc' := 219) rfl ?_
  obtain ⟨v57, T57, L57, h57, vm57, W57, ⟨rfl, E57⟩, C57, st57⟩ := oCallS W56 (idx := 27) (pc := 219) (ls := #[.val (.int i0), .val (.int (i0 &&& (3 : Int32))), .val (.ref c3), .val (.ref a47), .val (.ref a55), .unset]) (st := []) (argsL := [(.ref a55)]) (c_parse3 K H F56) (fun x hx => nomatch hx) (hw _ (List.mem_of_getElem? (i := 33) rfl)) (hw _ (List.mem_of_getElem? (i := 34) rfl)) (hw _ (List.mem_of_getElem? (i := 1) rfl)) (hw _ (List.mem_of_getElem? (i := 35) rfl)) (by decide) (na := 1) rfl (by decide +kernel) rfl (stk := [(.ref a55)]) rfl (by decide +kernel) (V := 0) (lb rfl) (lb rfl) (lb rfl) (lb rfl) (lb rfl)
  refine oLift st57 ?_
  show OG _ _ _ _ _ _ _ _ _ _ _ (mkF m 222 #[.val (.int i0), .val (.int (i0 &&& (3 : Int32))), .val (.ref c3), .val (.ref a47), .val (.ref a55), .unset] [(.ref c3)])
  refine oGo W57 [.astore 5, .aload 5, .aload_n 2] (by decide +kernel) (ls' := #[.val (.int i0), .val (.int (i0 &&& (3 : Int32))), .val (.ref c3), .val (.ref a47), .val (.ref a55), .val (.ref c3)]) (st' := [(.ref c3), (.ref c3)]) rfl rfl (pc' := 227) rfl ?_
  refine oAcF W57 (cd := .ne) (o := 19) (by decide +kernel) rfl rfl (by simp [XT.acmp]) (pc' := 230) rfl ?_
  refine oGo W57 [.aload 4, .aload_n 2] (by decide +kernel) (ls' := #[.val (.int i0), .val (.int (i0 &&& (3 : Int32))), .val (.ref c3), .val (.ref a47), .val (.ref a55), .val (.ref c3)]) (st' := [(.ref c3), (.ref a55)]) rfl rfl (pc' := 233) rfl ?_
  obtain ⟨v58, T58, L58, h58, vm58, W58, ⟨rfl, e58⟩, C58, st58⟩ := oCallV W57 (idx := 31) (pc := 233) (ls := #[.val (.int i0), .val (.int (i0 &&& (3 : Int32))), .val (.ref c3), .val (.ref a47), .val (.ref a55), .val (.ref c3)]) (st := [(.ref a55)]) (argsL := []) (X3c.ext W57.ext) (c_tos K (F3c.ext W57.ext)) (fun x hx => nomatch hx) (hw _ (List.mem_of_getElem? (i := 66) rfl)) (hw _ (List.mem_of_getElem? (i := 67) rfl)) (notFace_of_selects (args := #[]) (mvT W57.warm (hw _ (List.mem_of_getElem? (i := 69) rfl)))) (hw _ (List.mem_of_getElem? (i := 69) rfl)) (hw _ (List.mem_of_getElem? (i := 68) rfl)) (hw _ (List.mem_of_getElem? (i := 1) rfl)) (hw _ (List.mem_of_getElem? (i := 70) rfl)) (by decide) (na := 0) rfl (by decide +kernel) rfl (stk := [(.ref c3), (.ref a55)]) rfl (by decide +kernel) (V := 1) (lb rfl) (lb rfl) (lb rfl) (lb rfl) (lb rfl)
  refine oLift st58 ?_
  rw [e58] at W58 C58
  show OG _ _ _ _ _ _ _ _ _ _ _ (mkF m 236 #[.val (.int i0), .val (.int (i0 &&& (3 : Int32))), .val (.ref c3), .val (.ref a47), .val (.ref a55), .val (.ref c3)] [(.ref l3), (.ref a55)])
  obtain ⟨v59, T59, L59, h59, vm59, W59, ⟨rfl, e59⟩, C59, st59⟩ := oCallV W58 (idx := 35) (pc := 236) (ls := #[.val (.int i0), .val (.int (i0 &&& (3 : Int32))), .val (.ref c3), .val (.ref a47), .val (.ref a55), .val (.ref c3)]) (st := []) (argsL := [(.ref l3)]) (F56.exa.ext E57) (k_Eq K.2.1 he (by decide) (by decide) (F56.ext E57) (T3c.ext W58.ext)) (fun x hx => nomatch hx) (hw _ (List.mem_of_getElem? (i := 71) rfl)) (hw _ (List.mem_of_getElem? (i := 57) rfl)) (notFace_of_selects (args := #[]) (mvT W58.warm (hw _ (List.mem_of_getElem? (i := 59) rfl)))) (hw _ (List.mem_of_getElem? (i := 59) rfl)) (hw _ (List.mem_of_getElem? (i := 58) rfl)) (hw _ (List.mem_of_getElem? (i := 6) rfl)) (hw _ (List.mem_of_getElem? (i := 60) rfl)) (by decide) (na := 1) rfl (by decide +kernel) rfl (stk := [(.ref l3), (.ref a55)]) rfl (by decide +kernel) (V := 0) (lb rfl) (lb rfl) (lb rfl) (lb rfl) (lb rfl)
  refine oLift st59 ?_
  rw [e59] at W59 C59
  show OG _ _ _ _ _ _ _ _ _ _ _ (mkF m 239 #[.val (.int i0), .val (.int (i0 &&& (3 : Int32))), .val (.ref c3), .val (.ref a47), .val (.ref a55), .val (.ref c3)] [(.int (if ([115, 116, 111, 112, 112, 101, 100] : List Int32) = [115, 116, 111, 112, 112, 101, 100] then 1 else 0))])
  refine oIfF W59 (cd := .eq) (o := 7) (by decide +kernel) (XT.i0_eq_f (by decide)) (pc' := 242) rfl ?_
  refine oGo W59 [.iconst 1, .goto 4] (by decide +kernel) (ls' := #[.val (.int i0), .val (.int (i0 &&& (3 : Int32))), .val (.ref c3), .val (.ref a47), .val (.ref a55), .val (.ref c3)]) (st' := [(.int (1 : Int32))]) rfl rfl (pc' := 247) rfl ?_
  exact oRetN (by simp) W59 rfl (by decide +kernel) (lb rfl) (lb rfl) (fun vm' hv => rfl)
set_option maxRecDepth 65536 in
set_option maxHeartbeats 40000000 in
theorem comes_1 {Post : Tables → Env → Array Value → State → Outcome → State → Prop} (hpost : ∀ tb e args s v u, (limb_1_1.after args s (.returned v) u = true ∧ limb_1_2.after args s (.returned v) u = true ∧ True) → FrameEnd s (.returned v) u (Jvm.fieldLocs frame_1_writes args s ++ Jvm.arrayLocs frame_1_arrays args s ++ Jvm.staticLocs frame_1_statics s) 16 128 → Post tb e args s (.returned v) u) :
    ArmFor flags0 classFile x code maxLocals ret World_1 tables_1 room_1 Calls_1 rest_1 Pre_1 Post := by
  intro l hfl _ _ p e ha hc hk s m args below hf hA hF happ hP
  obtain ⟨hcalls, hrest, hpre⟩ := hP
  obtain ⟨-, -, -, hnamed, -, -, -, hat⟩ := (Spec.applies_iff hf).mp happ
  obtain ⟨hg, hn⟩ := and_e (Cond.before_iff.mp (show (Jvm.Cond.and given_1 narrow_1).before args s = true from hpre))
  obtain ⟨hcnt, t0⟩ := and_e hg
  obtain ⟨w0, rfl⟩ : ∃ w0 : Value, args = #[w0] := by
    have hs : args.size = 1 := by simpa [Cond.value, given_1] using hcnt
    obtain ⟨L⟩ := args
    match L, hs with
    | [w0], _ => exact ⟨w0, rfl⟩
  have hw := fun d (hd : d ∈ tables_1) => atoms_spec (ws := Jvm.Cond.code x code maxLocals ret :: tables_1) hat d (List.mem_cons_of_mem _ hd)
  obtain ⟨hsets, hown0⟩ := atoms_of _ (rest_1_c_eq ▸ (show rest_1_c.before _ s = true from hrest))
  obtain ⟨i0, e0⟩ := is_v t0
  obtain rfl : w0 = (.int i0) := Option.some.inj e0
  have n5 := not_v (Cond.before_iff.mp (hsets _ (List.mem_of_getElem? (i := 2) rfl)))
  obtain ⟨z, ez⟩ := is_v (Cond.before_iff.mp (hsets _ (List.mem_of_getElem? (i := 1) rfl)))
  have Sz : Sta s s.heap "java/lang/String" "COMPACT_STRINGS" "Z" (.int z) := Sta.start ez (Or.inl (hsets _ (List.mem_of_getElem? (i := 0) rfl)))
  have cz : ¬ (z = (0 : Int32)) := gotF (Cond.eq_ints ez (Term.int_eval (0))) n5
  obtain ⟨c0, u1⟩ := and_e hn
  obtain ⟨c1, u2⟩ := and_e u1
  obtain ⟨c2, u3⟩ := and_e u2
  obtain ⟨c3, u4⟩ := and_e u3
  obtain ⟨c4, u5⟩ := and_e u4
  obtain ⟨c5, u6⟩ := and_e u5
  obtain ⟨c6, u7⟩ := and_e u6
  obtain ⟨c7, u8⟩ := and_e u7
  obtain ⟨c8, u9⟩ := and_e u8
  obtain ⟨c9, u10⟩ := and_e u9
  obtain ⟨c10, u11⟩ := and_e u10
  obtain ⟨c11, u12⟩ := and_e u11
  obtain ⟨c12, u13⟩ := and_e u12
  obtain ⟨c13, u14⟩ := and_e u13
  obtain ⟨c14, u15⟩ := and_e u14
  obtain ⟨c15, u16⟩ := and_e u15
  obtain ⟨c16, u17⟩ := and_e u16
  obtain ⟨c17, u18⟩ := and_e u17
  obtain ⟨c18, u19⟩ := and_e u18
  obtain ⟨c19, u20⟩ := and_e u19
  obtain ⟨c20, u21⟩ := and_e u20
  obtain ⟨c21, u22⟩ := and_e u21
  obtain ⟨c22, u23⟩ := and_e u22
  obtain ⟨c23, u24⟩ := and_e u23
  obtain ⟨c24, u25⟩ := and_e u24
  obtain ⟨c25, u26⟩ := and_e u25
  obtain ⟨c26, u27⟩ := and_e u26
  obtain ⟨c27, u28⟩ := and_e u27
  obtain ⟨c28, u29⟩ := and_e u28
  obtain ⟨c29, u30⟩ := and_e u29
  obtain ⟨c30, u31⟩ := and_e u30
  obtain ⟨c31, u32⟩ := and_e u31
  obtain ⟨c32, u33⟩ := and_e u32
  obtain ⟨c33, u34⟩ := and_e u33
  obtain ⟨c34, u35⟩ := and_e u34
  obtain ⟨c35, u36⟩ := and_e u35
  obtain ⟨c36, u37⟩ := and_e u36
  obtain ⟨c37, u38⟩ := and_e u37
  obtain ⟨c38, u39⟩ := and_e u38
  obtain ⟨c39, u40⟩ := and_e u39
  obtain ⟨c40, u41⟩ := and_e u40
  obtain ⟨c41, u42⟩ := and_e u41
  obtain ⟨c42, u43⟩ := and_e u42
  obtain ⟨c43, u44⟩ := and_e u43
  obtain ⟨c44, u45⟩ := and_e u44
  obtain ⟨c45, u46⟩ := and_e u45
  obtain ⟨c46, u47⟩ := and_e u46
  obtain ⟨c47, u48⟩ := and_e u47
  obtain ⟨c48, u49⟩ := and_e u48
  obtain ⟨c49, u50⟩ := and_e u49
  obtain ⟨c50, u51⟩ := and_e u50
  obtain ⟨c51, u52⟩ := and_e u51
  obtain ⟨c52, u53⟩ := and_e u52
  obtain ⟨c53, u54⟩ := and_e u53
  have c54 := u54
  have hfit : Fit s := fun {y c} hc i hi => by
    obtain ⟨ha, rfl⟩ := Array.getElem?_eq_some_iff.mp hc
    have q := List.all_eq_true.mp ((Array.all_eq_true_iff_forall_mem.mp hF) _ (Array.getElem_mem ha)) i (List.mem_range.mpr hi)
    simpa [Array.getElem?_eq_getElem hi] using q
  obtain ⟨k0, ek0⟩ := exa_v c0
  have Sk0 : Sta s s.heap "com/example/irrmirror/irrmirror/SyncOutcome" "CURRENT" "Lcom/example/irrmirror/irrmirror/SyncOutcome;" (.ref k0) := Sta.start ek0 (Or.inr ⟨(hw _ (List.mem_of_getElem? (i := 1) rfl)), (hw _ (List.mem_of_getElem? (i := 2) rfl))⟩)
  have Xk0 : Exa s s.heap k0 "com/example/irrmirror/irrmirror/SyncOutcome" := Exa.start ek0 c0
  obtain ⟨k1, ek1⟩ := exa_v c5
  have Sk1 : Sta s s.heap "com/example/irrmirror/irrmirror/SyncOutcome" "BEHIND" "Lcom/example/irrmirror/irrmirror/SyncOutcome;" (.ref k1) := Sta.start ek1 (Or.inr ⟨(hw _ (List.mem_of_getElem? (i := 1) rfl)), (hw _ (List.mem_of_getElem? (i := 48) rfl))⟩)
  have Xk1 : Exa s s.heap k1 "com/example/irrmirror/irrmirror/SyncOutcome" := Exa.start ek1 c5
  obtain ⟨k2, ek2⟩ := exa_v c7
  have Sk2 : Sta s s.heap "com/example/irrmirror/irrmirror/SyncOutcome" "REJECTED" "Lcom/example/irrmirror/irrmirror/SyncOutcome;" (.ref k2) := Sta.start ek2 (Or.inr ⟨(hw _ (List.mem_of_getElem? (i := 1) rfl)), (hw _ (List.mem_of_getElem? (i := 49) rfl))⟩)
  have Xk2 : Exa s s.heap k2 "com/example/irrmirror/irrmirror/SyncOutcome" := Exa.start ek2 c7
  obtain ⟨k3, ek3⟩ := exa_v c9
  have Sk3 : Sta s s.heap "com/example/irrmirror/irrmirror/SyncOutcome" "STOPPED" "Lcom/example/irrmirror/irrmirror/SyncOutcome;" (.ref k3) := Sta.start ek3 (Or.inr ⟨(hw _ (List.mem_of_getElem? (i := 1) rfl)), (hw _ (List.mem_of_getElem? (i := 50) rfl))⟩)
  have Xk3 : Exa s s.heap k3 "com/example/irrmirror/irrmirror/SyncOutcome" := Exa.start ek3 c9
  obtain ⟨va, eva⟩ := exa_v c2
  have SVa : Sta s s.heap "com/example/irrmirror/irrmirror/SyncOutcome" "$VALUES" "[Lcom/example/irrmirror/irrmirror/SyncOutcome;" (.ref va) := Sta.start eva (Or.inr ⟨(hw _ (List.mem_of_getElem? (i := 1) rfl)), (hw _ (List.mem_of_getElem? (i := 40) rfl))⟩)
  obtain ⟨kv, AVa⟩ := arrStart hfit eva c1 (n := 4) (by decide) c3 (vs := [.ref k0, .ref k1, .ref k2, .ref k3]) rfl (fun c hc => ⟨(elem_in (eqv c4 ek0 (Or.inl rfl)) eva rfl hc).2, (elem_in (eqv c6 ek1 (Or.inl rfl)) eva rfl hc).2, (elem_in (eqv c8 ek2 (Or.inl rfl)) eva rfl hc).2, (elem_in (eqv c10 ek3 (Or.inl rfl)) eva rfl hc).2, trivial⟩)
  obtain ⟨l0, el0⟩ := exa_v c11
  have Fl0 : Fld s s.heap k0 "com/example/irrmirror/irrmirror/SyncOutcome" "label" "Ljava/lang/String;" (.ref l0) := Fld.start (by rw [← fld_at ek0]; exact el0)
  have Tl0 : Str s s.heap l0 [99, 117, 114, 114, 101, 110, 116] := strStart hfit el0 c11 c12 c13 (n := 7) (by decide) c14 rfl (by decide) (fun va c hv hc => ⟨(elem_in (eqv c27 rfl (Or.inr ⟨_, rfl⟩)) hv rfl hc).2, (elem_in (eqv c28 rfl (Or.inr ⟨_, rfl⟩)) hv rfl hc).2, (elem_in (eqv c29 rfl (Or.inr ⟨_, rfl⟩)) hv rfl hc).2, (elem_in (eqv c30 rfl (Or.inr ⟨_, rfl⟩)) hv rfl hc).2, (elem_in (eqv c31 rfl (Or.inr ⟨_, rfl⟩)) hv rfl hc).2, (elem_in (eqv c32 rfl (Or.inr ⟨_, rfl⟩)) hv rfl hc).2, (elem_in (eqv c33 rfl (Or.inr ⟨_, rfl⟩)) hv rfl hc).2, trivial⟩)
  obtain ⟨l1, el1⟩ := exa_v c15
  have Fl1 : Fld s s.heap k1 "com/example/irrmirror/irrmirror/SyncOutcome" "label" "Ljava/lang/String;" (.ref l1) := Fld.start (by rw [← fld_at ek1]; exact el1)
  have Tl1 : Str s s.heap l1 [98, 101, 104, 105, 110, 100] := strStart hfit el1 c15 c16 c17 (n := 6) (by decide) c18 rfl (by decide) (fun va c hv hc => ⟨(elem_in (eqv c34 rfl (Or.inr ⟨_, rfl⟩)) hv rfl hc).2, (elem_in (eqv c35 rfl (Or.inr ⟨_, rfl⟩)) hv rfl hc).2, (elem_in (eqv c36 rfl (Or.inr ⟨_, rfl⟩)) hv rfl hc).2, (elem_in (eqv c37 rfl (Or.inr ⟨_, rfl⟩)) hv rfl hc).2, (elem_in (eqv c38 rfl (Or.inr ⟨_, rfl⟩)) hv rfl hc).2, (elem_in (eqv c39 rfl (Or.inr ⟨_, rfl⟩)) hv rfl hc).2, trivial⟩)
  obtain ⟨l2, el2⟩ := exa_v c19
  have Fl2 : Fld s s.heap k2 "com/example/irrmirror/irrmirror/SyncOutcome" "label" "Ljava/lang/String;" (.ref l2) := Fld.start (by rw [← fld_at ek2]; exact el2)
  have Tl2 : Str s s.heap l2 [114, 101, 106, 101, 99, 116, 101, 100] := strStart hfit el2 c19 c20 c21 (n := 8) (by decide) c22 rfl (by decide) (fun va c hv hc => ⟨(elem_in (eqv c40 rfl (Or.inr ⟨_, rfl⟩)) hv rfl hc).2, (elem_in (eqv c41 rfl (Or.inr ⟨_, rfl⟩)) hv rfl hc).2, (elem_in (eqv c42 rfl (Or.inr ⟨_, rfl⟩)) hv rfl hc).2, (elem_in (eqv c43 rfl (Or.inr ⟨_, rfl⟩)) hv rfl hc).2, (elem_in (eqv c44 rfl (Or.inr ⟨_, rfl⟩)) hv rfl hc).2, (elem_in (eqv c45 rfl (Or.inr ⟨_, rfl⟩)) hv rfl hc).2, (elem_in (eqv c46 rfl (Or.inr ⟨_, rfl⟩)) hv rfl hc).2, (elem_in (eqv c47 rfl (Or.inr ⟨_, rfl⟩)) hv rfl hc).2, trivial⟩)
  obtain ⟨l3, el3⟩ := exa_v c23
  have Fl3 : Fld s s.heap k3 "com/example/irrmirror/irrmirror/SyncOutcome" "label" "Ljava/lang/String;" (.ref l3) := Fld.start (by rw [← fld_at ek3]; exact el3)
  have Tl3 : Str s s.heap l3 [115, 116, 111, 112, 112, 101, 100] := strStart hfit el3 c23 c24 c25 (n := 7) (by decide) c26 rfl (by decide) (fun va c hv hc => ⟨(elem_in (eqv c48 rfl (Or.inr ⟨_, rfl⟩)) hv rfl hc).2, (elem_in (eqv c49 rfl (Or.inr ⟨_, rfl⟩)) hv rfl hc).2, (elem_in (eqv c50 rfl (Or.inr ⟨_, rfl⟩)) hv rfl hc).2, (elem_in (eqv c51 rfl (Or.inr ⟨_, rfl⟩)) hv rfl hc).2, (elem_in (eqv c52 rfl (Or.inr ⟨_, rfl⟩)) hv rfl hc).2, (elem_in (eqv c53 rfl (Or.inr ⟨_, rfl⟩)) hv rfl hc).2, (elem_in (eqv c54 rfl (Or.inr ⟨_, rfl⟩)) hv rfl hc).2, trivial⟩)
  have hEn : En s k0 k1 k2 k3 va kv l0 l1 l2 l3 := ⟨⟨Sk0, Sk1, Sk2, Sk3⟩, ⟨SVa, AVa, Exa.start eva c2⟩, ⟨Xk0, Xk1, Xk2, Xk3⟩, ⟨Fl0, Fl1, Fl2, Fl3⟩, ⟨Tl0, Tl1, Tl2, Tl3⟩⟩
  have hEW : EW s #[.int i0] EL := EW.nil
  have hCH : CHv s EL s.vm s.heap := fun _ hp => nomatch hp
  have K : Ctx s #[.int i0] := ⟨hw, ⟨fun d hd => hw d (sW_in d hd), hEW, z, Sz, cz⟩, fun d hd => hw d (eW_in d hd)⟩
  obtain ⟨n, o, q1, q2, q3, v, L, rfl, ⟨rfl, N, -⟩, hnb, -, r1, r2, r3, r4⟩ := c_law (l := l) K i0 k0 k1 k2 k3 va kv l0 l1 l2 l3 hEn s.heap p e ha hc hk s m _ below hf ((Spec.applies_iff_loose hf).mp happ).1 ⟨rfl, State.Warmed39.refl s, rfl, hCH, exR _, fun _ hp => nomatch hp⟩ trivial
  exact ⟨n, _, q1, q2, q3, hpost _ _ _ _ _ _ ⟨Cond.after_iff.mpr rfl, Cond.after_iff.mpr (eq_i res_at (Term.int_eval (1)) rfl), trivial⟩ ⟨r1, hnb rfl, (r4.sift fun y hy => Or.inr (N y hy)).mono (by decide) (by decide)⟩⟩
theorem main_1_1 : Claimed_1_1 := comes_1 fun _ _ _ _ _ _ h hF => ⟨h.1, hF⟩
theorem main_1_2 : Claimed_1_2 := comes_1 fun _ _ _ _ _ _ h hF => ⟨h.2.1, hF⟩
end Jvm.Pilot.@@N@@
namespace Jvm.Pilot.@@N@@
open Jvm Jvm.ClassFile Sem Op Lib Jvm.Free Jvm.Stand Jvm.Pilot.@@N@@.Jvm.D
/-! MADE BY PROGRAM (witnessworld.py) out of the Statement's table words and the real class files: 22 classes; the members and pool entries that the words name. The judged class is class 1, her method 1. -/
namespace start1
open Jvm.ClassFile
def u (s : String) : CpInfo := .utf8 (stringToUtf16 s)
/-- a pool by its gaps: so many unusable entries, then the entry; so many at the end -/
def gap : Nat → List CpInfo → List CpInfo
  | 0, r => r
  | n + 1, r => .unusable :: gap n r
def poolList (es : List (Nat × CpInfo)) (last : Nat) : List CpInfo := es.foldr (fun e r => gap e.1 (e.2 :: r)) (gap last [])
def pool (es : List (Nat × CpInfo)) (last : Nat) : Array CpInfo := ⟨poolList es last⟩
def fileOf (pool : Array CpInfo) (this : Nat) (attrs : Array Attribute := #[]) (ms : Array MethodInfo := #[]) (fl : Nat := 33) (sup : Nat := 0) (ifs : Array Nat := #[]) (fds : Array FieldInfo := #[]) : ClassFile where
  minorVersion := 0
  majorVersion := 65
  constantPool := pool
  accessFlags := fl
  thisClass := this
  superClass := sup
  interfaces := ifs
  fields := fds
  methods := ms
  attributes := attrs
def plain (name : String) (sup : Option ClassId) : Class where
  name := name
  kind := .ordinary
  loader := none
  accessFlags := 33
  super := sup
  interfaces := #[]
  cf := none
  fields := #[]
  methods := #[]
  instanceTypes := #[]
  staticTypes := #[]
  resolved := #[]
  callSites := []
  init := .initialized
  statics := none
  mirror := none

def pool0 : Array CpInfo := pool [(5, u "<init>"), (0, u "()V"), (1, .class_ 10), (1, u "java/lang/Object"), (85, u "clone"), (0, u "()Ljava/lang/Object;")] 26

def k0c0 : Code := { maxStack := 0, maxLocals := 1, code := object_method_1_code, exceptionTable := #[], attributes := #[] }
def k0m0 : Method := { name := "<init>", desc := "()V", sig := { parameters := [], returnType := none }, accessFlags := 1, code := some k0c0 }
def k0m1 : Method := { name := "clone", desc := "()Ljava/lang/Object;", sig := { parameters := [], returnType := some (.object "java/lang/Object") }, accessFlags := 260, code := none }
/-- java/lang/Object -/
def k0 : Class := { plain "java/lang/Object" none with
  accessFlags := 33
  interfaces := #[]
  cf := some (fileOf pool0 8 #[] #[{ accessFlags := 1, nameIndex := 5, descriptorIndex := 6, attributes := #[] }, { accessFlags := 260, nameIndex := 96, descriptorIndex := 97, attributes := #[] }] 33 0 #[] #[])
  fields := #[]
  methods := #[k0m0, k0m1]
  instanceTypes := #[]
  staticTypes := #[]
  resolved := Array.replicate 124 none
  statics := none }

def pool1 : Array CpInfo := pool [(2, .class_ 4), (1, u "java/lang/Object"), (0, u "<init>"), (0, u "()V"), (0, .fieldref 8 9), (0, .class_ 10), (0, .nameAndType 11 12), (0, u "com/example/irrmirror/irrmirror/SyncOutcome"), (0, u "CURRENT"), (0, u "Lcom/example/irrmirror/irrmirror/SyncOutcome;"), (0, .fieldref 8 14), (0, .nameAndType 15 12), (0, u "BEHIND"), (0, .fieldref 8 17), (0, .nameAndType 18 12), (0, u "REJECTED"), (0, .fieldref 8 20), (0, .nameAndType 21 12), (0, u "STOPPED"), (0, .class_ 23), (0, u "java/lang/String"), (0, .methodref 22 25), (0, .nameAndType 5 26), (0, u "([C)V"), (0, .methodref 8 28), (0, .nameAndType 29 30), (0, u "parse"), (0, u "(Ljava/lang/String;)Lcom/example/irrmirror/irrmirror/SyncOutcome;"), (0, .methodref 8 32), (0, .nameAndType 33 34), (0, u "toString"), (0, u "()Ljava/lang/String;"), (0, .methodref 22 36), (0, .nameAndType 37 38), (0, u "equals"), (0, u "(Ljava/lang/Object;)Z"), (0, .class_ 40), (0, u "com/example/irrmirror/irrmirror/SyncOutcomeParsePinLaw"), (2, u "law"), (0, u "(I)Z")] 5

def k1m0 : Method := { name := "<init>", desc := "()V", sig := { parameters := [], returnType := none }, accessFlags := 1, code := none }
def k1c1 : Code := { maxStack := 4, maxLocals := 6, code := code, exceptionTable := #[], attributes := #[] }
def k1m1 : Method := { name := "law", desc := "(I)Z", sig := { parameters := [.int], returnType := some .boolean }, accessFlags := 9, code := some k1c1 }
/-- com/example/irrmirror/irrmirror/SyncOutcomeParsePinLaw -/
def k1 : Class := { plain "com/example/irrmirror/irrmirror/SyncOutcomeParsePinLaw" (some 0) with
  accessFlags := 49
  interfaces := #[]
  cf := some (fileOf pool1 39 #[] #[{ accessFlags := 1, nameIndex := 5, descriptorIndex := 6, attributes := #[] }, { accessFlags := 9, nameIndex := 43, descriptorIndex := 44, attributes := #[] }] 49 2 #[] #[])
  fields := #[]
  methods := #[k1m0, k1m1]
  instanceTypes := #[]
  staticTypes := #[]
  resolved := Array.replicate 50 none
  statics := none }

def pool2 : Array CpInfo := pool [(1, .class_ 2), (0, u "java/lang/constant/Constable"), (0, .class_ 4), (0, u "java/lang/Object")] 6

/-- java/lang/constant/Constable -/
def k2 : Class := { plain "java/lang/constant/Constable" (some 0) with
  accessFlags := 1537
  interfaces := #[]
  cf := some (fileOf pool2 1 #[] #[] 1537 3 #[] #[])
  fields := #[]
  methods := #[]
  instanceTypes := #[]
  staticTypes := #[]
  resolved := Array.replicate 11 none
  statics := none }

def pool3 : Array CpInfo := pool [(1, .class_ 2), (0, u "java/lang/Comparable"), (0, .class_ 4), (0, u "java/lang/Object")] 7

/-- java/lang/Comparable -/
def k3 : Class := { plain "java/lang/Comparable" (some 0) with
  accessFlags := 1537
  interfaces := #[]
  cf := some (fileOf pool3 1 #[] #[] 1537 3 #[] #[])
  fields := #[]
  methods := #[]
  instanceTypes := #[]
  staticTypes := #[]
  resolved := Array.replicate 12 none
  statics := none }

def pool4 : Array CpInfo := pool [(1, .class_ 2), (0, u "java/io/Serializable"), (0, .class_ 4), (0, u "java/lang/Object")] 2

/-- java/io/Serializable -/
def k4 : Class := { plain "java/io/Serializable" (some 0) with
  accessFlags := 1537
  interfaces := #[]
  cf := some (fileOf pool4 1 #[] #[] 1537 3 #[] #[])
  fields := #[]
  methods := #[]
  instanceTypes := #[]
  staticTypes := #[]
  resolved := Array.replicate 7 none
  statics := none }

def pool5 : Array CpInfo := pool [(2, .class_ 4), (1, u "java/lang/Enum"), (0, u "name"), (0, u "Ljava/lang/String;"), (2, u "ordinal"), (0, u "I"), (1, .class_ 14), (1, u "java/lang/Object"), (4, u "hash"), (86, .class_ 108), (1, u "java/lang/Enum$EnumDesc"), (2, .class_ 112), (0, u "java/lang/constant/Constable"), (0, .class_ 114), (0, u "java/lang/Comparable"), (0, .class_ 116), (0, u "java/io/Serializable")] 87

/-- java/lang/Enum -/
def k5 : Class := { plain "java/lang/Enum" (some 0) with
  accessFlags := 1057
  interfaces := #[2, 3, 4]
  cf := some (fileOf pool5 2 #[.nestMembers #[106]] #[] 1057 12 #[111, 113, 115] #[{ accessFlags := 18, nameIndex := 5, descriptorIndex := 6, attributes := #[] }, { accessFlags := 18, nameIndex := 9, descriptorIndex := 10, attributes := #[] }, { accessFlags := 2, nameIndex := 19, descriptorIndex := 10, attributes := #[] }])
  fields := #[{ name := "name", type := (.object "java/lang/String"), accessFlags := 18, slot := 0, constantValue := 0 }, { name := "ordinal", type := .int, accessFlags := 18, slot := 1, constantValue := 0 }, { name := "hash", type := .int, accessFlags := 2, slot := 2, constantValue := 0 }]
  methods := #[]
  instanceTypes := #[(.object "java/lang/String"), .int, .int]
  staticTypes := #[]
  resolved := Array.replicate 204 none
  statics := none }

def pool6 : Array CpInfo := pool [(1, .class_ 2), (0, u "com/example/irrmirror/irrmirror/SyncOutcome"), (2, u "CURRENT"), (0, u "Lcom/example/irrmirror/irrmirror/SyncOutcome;"), (2, u "BEHIND"), (2, u "REJECTED"), (2, u "STOPPED"), (0, .fieldref 1 17), (0, .nameAndType 18 19), (0, u "$VALUES"), (0, u "[Lcom/example/irrmirror/irrmirror/SyncOutcome;"), (0, .methodref 21 22), (0, .class_ 19), (0, .nameAndType 23 24), (0, u "clone"), (0, u "()Ljava/lang/Object;"), (1, .class_ 28), (1, u "java/lang/Enum"), (6, .fieldref 1 36), (0, .nameAndType 37 38), (0, u "label"), (0, u "Ljava/lang/String;"), (0, .methodref 1 40), (0, .nameAndType 41 42), (0, u "values"), (0, u "()[Lcom/example/irrmirror/irrmirror/SyncOutcome;"), (0, .methodref 44 45), (0, .class_ 46), (0, .nameAndType 47 48), (0, u "java/lang/String"), (0, u "equals"), (0, u "(Ljava/lang/Object;)Z"), (29, u "(Ljava/lang/String;)Lcom/example/irrmirror/irrmirror/SyncOutcome;"), (2, u "parse"), (1, u "toString"), (0, u "()Ljava/lang/String;")] 20

def k6c0 : Code := { maxStack := 1, maxLocals := 0, code := prog_26_method_1_code, exceptionTable := #[], attributes := #[] }
def k6m0 : Method := { name := "values", desc := "()[Lcom/example/irrmirror/irrmirror/SyncOutcome;", sig := { parameters := [], returnType := some (.array (.object "com/example/irrmirror/irrmirror/SyncOutcome")) }, accessFlags := 9, code := some k6c0 }
def k6c1 : Code := { maxStack := 3, maxLocals := 5, code := prog_26_method_4_code, exceptionTable := #[], attributes := #[] }
def k6m1 : Method := { name := "parse", desc := "(Ljava/lang/String;)Lcom/example/irrmirror/irrmirror/SyncOutcome;", sig := { parameters := [(.object "java/lang/String")], returnType := some (.object "com/example/irrmirror/irrmirror/SyncOutcome") }, accessFlags := 8, code := some k6c1 }
def k6c2 : Code := { maxStack := 1, maxLocals := 1, code := prog_26_method_5_code, exceptionTable := #[], attributes := #[] }
def k6m2 : Method := { name := "toString", desc := "()Ljava/lang/String;", sig := { parameters := [], returnType := some (.object "java/lang/String") }, accessFlags := 1, code := some k6c2 }
/-- com/example/irrmirror/irrmirror/SyncOutcome -/
def k6 : Class := { plain "com/example/irrmirror/irrmirror/SyncOutcome" (some 5) with
  accessFlags := 16432
  interfaces := #[]
  cf := some (fileOf pool6 1 #[] #[{ accessFlags := 9, nameIndex := 41, descriptorIndex := 42, attributes := #[] }, { accessFlags := 8, nameIndex := 81, descriptorIndex := 78, attributes := #[] }, { accessFlags := 1, nameIndex := 83, descriptorIndex := 84, attributes := #[] }] 16432 26 #[] #[{ accessFlags := 16409, nameIndex := 5, descriptorIndex := 6, attributes := #[] }, { accessFlags := 16409, nameIndex := 9, descriptorIndex := 6, attributes := #[] }, { accessFlags := 16409, nameIndex := 12, descriptorIndex := 6, attributes := #[] }, { accessFlags := 16409, nameIndex := 15, descriptorIndex := 6, attributes := #[] }, { accessFlags := 18, nameIndex := 37, descriptorIndex := 38, attributes := #[] }, { accessFlags := 4122, nameIndex := 18, descriptorIndex := 19, attributes := #[] }])
  fields := #[{ name := "CURRENT", type := (.object "com/example/irrmirror/irrmirror/SyncOutcome"), accessFlags := 16409, slot := 0, constantValue := 0 }, { name := "BEHIND", type := (.object "com/example/irrmirror/irrmirror/SyncOutcome"), accessFlags := 16409, slot := 1, constantValue := 0 }, { name := "REJECTED", type := (.object "com/example/irrmirror/irrmirror/SyncOutcome"), accessFlags := 16409, slot := 2, constantValue := 0 }, { name := "STOPPED", type := (.object "com/example/irrmirror/irrmirror/SyncOutcome"), accessFlags := 16409, slot := 3, constantValue := 0 }, { name := "label", type := (.object "java/lang/String"), accessFlags := 18, slot := 3, constantValue := 0 }, { name := "$VALUES", type := (.array (.object "com/example/irrmirror/irrmirror/SyncOutcome")), accessFlags := 4122, slot := 4, constantValue := 0 }]
  methods := #[k6m0, k6m1, k6m2]
  instanceTypes := #[(.object "java/lang/String"), .int, .int, (.object "java/lang/String")]
  staticTypes := #[(.object "com/example/irrmirror/irrmirror/SyncOutcome"), (.object "com/example/irrmirror/irrmirror/SyncOutcome"), (.object "com/example/irrmirror/irrmirror/SyncOutcome"), (.object "com/example/irrmirror/irrmirror/SyncOutcome"), (.array (.object "com/example/irrmirror/irrmirror/SyncOutcome"))]
  resolved := Array.replicate 105 none
  statics := some 0 }

def pool7 : Array CpInfo := pool [(2, .class_ 4), (1, u "java/lang/CharSequence"), (42, .class_ 48), (0, u "java/lang/CharSequence$1CodePointIterator"), (10, .class_ 60), (0, u "java/lang/CharSequence$1CharIterator"), (5, .class_ 67), (0, u "java/lang/Object")] 63

/-- java/lang/CharSequence -/
def k7 : Class := { plain "java/lang/CharSequence" (some 0) with
  accessFlags := 1537
  interfaces := #[]
  cf := some (fileOf pool7 2 #[.nestMembers #[47, 59]] #[] 1537 66 #[] #[])
  fields := #[]
  methods := #[]
  instanceTypes := #[]
  staticTypes := #[]
  resolved := Array.replicate 131 none
  statics := none }

def pool8 : Array CpInfo := pool [(1, .class_ 2), (0, u "java/lang/constant/ConstantDesc"), (0, .class_ 4), (0, u "java/lang/Object")] 32

/-- java/lang/constant/ConstantDesc -/
def k8 : Class := { plain "java/lang/constant/ConstantDesc" (some 0) with
  accessFlags := 1537
  interfaces := #[]
  cf := some (fileOf pool8 1 #[] #[] 1537 3 #[] #[])
  fields := #[]
  methods := #[]
  instanceTypes := #[]
  staticTypes := #[]
  resolved := Array.replicate 37 none
  statics := none }

def pool9 : Array CpInfo := pool [(1, .methodref 2 3), (0, .class_ 4), (0, .nameAndType 5 6), (0, u "java/lang/Object"), (0, u "<init>"), (0, u "()V"), (2, .fieldref 10 11), (0, .class_ 12), (0, .nameAndType 13 14), (0, u "java/lang/String"), (0, u "value"), (0, u "[B"), (0, .fieldref 10 16), (0, .nameAndType 17 18), (0, u "coder"), (0, u "B"), (2, u "hash"), (0, u "I"), (2, u "hashIsZero"), (0, u "Z"), (0, .methodref 10 28), (0, .nameAndType 5 29), (0, u "([CIILjava/lang/Void;)V"), (8, .fieldref 10 39), (0, .nameAndType 40 26), (0, u "COMPACT_STRINGS"), (1, .class_ 44), (1, u "java/lang/StringUTF16"), (0, u "compress"), (1, .methodref 42 48), (0, .nameAndType 49 50), (0, u "coderFromArrayLen"), (0, u "([BI)B"), (56, .class_ 109), (1, u "java/lang/StringLatin1"), (67, .methodref 42 178), (0, .nameAndType 45 179), (0, u "([CII)[B"), (361, .methodref 107 542), (0, .nameAndType 543 544), (0, u "equals"), (0, u "([B[B)Z"), (28, u "(Ljava/lang/Object;)Z"), (1, .class_ 576), (0, u "java/lang/CharSequence"), (22, u "CASE_INSENSITIVE_ORDER"), (0, u "Ljava/util/Comparator;"), (409, u "([C)V"), (90, u "serialPersistentFields"), (0, u "[Ljava/io/ObjectStreamField;"), (0, .class_ 1104), (0, u "java/lang/String$CaseInsensitiveComparator"), (1, .class_ 1107), (0, u "java/io/Serializable"), (0, .class_ 1109), (0, u "java/lang/Comparable"), (0, .class_ 1111), (0, u "java/lang/constant/Constable"), (0, .class_ 1113), (0, u "java/lang/constant/ConstantDesc"), (2, u "serialVersionUID"), (0, u "J"), (3, u "REPL"), (0, u "C"), (2, u "LATIN1"), (1, u "UTF16")] 323

def k9m0 : Method := { name := "<init>", desc := "()V", sig := { parameters := [], returnType := none }, accessFlags := 1, code := none }
def k9c1 : Code := { maxStack := 5, maxLocals := 2, code := jdk_42_method_3_code, exceptionTable := #[], attributes := #[] }
def k9m1 : Method := { name := "<init>", desc := "([C)V", sig := { parameters := [(.array .char)], returnType := none }, accessFlags := 1, code := some k9c1 }
def k9c2 : Code := { maxStack := 2, maxLocals := 3, code := jdk_42_method_66_code, exceptionTable := #[], attributes := #[] }
def k9m2 : Method := { name := "equals", desc := "(Ljava/lang/Object;)Z", sig := { parameters := [(.object "java/lang/Object")], returnType := some .boolean }, accessFlags := 1, code := some k9c2 }
def k9c3 : Code := { maxStack := 4, maxLocals := 6, code := jdk_42_method_149_code, exceptionTable := #[], attributes := #[] }
def k9m3 : Method := { name := "<init>", desc := "([CIILjava/lang/Void;)V", sig := { parameters := [(.array .char), .int, .int, (.object "java/lang/Void")], returnType := none }, accessFlags := 2, code := some k9c3 }
/-- java/lang/String -/
def k9 : Class := { plain "java/lang/String" (some 0) with
  accessFlags := 49
  interfaces := #[4, 3, 7, 2, 8]
  cf := some (fileOf pool9 10 #[.nestMembers #[1103]] #[{ accessFlags := 1, nameIndex := 5, descriptorIndex := 6, attributes := #[] }, { accessFlags := 1, nameIndex := 5, descriptorIndex := 1010, attributes := #[] }, { accessFlags := 1, nameIndex := 543, descriptorIndex := 573, attributes := #[] }, { accessFlags := 2, nameIndex := 5, descriptorIndex := 29, attributes := #[] }] 49 2 #[1106, 1108, 575, 1110, 1112] #[{ accessFlags := 18, nameIndex := 13, descriptorIndex := 14, attributes := #[] }, { accessFlags := 18, nameIndex := 17, descriptorIndex := 18, attributes := #[] }, { accessFlags := 2, nameIndex := 21, descriptorIndex := 22, attributes := #[] }, { accessFlags := 2, nameIndex := 25, descriptorIndex := 26, attributes := #[] }, { accessFlags := 26, nameIndex := 1116, descriptorIndex := 1117, attributes := #[] }, { accessFlags := 24, nameIndex := 40, descriptorIndex := 26, attributes := #[] }, { accessFlags := 26, nameIndex := 1101, descriptorIndex := 1102, attributes := #[] }, { accessFlags := 26, nameIndex := 1121, descriptorIndex := 1122, attributes := #[] }, { accessFlags := 25, nameIndex := 599, descriptorIndex := 600, attributes := #[] }, { accessFlags := 24, nameIndex := 1125, descriptorIndex := 18, attributes := #[] }, { accessFlags := 24, nameIndex := 1127, descriptorIndex := 18, attributes := #[] }])
  fields := #[{ name := "value", type := (.array .byte), accessFlags := 18, slot := 0, constantValue := 0 }, { name := "coder", type := .byte, accessFlags := 18, slot := 1, constantValue := 0 }, { name := "hash", type := .int, accessFlags := 2, slot := 2, constantValue := 0 }, { name := "hashIsZero", type := .boolean, accessFlags := 2, slot := 3, constantValue := 0 }, { name := "serialVersionUID", type := .long, accessFlags := 26, slot := 0, constantValue := 0 }, { name := "COMPACT_STRINGS", type := .boolean, accessFlags := 24, slot := 1, constantValue := 0 }, { name := "serialPersistentFields", type := (.array (.object "java/io/ObjectStreamField")), accessFlags := 26, slot := 2, constantValue := 0 }, { name := "REPL", type := .char, accessFlags := 26, slot := 3, constantValue := 0 }, { name := "CASE_INSENSITIVE_ORDER", type := (.object "java/util/Comparator"), accessFlags := 25, slot := 4, constantValue := 0 }, { name := "LATIN1", type := .byte, accessFlags := 24, slot := 5, constantValue := 0 }, { name := "UTF16", type := .byte, accessFlags := 24, slot := 6, constantValue := 0 }]
  methods := #[k9m0, k9m1, k9m2, k9m3]
  instanceTypes := #[(.array .byte), .byte, .int, .boolean]
  staticTypes := #[.long, .boolean, (.array (.object "java/io/ObjectStreamField")), .char, (.object "java/util/Comparator"), .byte, .byte]
  resolved := Array.replicate 1451 none
  statics := some 1 }

def pool10 : Array CpInfo := pool [(6, .class_ 8), (1, u "java/lang/Object"), (0, u "<init>"), (0, u "()V"), (1, .class_ 14), (1, u "java/lang/StringUTF16"), (31, u "$assertionsDisabled"), (0, u "Z"), (13, u "HI_BYTE_SHIFT"), (0, u "I"), (2, u "LO_BYTE_SHIFT"), (49, .methodref 12 116), (0, .nameAndType 117 118), (0, u "compress"), (0, u "([CI[BII)I"), (3, u "([CII)[B"), (138, u "coderFromArrayLen"), (0, u "([BI)B"), (106, .class_ 371), (1, u "java/lang/StringUTF16$LinesSpliterator"), (58, u "MAX_LENGTH"), (196, .class_ 628), (0, u "java/lang/StringUTF16$CodePointsSpliterator"), (0, .class_ 630), (0, u "java/lang/StringUTF16$CharsSpliterator")] 4

def k10m0 : Method := { name := "<init>", desc := "()V", sig := { parameters := [], returnType := none }, accessFlags := 0, code := none }
def k10c1 : Code := { maxStack := 2, maxLocals := 2, code := jdk_52_method_15_code, exceptionTable := #[], attributes := #[] }
def k10m1 : Method := { name := "coderFromArrayLen", desc := "([BI)B", sig := { parameters := [(.array .byte), .int], returnType := some .byte }, accessFlags := 8, code := some k10c1 }
def k10c2 : Code := { maxStack := 5, maxLocals := 6, code := jdk_52_method_16_code, exceptionTable := #[], attributes := #[] }
def k10m2 : Method := { name := "compress", desc := "([CII)[B", sig := { parameters := [(.array .char), .int, .int], returnType := some (.array .byte) }, accessFlags := 9, code := some k10c2 }
def k10c3 : Code := { maxStack := 3, maxLocals := 7, code := jdk_52_method_21_code, exceptionTable := #[], attributes := #[] }
def k10m3 : Method := { name := "compress", desc := "([CI[BII)I", sig := { parameters := [(.array .char), .int, (.array .byte), .int, .int], returnType := some .int }, accessFlags := 9, code := some k10c3 }
/-- java/lang/StringUTF16 -/
def k10 : Class := { plain "java/lang/StringUTF16" (some 0) with
  accessFlags := 48
  interfaces := #[]
  cf := some (fileOf pool10 12 #[.nestMembers #[627, 629, 369]] #[{ accessFlags := 0, nameIndex := 9, descriptorIndex := 10, attributes := #[] }, { accessFlags := 8, nameIndex := 261, descriptorIndex := 262, attributes := #[] }, { accessFlags := 9, nameIndex := 117, descriptorIndex := 122, attributes := #[] }, { accessFlags := 9, nameIndex := 117, descriptorIndex := 118, attributes := #[] }] 48 6 #[] #[{ accessFlags := 26, nameIndex := 61, descriptorIndex := 62, attributes := #[] }, { accessFlags := 26, nameIndex := 65, descriptorIndex := 62, attributes := #[] }, { accessFlags := 24, nameIndex := 430, descriptorIndex := 62, attributes := #[] }, { accessFlags := 4120, nameIndex := 46, descriptorIndex := 47, attributes := #[] }])
  fields := #[{ name := "HI_BYTE_SHIFT", type := .int, accessFlags := 26, slot := 0, constantValue := 0 }, { name := "LO_BYTE_SHIFT", type := .int, accessFlags := 26, slot := 1, constantValue := 0 }, { name := "MAX_LENGTH", type := .int, accessFlags := 24, slot := 2, constantValue := 0 }, { name := "$assertionsDisabled", type := .boolean, accessFlags := 4120, slot := 3, constantValue := 0 }]
  methods := #[k10m0, k10m1, k10m2, k10m3]
  instanceTypes := #[]
  staticTypes := #[.int, .int, .int, .boolean]
  resolved := Array.replicate 635 none
  statics := none }

def pool11 : Array CpInfo := pool [(1, .class_ 2), (0, u "java/lang/Cloneable"), (0, .class_ 4), (0, u "java/lang/Object")] 2

/-- java/lang/Cloneable -/
def k11 : Class := { plain "java/lang/Cloneable" (some 0) with
  accessFlags := 1537
  interfaces := #[]
  cf := some (fileOf pool11 1 #[] #[] 1537 3 #[] #[])
  fields := #[]
  methods := #[]
  instanceTypes := #[]
  staticTypes := #[]
  resolved := Array.replicate 7 none
  statics := none }

def pool12 : Array CpInfo := pool [(4, .class_ 6), (1, u "java/lang/Object"), (0, u "<init>"), (0, u "()V"), (5, .class_ 16), (1, u "java/lang/StringLatin1"), (104, u "$assertionsDisabled"), (0, u "Z"), (98, .class_ 223), (1, u "java/lang/StringLatin1$LinesSpliterator"), (57, u "equals"), (0, u "([B[B)Z"), (107, .class_ 391), (0, u "java/lang/StringLatin1$CharsSpliterator")] 3

def k12m0 : Method := { name := "<init>", desc := "()V", sig := { parameters := [], returnType := none }, accessFlags := 0, code := none }
def k12c1 : Code := { maxStack := 3, maxLocals := 3, code := jdk_43_method_13_code, exceptionTable := #[], attributes := #[] }
def k12m1 : Method := { name := "equals", desc := "([B[B)Z", sig := { parameters := [(.array .byte), (.array .byte)], returnType := some .boolean }, accessFlags := 9, code := some k12c1 }
/-- java/lang/StringLatin1 -/
def k12 : Class := { plain "java/lang/StringLatin1" (some 0) with
  accessFlags := 48
  interfaces := #[]
  cf := some (fileOf pool12 14 #[.nestMembers #[390, 221]] #[{ accessFlags := 0, nameIndex := 7, descriptorIndex := 8, attributes := #[] }, { accessFlags := 9, nameIndex := 281, descriptorIndex := 282, attributes := #[] }] 48 4 #[] #[{ accessFlags := 4120, nameIndex := 121, descriptorIndex := 122, attributes := #[] }])
  fields := #[{ name := "$assertionsDisabled", type := .boolean, accessFlags := 4120, slot := 0, constantValue := 0 }]
  methods := #[k12m0, k12m1]
  instanceTypes := #[]
  staticTypes := #[.boolean]
  resolved := Array.replicate 395 none
  statics := none }

def pool13 : Array CpInfo := pool [(2, .class_ 4), (1, u "java/lang/Object"), (0, u "<init>"), (0, u "()V"), (17, .class_ 26), (1, u "jdk/internal/util/Preconditions"), (28, .class_ 56), (0, u "jdk/internal/util/Preconditions$4"), (57, .class_ 115), (0, u "jdk/internal/util/Preconditions$1"), (7, u "SIOOBE_FORMATTER"), (0, u "Ljava/util/function/BiFunction;"), (0, .class_ 126), (0, u "jdk/internal/util/Preconditions$2"), (3, u "AIOOBE_FORMATTER"), (0, .class_ 132), (0, u "jdk/internal/util/Preconditions$3"), (3, u "IOOBE_FORMATTER")] 57

def k13m0 : Method := { name := "<init>", desc := "()V", sig := { parameters := [], returnType := none }, accessFlags := 1, code := none }
/-- jdk/internal/util/Preconditions -/
def k13 : Class := { plain "jdk/internal/util/Preconditions" (some 0) with
  accessFlags := 33
  interfaces := #[]
  cf := some (fileOf pool13 24 #[.nestMembers #[55, 131, 125, 114]] #[{ accessFlags := 1, nameIndex := 5, descriptorIndex := 6, attributes := #[] }] 33 2 #[] #[{ accessFlags := 25, nameIndex := 123, descriptorIndex := 124, attributes := #[] }, { accessFlags := 25, nameIndex := 130, descriptorIndex := 124, attributes := #[] }, { accessFlags := 25, nameIndex := 136, descriptorIndex := 124, attributes := #[] }])
  fields := #[{ name := "SIOOBE_FORMATTER", type := (.object "java/util/function/BiFunction"), accessFlags := 25, slot := 0, constantValue := 0 }, { name := "AIOOBE_FORMATTER", type := (.object "java/util/function/BiFunction"), accessFlags := 25, slot := 1, constantValue := 0 }, { name := "IOOBE_FORMATTER", type := (.object "java/util/function/BiFunction"), accessFlags := 25, slot := 2, constantValue := 0 }]
  methods := #[k13m0]
  instanceTypes := #[]
  staticTypes := #[(.object "java/util/function/BiFunction"), (.object "java/util/function/BiFunction"), (.object "java/util/function/BiFunction")]
  resolved := Array.replicate 194 none
  statics := some 2 }

def pool14 : Array CpInfo := pool [(9, u "<init>"), (6, .class_ 18), (1, u "java/lang/Object"), (0, u "()V"), (1, .class_ 23), (1, u "jdk/internal/util/ArraysSupport"), (0, u "LOG2_ARRAY_LONG_INDEX_SCALE"), (0, u "I"), (2, u "U"), (0, u "Ljdk/internal/misc/Unsafe;"), (8, u "BIG_ENDIAN"), (0, u "Z"), (8, u "LOG2_BYTE_BIT_SIZE"), (4, u "LOG2_ARRAY_INT_INDEX_SCALE"), (54, u "JLA"), (0, u "Ljdk/internal/access/JavaLangAccess;"), (11, u "LOG2_ARRAY_BOOLEAN_INDEX_SCALE"), (9, u "LOG2_ARRAY_BYTE_INDEX_SCALE"), (5, u "LOG2_ARRAY_CHAR_INDEX_SCALE"), (5, u "LOG2_ARRAY_SHORT_INDEX_SCALE"), (18, u "LOG2_ARRAY_FLOAT_INDEX_SCALE"), (24, u "LOG2_ARRAY_DOUBLE_INDEX_SCALE"), (89, u "T_BOOLEAN"), (2, u "T_CHAR"), (1, u "T_FLOAT"), (1, u "T_DOUBLE"), (1, u "T_BYTE"), (1, u "T_SHORT"), (1, u "T_INT"), (1, u "T_LONG"), (1, u "SOFT_MAX_ARRAY_LENGTH")] 83

def k14m0 : Method := { name := "<init>", desc := "()V", sig := { parameters := [], returnType := none }, accessFlags := 2, code := none }
/-- jdk/internal/util/ArraysSupport -/
def k14 : Class := { plain "jdk/internal/util/ArraysSupport" (some 0) with
  accessFlags := 33
  interfaces := #[]
  cf := some (fileOf pool14 21 #[] #[{ accessFlags := 2, nameIndex := 9, descriptorIndex := 19, attributes := #[] }] 33 16 #[] #[{ accessFlags := 24, nameIndex := 28, descriptorIndex := 29, attributes := #[] }, { accessFlags := 26, nameIndex := 38, descriptorIndex := 39, attributes := #[] }, { accessFlags := 25, nameIndex := 121, descriptorIndex := 25, attributes := #[] }, { accessFlags := 25, nameIndex := 131, descriptorIndex := 25, attributes := #[] }, { accessFlags := 25, nameIndex := 137, descriptorIndex := 25, attributes := #[] }, { accessFlags := 25, nameIndex := 143, descriptorIndex := 25, attributes := #[] }, { accessFlags := 25, nameIndex := 53, descriptorIndex := 25, attributes := #[] }, { accessFlags := 25, nameIndex := 24, descriptorIndex := 25, attributes := #[] }, { accessFlags := 25, nameIndex := 162, descriptorIndex := 25, attributes := #[] }, { accessFlags := 25, nameIndex := 187, descriptorIndex := 25, attributes := #[] }, { accessFlags := 26, nameIndex := 48, descriptorIndex := 25, attributes := #[] }, { accessFlags := 25, nameIndex := 277, descriptorIndex := 25, attributes := #[] }, { accessFlags := 25, nameIndex := 280, descriptorIndex := 25, attributes := #[] }, { accessFlags := 25, nameIndex := 282, descriptorIndex := 25, attributes := #[] }, { accessFlags := 25, nameIndex := 284, descriptorIndex := 25, attributes := #[] }, { accessFlags := 25, nameIndex := 286, descriptorIndex := 25, attributes := #[] }, { accessFlags := 25, nameIndex := 288, descriptorIndex := 25, attributes := #[] }, { accessFlags := 25, nameIndex := 290, descriptorIndex := 25, attributes := #[] }, { accessFlags := 25, nameIndex := 292, descriptorIndex := 25, attributes := #[] }, { accessFlags := 26, nameIndex := 108, descriptorIndex := 109, attributes := #[] }, { accessFlags := 25, nameIndex := 294, descriptorIndex := 25, attributes := #[] }])
  fields := #[{ name := "U", type := (.object "jdk/internal/misc/Unsafe"), accessFlags := 24, slot := 0, constantValue := 0 }, { name := "BIG_ENDIAN", type := .boolean, accessFlags := 26, slot := 1, constantValue := 0 }, { name := "LOG2_ARRAY_BOOLEAN_INDEX_SCALE", type := .int, accessFlags := 25, slot := 2, constantValue := 0 }, { name := "LOG2_ARRAY_BYTE_INDEX_SCALE", type := .int, accessFlags := 25, slot := 3, constantValue := 0 }, { name := "LOG2_ARRAY_CHAR_INDEX_SCALE", type := .int, accessFlags := 25, slot := 4, constantValue := 0 }, { name := "LOG2_ARRAY_SHORT_INDEX_SCALE", type := .int, accessFlags := 25, slot := 5, constantValue := 0 }, { name := "LOG2_ARRAY_INT_INDEX_SCALE", type := .int, accessFlags := 25, slot := 6, constantValue := 0 }, { name := "LOG2_ARRAY_LONG_INDEX_SCALE", type := .int, accessFlags := 25, slot := 7, constantValue := 0 }, { name := "LOG2_ARRAY_FLOAT_INDEX_SCALE", type := .int, accessFlags := 25, slot := 8, constantValue := 0 }, { name := "LOG2_ARRAY_DOUBLE_INDEX_SCALE", type := .int, accessFlags := 25, slot := 9, constantValue := 0 }, { name := "LOG2_BYTE_BIT_SIZE", type := .int, accessFlags := 26, slot := 10, constantValue := 0 }, { name := "T_BOOLEAN", type := .int, accessFlags := 25, slot := 11, constantValue := 0 }, { name := "T_CHAR", type := .int, accessFlags := 25, slot := 12, constantValue := 0 }, { name := "T_FLOAT", type := .int, accessFlags := 25, slot := 13, constantValue := 0 }, { name := "T_DOUBLE", type := .int, accessFlags := 25, slot := 14, constantValue := 0 }, { name := "T_BYTE", type := .int, accessFlags := 25, slot := 15, constantValue := 0 }, { name := "T_SHORT", type := .int, accessFlags := 25, slot := 16, constantValue := 0 }, { name := "T_INT", type := .int, accessFlags := 25, slot := 17, constantValue := 0 }, { name := "T_LONG", type := .int, accessFlags := 25, slot := 18, constantValue := 0 }, { name := "JLA", type := (.object "jdk/internal/access/JavaLangAccess"), accessFlags := 26, slot := 19, constantValue := 0 }, { name := "SOFT_MAX_ARRAY_LENGTH", type := .int, accessFlags := 25, slot := 20, constantValue := 0 }]
  methods := #[k14m0]
  instanceTypes := #[]
  staticTypes := #[(.object "jdk/internal/misc/Unsafe"), .boolean, .int, .int, .int, .int, .int, .int, .int, .int, .int, .int, .int, .int, .int, .int, .int, .int, .int, (.object "jdk/internal/access/JavaLangAccess"), .int]
  resolved := Array.replicate 378 none
  statics := none }

/-- the primitive byte -/
def k15 : Class := { plain "byte" none with kind := .primitive 'B', accessFlags := 0x411 }
/-- [B -/
def k16 : Class := { plain "[B" (some 0) with kind := .array 15 .byte, interfaces := #[11, 4], accessFlags := 1041 }

/-- the primitive char -/
def k17 : Class := { plain "char" none with kind := .primitive 'C', accessFlags := 0x411 }
/-- [C -/
def k18 : Class := { plain "[C" (some 0) with kind := .array 17 .char, interfaces := #[11, 4], accessFlags := 1041 }

/-- the primitive int -/
def k19 : Class := { plain "int" none with kind := .primitive 'I', accessFlags := 0x411 }
/-- [I -/
def k20 : Class := { plain "[I" (some 0) with kind := .array 19 .int, interfaces := #[11, 4], accessFlags := 1041 }

/-- [Lcom/example/irrmirror/irrmirror/SyncOutcome; -/
def k21 : Class := { plain "[Lcom/example/irrmirror/irrmirror/SyncOutcome;" (some 0) with kind := .array 6 (.object "com/example/irrmirror/irrmirror/SyncOutcome"), interfaces := #[11, 4], accessFlags := 1041 }

def heap : Heap := #[{ cls := 6, slots := #[.ref 4, .ref 5, .ref 6, .ref 7, .ref 3], vm := .statics 6 },
  { cls := 9, slots := #[.long 0, .int 1, .null, .int 0, .null, .int 0, .int 0], vm := .statics 9 },
  { cls := 13, slots := #[.null, .null, .null], vm := .statics 13 },
  { cls := 21, slots := #[.ref 4, .ref 5, .ref 6, .ref 7], vm := .none },
  { cls := 6, slots := #[.null, .int 0, .int 0, .ref 8], vm := .none },
  { cls := 6, slots := #[.null, .int 0, .int 0, .ref 9], vm := .none },
  { cls := 6, slots := #[.null, .int 0, .int 0, .ref 10], vm := .none },
  { cls := 6, slots := #[.null, .int 0, .int 0, .ref 11], vm := .none },
  { cls := 9, slots := #[.ref 12, .int 0, .int 0, .int 0], vm := .none },
  { cls := 9, slots := #[.ref 13, .int 0, .int 0, .int 0], vm := .none },
  { cls := 9, slots := #[.ref 14, .int 0, .int 0, .int 0], vm := .none },
  { cls := 9, slots := #[.ref 15, .int 0, .int 0, .int 0], vm := .none },
  { cls := 16, slots := #[.int 99, .int 117, .int 114, .int 114, .int 101, .int 110, .int 116], vm := .none },
  { cls := 16, slots := #[.int 98, .int 101, .int 104, .int 105, .int 110, .int 100], vm := .none },
  { cls := 16, slots := #[.int 114, .int 101, .int 106, .int 101, .int 99, .int 116, .int 101, .int 100], vm := .none },
  { cls := 16, slots := #[.int 115, .int 116, .int 111, .int 112, .int 112, .int 101, .int 100], vm := .none }]
def classes : Array Class := #[k0, k1, k2, k3, k4, k5, k6, k7, k8, k9, k10, k11, k12, k13, k14, k15, k16, k17, k18, k19, k20, k21]
def interned : List (Array UInt16 × Addr) := []
def slotsUsed : Nat := 79
def theMethod : MethodId := ⟨1, 1⟩
def args0 : Array Value := #[.int 1]
def aboutOver (below : List Frame) : State where
  vm := { classes := classes, interned := interned.toArray }
  heap := heap
  slotsUsed := slotsUsed
  threads := #[{ frames := .invoking theMethod args0 :: below }]
def below0 : List Frame := [.native { method := ⟨0, 0⟩, args := #[] }]
def about1 : State := aboutOver below0
def p0 : Program := .bare "" "" ""
def e0 : Env := launch0.env 0 0 0
theorem w_frames : about1.frames = Frame.invoking theMethod args0 :: below0 := rfl
set_option maxRecDepth 65536 in
theorem w_args : argsFit about1.vm theMethod args0 = true := by decide +kernel
set_option maxRecDepth 65536 in
theorem w_heap : heapFits about1 = true := by decide +kernel
set_option maxRecDepth 65536 in
theorem w_runnable : about1.curStatus? = some .runnable := by decide +kernel
set_option maxRecDepth 65536 in
theorem w_alone : about1.alone = true := by decide +kernel
set_option maxRecDepth 65536 in
theorem w_named : about1.methodNamed? x = some theMethod := by decide +kernel
set_option maxRecDepth 65536 in
theorem w_hears : about1.hears theMethod below0 = true := by decide +kernel
set_option maxRecDepth 65536 in
theorem w_ripe : about1.ripe theMethod args0 below0 = true := by decide +kernel
theorem w_running : about1.status = .running := rfl
set_option maxRecDepth 65536 in
theorem w_room : about1.hasRoom e0.platform room_1 = true :=
  launch0.hasRoom_least _ room_1 (by decide +kernel) (by decide +kernel) (by decide +kernel) (by decide +kernel) (by decide +kernel) (by decide +kernel)
theorem allAtoms_all (ts : List Jvm.Cond) (a : Array Jvm.Value) (st : Jvm.State) : (allAtoms ts).before a st = ts.all (fun c => c.before a st) := by
  induction ts with
  | nil => rfl
  | cons c t ih =>
    show (Jvm.Cond.and c (allAtoms t)).before a st = _
    rw [Jvm.Cond.before_and, ih, List.all_cons]
def words1 : List Jvm.Cond := Jvm.Cond.code x code maxLocals ret :: tables_1
/-- a 'code' word, met by the world's own term for the bytes: nothing is compared byte by byte -/
theorem code_word {y : MethodName} {bytes : ByteArray} {mx : Nat} {rt : Option FieldType} {a : Array Value} {s : State} {m : MethodId} {meth : Method} {c : Code} (h1 : s.methodNamed? y = some m) (h2 : s.vm.method? m = some meth) (h3 : meth.code = some c) (h4 : c.code = bytes)
    (h5 : (c.maxLocals == mx && c.exceptionTable.isEmpty && decide (c.maxStack ≤ mostOperands) && decide (meth.sig.returnType = rt) && !meth.locks && decide (parseMethodDescriptor y.desc = some meth.sig)) = true) : (Jvm.Cond.code y bytes mx rt).before a s = true := by
  simp only [Bool.and_eq_true, beq_iff_eq, Bool.not_eq_true', decide_eq_true_eq] at h5
  obtain ⟨⟨⟨⟨⟨g1, g2⟩, g3⟩, g4⟩, g5⟩, g6⟩ := h5
  simp [Cond.before, Cond.holds, Cond.value, h1, h2, h3, h4, g1, g2, g3, g4, g5, g6]
def isCode : Jvm.Cond → Bool
  | .code _ _ _ _ => true
  | _ => false
theorem all_split {L : List Jvm.Cond} {P : Jvm.Cond → Bool} (h1 : L.all (fun c => isCode c || P c) = true) (h2 : ∀ c ∈ L.filter isCode, P c = true) : L.all P = true := by
  refine List.all_eq_true.mpr fun c hc => ?_
  have h := List.all_eq_true.mp h1 c hc
  rcases Bool.eq_false_or_eq_true (isCode c) with hi | hi
  · exact h2 c (List.mem_filter.mpr ⟨hc, hi⟩)
  · simpa [hi] using h
set_option maxRecDepth 65536 in
theorem w_c0 : (Jvm.Cond.code x code maxLocals ret).before args0 about1 = true := code_word (m := ⟨1, 1⟩) (meth := k1m1) (c := k1c1) (by decide +kernel) rfl rfl rfl (by decide +kernel)
set_option maxRecDepth 65536 in
theorem w_c1 : (Jvm.Cond.code ({ cls := "java/lang/String", name := "<init>", desc := "([C)V" } : Jvm.MethodName) jdk_42_method_3_code (2 : Nat) (Option.none : Option Jvm.ClassFile.FieldType)).before args0 about1 = true := code_word (m := ⟨9, 1⟩) (meth := k9m1) (c := k9c1) (by decide +kernel) rfl rfl rfl (by decide +kernel)
set_option maxRecDepth 65536 in
theorem w_c2 : (Jvm.Cond.code ({ cls := "java/lang/String", name := "<init>", desc := "([CIILjava/lang/Void;)V" } : Jvm.MethodName) jdk_42_method_149_code (6 : Nat) (Option.none : Option Jvm.ClassFile.FieldType)).before args0 about1 = true := code_word (m := ⟨9, 3⟩) (meth := k9m3) (c := k9c3) (by decide +kernel) rfl rfl rfl (by decide +kernel)
set_option maxRecDepth 65536 in
theorem w_c3 : (Jvm.Cond.code ({ cls := "java/lang/Object", name := "<init>", desc := "()V" } : Jvm.MethodName) object_method_1_code (1 : Nat) (Option.none : Option Jvm.ClassFile.FieldType)).before args0 about1 = true := code_word (m := ⟨0, 0⟩) (meth := k0m0) (c := k0c0) (by decide +kernel) rfl rfl rfl (by decide +kernel)
set_option maxRecDepth 65536 in
theorem w_c4 : (Jvm.Cond.code ({ cls := "java/lang/StringUTF16", name := "compress", desc := "([CII)[B" } : Jvm.MethodName) jdk_52_method_16_code (6 : Nat) (Option.some (Jvm.ClassFile.FieldType.array Jvm.ClassFile.FieldType.byte))).before args0 about1 = true := code_word (m := ⟨10, 2⟩) (meth := k10m2) (c := k10c2) (by decide +kernel) rfl rfl rfl (by decide +kernel)
set_option maxRecDepth 65536 in
theorem w_c5 : (Jvm.Cond.code ({ cls := "java/lang/StringUTF16", name := "compress", desc := "([CI[BII)I" } : Jvm.MethodName) jdk_52_method_21_code (7 : Nat) (Option.some Jvm.ClassFile.FieldType.int)).before args0 about1 = true := code_word (m := ⟨10, 3⟩) (meth := k10m3) (c := k10c3) (by decide +kernel) rfl rfl rfl (by decide +kernel)
set_option maxRecDepth 65536 in
theorem w_c6 : (Jvm.Cond.code ({ cls := "java/lang/StringUTF16", name := "coderFromArrayLen", desc := "([BI)B" } : Jvm.MethodName) jdk_52_method_15_code (2 : Nat) (Option.some Jvm.ClassFile.FieldType.byte)).before args0 about1 = true := code_word (m := ⟨10, 1⟩) (meth := k10m1) (c := k10c1) (by decide +kernel) rfl rfl rfl (by decide +kernel)
set_option maxRecDepth 65536 in
theorem w_c7 : (Jvm.Cond.code ({ cls := "com/example/irrmirror/irrmirror/SyncOutcome", name := "parse", desc := "(Ljava/lang/String;)Lcom/example/irrmirror/irrmirror/SyncOutcome;" } : Jvm.MethodName) prog_26_method_4_code (5 : Nat) (Option.some (Jvm.ClassFile.FieldType.object "com/example/irrmirror/irrmirror/SyncOutcome"))).before args0 about1 = true := code_word (m := ⟨6, 1⟩) (meth := k6m1) (c := k6c1) (by decide +kernel) rfl rfl rfl (by decide +kernel)
set_option maxRecDepth 65536 in
theorem w_c8 : (Jvm.Cond.code ({ cls := "com/example/irrmirror/irrmirror/SyncOutcome", name := "values", desc := "()[Lcom/example/irrmirror/irrmirror/SyncOutcome;" } : Jvm.MethodName) prog_26_method_1_code (0 : Nat) (Option.some (Jvm.ClassFile.FieldType.array (Jvm.ClassFile.FieldType.object "com/example/irrmirror/irrmirror/SyncOutcome")))).before args0 about1 = true := code_word (m := ⟨6, 0⟩) (meth := k6m0) (c := k6c0) (by decide +kernel) rfl rfl rfl (by decide +kernel)
set_option maxRecDepth 65536 in
theorem w_c9 : (Jvm.Cond.code ({ cls := "java/lang/String", name := "equals", desc := "(Ljava/lang/Object;)Z" } : Jvm.MethodName) jdk_42_method_66_code (3 : Nat) (Option.some Jvm.ClassFile.FieldType.boolean)).before args0 about1 = true := code_word (m := ⟨9, 2⟩) (meth := k9m2) (c := k9c2) (by decide +kernel) rfl rfl rfl (by decide +kernel)
set_option maxRecDepth 65536 in
theorem w_c10 : (Jvm.Cond.code ({ cls := "java/lang/StringLatin1", name := "equals", desc := "([B[B)Z" } : Jvm.MethodName) jdk_43_method_13_code (3 : Nat) (Option.some Jvm.ClassFile.FieldType.boolean)).before args0 about1 = true := code_word (m := ⟨12, 1⟩) (meth := k12m1) (c := k12c1) (by decide +kernel) rfl rfl rfl (by decide +kernel)
set_option maxRecDepth 65536 in
theorem w_c11 : (Jvm.Cond.code ({ cls := "com/example/irrmirror/irrmirror/SyncOutcome", name := "toString", desc := "()Ljava/lang/String;" } : Jvm.MethodName) prog_26_method_5_code (1 : Nat) (Option.some (Jvm.ClassFile.FieldType.object "java/lang/String"))).before args0 about1 = true := code_word (m := ⟨6, 2⟩) (meth := k6m2) (c := k6c2) (by decide +kernel) rfl rfl rfl (by decide +kernel)
def codes1 : List Jvm.Cond := [Jvm.Cond.code x code maxLocals ret, Jvm.Cond.code ({ cls := "java/lang/String", name := "<init>", desc := "([C)V" } : Jvm.MethodName) jdk_42_method_3_code (2 : Nat) (Option.none : Option Jvm.ClassFile.FieldType), Jvm.Cond.code ({ cls := "java/lang/String", name := "<init>", desc := "([CIILjava/lang/Void;)V" } : Jvm.MethodName) jdk_42_method_149_code (6 : Nat) (Option.none : Option Jvm.ClassFile.FieldType), Jvm.Cond.code ({ cls := "java/lang/Object", name := "<init>", desc := "()V" } : Jvm.MethodName) object_method_1_code (1 : Nat) (Option.none : Option Jvm.ClassFile.FieldType), Jvm.Cond.code ({ cls := "java/lang/StringUTF16", name := "compress", desc := "([CII)[B" } : Jvm.MethodName) jdk_52_method_16_code (6 : Nat) (Option.some (Jvm.ClassFile.FieldType.array Jvm.ClassFile.FieldType.byte)), Jvm.Cond.code ({ cls := "java/lang/StringUTF16", name := "compress", desc := "([CI[BII)I" } : Jvm.MethodName) jdk_52_method_21_code (7 : Nat) (Option.some Jvm.ClassFile.FieldType.int), Jvm.Cond.code ({ cls := "java/lang/StringUTF16", name := "coderFromArrayLen", desc := "([BI)B" } : Jvm.MethodName) jdk_52_method_15_code (2 : Nat) (Option.some Jvm.ClassFile.FieldType.byte), Jvm.Cond.code ({ cls := "com/example/irrmirror/irrmirror/SyncOutcome", name := "parse", desc := "(Ljava/lang/String;)Lcom/example/irrmirror/irrmirror/SyncOutcome;" } : Jvm.MethodName) prog_26_method_4_code (5 : Nat) (Option.some (Jvm.ClassFile.FieldType.object "com/example/irrmirror/irrmirror/SyncOutcome")), Jvm.Cond.code ({ cls := "com/example/irrmirror/irrmirror/SyncOutcome", name := "values", desc := "()[Lcom/example/irrmirror/irrmirror/SyncOutcome;" } : Jvm.MethodName) prog_26_method_1_code (0 : Nat) (Option.some (Jvm.ClassFile.FieldType.array (Jvm.ClassFile.FieldType.object "com/example/irrmirror/irrmirror/SyncOutcome"))), Jvm.Cond.code ({ cls := "java/lang/String", name := "equals", desc := "(Ljava/lang/Object;)Z" } : Jvm.MethodName) jdk_42_method_66_code (3 : Nat) (Option.some Jvm.ClassFile.FieldType.boolean), Jvm.Cond.code ({ cls := "java/lang/StringLatin1", name := "equals", desc := "([B[B)Z" } : Jvm.MethodName) jdk_43_method_13_code (3 : Nat) (Option.some Jvm.ClassFile.FieldType.boolean), Jvm.Cond.code ({ cls := "com/example/irrmirror/irrmirror/SyncOutcome", name := "toString", desc := "()Ljava/lang/String;" } : Jvm.MethodName) prog_26_method_5_code (1 : Nat) (Option.some (Jvm.ClassFile.FieldType.object "java/lang/String"))]
set_option maxRecDepth 65536 in
theorem codes_eq : words1.filter isCode = codes1 := rfl
theorem w_codes : ∀ c ∈ words1.filter isCode, c.before args0 about1 = true := by
  rw [codes_eq]
  intro c hc
  simp only [codes1, List.mem_cons, List.not_mem_nil, or_false] at hc
  rcases hc with rfl | rfl | rfl | rfl | rfl | rfl | rfl | rfl | rfl | rfl | rfl | rfl
  · exact w_c0
  · exact w_c1
  · exact w_c2
  · exact w_c3
  · exact w_c4
  · exact w_c5
  · exact w_c6
  · exact w_c7
  · exact w_c8
  · exact w_c9
  · exact w_c10
  · exact w_c11
set_option maxRecDepth 65536 in
theorem w_t1 : (words1.take 24).all (fun c => isCode c || c.before args0 about1) = true := by decide +kernel
set_option maxRecDepth 65536 in
theorem w_t2 : ((words1.drop 24).take 24).all (fun c => isCode c || c.before args0 about1) = true := by decide +kernel
set_option maxRecDepth 65536 in
theorem w_t3 : (((words1.drop 24).drop 24).take 24).all (fun c => isCode c || c.before args0 about1) = true := by decide +kernel
set_option maxRecDepth 65536 in
theorem w_t4 : (((words1.drop 24).drop 24).drop 24).all (fun c => isCode c || c.before args0 about1) = true := by decide +kernel
theorem w_tables : (allAtoms (Jvm.Cond.code x code maxLocals ret :: tables_1)).before args0 about1 = true := by
  rw [allAtoms_all]
  show words1.all (fun c => c.before args0 about1) = true
  refine all_split ?_ w_codes
  rw [← List.take_append_drop 24 words1, List.all_append, w_t1, ← List.take_append_drop 24 (words1.drop 24), List.all_append, w_t2, ← List.take_append_drop 24 ((words1.drop 24).drop 24), List.all_append, w_t3, w_t4]
  rfl
set_option maxRecDepth 65536 in
theorem w_rest : rest_1_c.before args0 about1 = true := by decide +kernel
set_option maxRecDepth 65536 in
theorem w_case : (Jvm.Cond.and given_1 narrow_1).before args0 about1 = true := by decide +kernel
theorem w_applies : (headSpec (Jvm.Cond.code x code maxLocals ret :: tables_1) room_1).applies x e0.platform about1 = true :=
  (Spec.applies_iff w_frames).mpr ⟨w_running, w_runnable, w_alone, w_named, w_hears, w_ripe, w_room, w_tables⟩
theorem atStart : AtStart classFile x code maxLocals ret World_1 tables_1 room_1 Calls_1 rest_1 Pre_1 launch0 p0 e0 about1 theMethod args0 below0 :=
  ⟨lists_1, trivial, launch0.admits_env _ _ _, launch0.least_env, fairChoices_fair.cas, fairChoices_fair.clock, w_frames, w_args, w_heap, w_applies, trivial, w_rest, w_case⟩
end start1
theorem witness_1 : WitnessClaimed_1 := ⟨start1.p0, start1.e0, start1.about1, start1.theMethod, start1.args0, start1.below0, start1.atStart⟩
end Jvm.Pilot.@@N@@
