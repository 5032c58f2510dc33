import JvmDerived
import JvmDerived.Pilot.@@N@@Statement
import JvmDerived.Pilot.@@N@@Code
set_option linter.unusedVariables false
set_option linter.unusedSimpArgs false
namespace Jvm.OwnK
open Jvm Sem ClassFile Op Lib Jvm.Stand Jvm.Free Jvm.LawKit Jvm.RoadKit Bundle
section Base
variable {p : Program} {l : Launch} {e : Env} {R : Room} {s : State} {m : MethodId} {args : Array Value} {below : List Frame} {meth : Method} {c : Code} {Z : State} {a0 : Array Value} {EL : List (String × Nat)} {nb : Bool} {own : String} {code : ByteArray} {ml : Nat} {ret : Option FieldType} {nm : String} {vm : Vm} {T : State} {locs : List Loc} {ce sl : Nat} {h : Heap} {Q : Option Value → Vm → Heap → Prop} {ck sk : Nat}
theorem lb {n m : Nat} (h : Nat.ble n m = true) : n ≤ m := Nat.le_of_ble_eq_true h
/-- where a walk stands: the method's own facts; the Stand over the start with the tables at hand; what the heap is; what is booked -/
def OW (p : Program) (l : Launch) (e : Env) (R : Room) (s : State) (m : MethodId) (args : Array Value) (below : List Frame) (meth : Method) (c : Code) (Z : State) (a0 : Array Value) (EL : List (String × Nat)) (nb : Bool) (own : String) (code : ByteArray) (ml : Nat) (ret : Option FieldType) (nm : String)
    (vm : Vm) (T : State) (locs : List Loc) (ce sl : Nat) (h : Heap) : Prop :=
  (p.tables.exec = Jvm.exec ∧ c.code = code ∧ c.maxLocals = ml ∧ meth.sig.returnType = ret ∧ meth.locks = false ∧ meth.name = nm) ∧
  Stand p l e R (s.setVm vm) m args below meth c T locs ce sl ∧ T.heap = h ∧ (∃ k0, s.Since vm k0 ∧ k0 ≤ h.size) ∧ Z.Warmed39 vm ∧ vm.findClass own = some m.cls ∧
  CHr Z EL s.vm s.heap vm h ∧ Fr Z.heap.size locs ∧ Ext Z.heap h ∧ (nb = true → s.WarmedH vm) ∧ EW Z a0 EL
/-- the body comes to its end from here -/
def OG (p : Program) (e : Env) (below : List Frame) (s : State) (Z : State) (EL : List (String × Nat)) (nb : Bool) (Q : Option Value → Vm → Heap → Prop) (ck sk : Nat) (T : State) (g : JFrame) : Prop :=
  ∃ s₂ o, Steps p.tables e below (T.setTop g) s₂ ∧ s₂.status = .running ∧ Ended s₂ below o ∧ ∃ v L, o = .returned v ∧ (Q v s₂.vm s₂.heap ∧ Fr Z.heap.size L ∧ Ext Z.heap s₂.heap) ∧ (nb = true → s.WarmedH s₂.vm) ∧ CHr Z EL s.vm s.heap s₂.vm s₂.heap ∧ ReturnedEndW s o s₂ L ck sk
/-- a method's contract -/
def OC (l : Launch) (Z : State) (EL : List (String × Nat)) (nb : Bool) (ws : List Jvm.Cond) (y : MethodName) (bytes : ByteArray) (ml : Nat) (ret : Option FieldType) (rm : Room) (as' : Array Value) (h : Heap) (sf : List Addr) (Q : Option Value → Vm → Heap → Prop) : Prop :=
  MetFree l y (head1 (Jvm.Cond.code y bytes ml ret :: ws) rm) (fun a U => a = as' ∧ Z.Warmed39 U.vm ∧ U.heap = h ∧ CHv Z EL U.vm h ∧ Ext Z.heap h ∧ ∀ x ∈ sf, Safe Z EL U.vm h x) (fun _ _ _ _ _ => True)
    (fun _ U o U' => ∃ v L, o = .returned v ∧ (Q v U'.vm U'.heap ∧ Fr Z.heap.size L ∧ Ext Z.heap U'.heap) ∧ (nb = true → U.WarmedH U'.vm) ∧ CHr Z EL U.vm U.heap U'.vm U'.heap ∧ ReturnedEndW U o U' L rm.cells rm.slots)
/-- one step of the walk -/
abbrev Lt (p : Program) (e : Env) (below : List Frame) (T : State) (g : JFrame) (T' : State) (g' : JFrame) : Prop := ∀ t, Steps p.tables e below (T'.setTop g') t → Steps p.tables e below (T.setTop g) t
theorem oLift {g g' : JFrame} {T' : State} (st : Lt p e below T g T' g') (k : OG p e below s Z EL nb Q ck sk T' g') : OG p e below s Z EL nb Q ck sk T g := by
  obtain ⟨s₂, o, h1, r⟩ := k
  exact ⟨s₂, o, st _ h1, r⟩
theorem oEq {g g' : JFrame} (q : g = g') (k : OG p e below s Z EL nb Q ck sk T g') : OG p e below s Z EL nb Q ck sk T g := q ▸ k
theorem oEnter {ws : List Jvm.Cond} {y : MethodName} {bytes : ByteArray} {rm : Room} {as' : Array Value} {sf : List Addr} (hp : plainFor y = true) (hEW : EW Z a0 EL)
    (body : ∀ (p : Program) (e : Env) (s : State) (m : MethodId) (below : List Frame) (meth : Method) (c : Code) (T : State), OW p l e rm s m as' below meth c Z a0 EL nb y.cls bytes ml ret y.name s.vm T [] 0 0 h → (∀ x ∈ sf, Safe Z EL s.vm h x) → OG p e below s Z EL nb Q rm.cells rm.slots T (entryFrame m as' ml)) :
    OC l Z EL nb ws y bytes ml ret rm as' h sf Q := by
  refine MetFree.of_bodySF hp hisR ?_
  intro p e s m args below meth c s₁ Bd hml hP hK
  obtain ⟨rfl, hZ, hh, hC, hE, hSf⟩ := hP
  have X0 : Stand p l e rm s m _ below meth c s₁ [] 0 0 := Stand.of_body Bd
  have e0 : s₁.heap = h := by rw [← hh, Bd.state]; rfl
  obtain ⟨s₂, o, h1, h2, h3, v, L, h4, h5, h6, h7, h8⟩ := body p e s m below meth c s₁
    ⟨⟨Bd.exec, Bd.bytes, hml, Bd.returns, BodyLoose.notSynchronized Bd, (name_of_methodNamed Bd.named Bd.method).1⟩, X0, e0, ⟨0, (State.WarmedH.refl s).since _, Nat.zero_le _⟩, hZ, findClass_of_methodNamed Bd.named, by subst hh; exact CHr.refl hC, Fr.nil _, hE, fun _ => State.WarmedH.refl s, hEW⟩ hSf
  exact ⟨s₂, o, h1, h2, h3, v, L, h4, h5, h6, h7, h8⟩
/-! ### the plain steps, by evaluation -/
def oIl : Instr → Nat
  | .bipush _ => 2 | .sipush _ => 3 | .aload _ => 2 | .iload _ => 2 | .istore _ => 2 | .astore _ => 2 | .iinc _ _ => 3 | .goto _ => 3 | _ => 1
def oNx (pc : Nat) : Instr → Nat
  | .goto o => ((pc : Int) + o).toNat
  | i => pc + oIl i
def oOkG (pc : Nat) : Instr → Bool
  | .goto o => decide (0 ≤ (pc : Int) + o)
  | _ => true
def oSeg (code : ByteArray) : Nat → List Instr → Bool
  | _, [] => true
  | pc, i :: is => decide (decode code pc = .ok (i, oIl i)) && (oOkG pc i && oSeg code (oNx pc i) is)
def oOne : Slot → Bool
  | .unset => true
  | .val w => decide (w.category = 1)
  | .second => false
theorem oOne_ok {o : Slot} (h : oOne o = true) : o = .unset ∨ ∃ w, o = .val w ∧ w.category = 1 := by
  cases o with
  | unset => exact Or.inl rfl
  | second => cases h
  | val w => exact Or.inr ⟨w, rfl, of_decide_eq_true h⟩
theorem oCat {v : Value} (h : v.isRef = true) : v.category = 1 := by cases v <;> simp_all [Value.isRef, Value.category]
def oS1 (i : Instr) (ls : Array Slot) (st : List Value) : Option (Array Slot × List Value × Bool) :=
  match i with
  | .aload_n k => match ls[k.val]? with | some (.val v) => some (ls, v :: st, v.isRef) | _ => none
  | .aload k => match ls[k]? with | some (.val v) => some (ls, v :: st, v.isRef) | _ => none
  | .iload_n k => match ls[k.val]? with | some (.val (.int x)) => some (ls, .int x :: st, true) | _ => none
  | .iload k => match ls[k]? with | some (.val (.int x)) => some (ls, .int x :: st, true) | _ => none
  | .iconst i => some (ls, .int (Int32.ofInt i) :: st, true)
  | .bipush i => some (ls, .int (Int8.ofInt i).toInt32 :: st, true)
  | .sipush i => some (ls, .int (Int16.ofInt i).toInt32 :: st, true)
  | .aconst_null => some (ls, .null :: st, true)
  | .goto _ => some (ls, st, true)
  | .istore_n k => match st with | .int x :: rest => (match storeLocals ls k.val (.int x) with | some l' => some (l', rest, true) | none => none) | _ => none
  | .istore k => match st with | .int x :: rest => (match storeLocals ls k (.int x) with | some l' => some (l', rest, true) | none => none) | _ => none
  | .astore_n k => match st with | x :: rest => (match ls[k.val]? with | some o => some (ls.setIfInBounds k.val (.val x), rest, x.isRef && oOne o) | none => none) | _ => none
  | .astore k => match st with | x :: rest => (match ls[k]? with | some o => some (ls.setIfInBounds k (.val x), rest, x.isRef && oOne o) | none => none) | _ => none
  | .iinc k cst => match ls[k]? with | some (.val (.int x)) => (match storeLocals ls k (.int (x + Int32.ofInt cst)) with | some l' => some (l', st, true) | none => none) | _ => none
  | .dup => match st with | x :: rest => some (ls, x :: x :: rest, decide (x.category = 1)) | _ => none
  | .pop => match st with | x :: rest => some (ls, rest, decide (x.category = 1)) | _ => none
  | .dup_x1 => match st with | x :: y :: rest => some (ls, x :: y :: x :: rest, decide (x.category = 1) && decide (y.category = 1)) | _ => none
  | .dup2 => match st with | x :: y :: rest => some (ls, x :: y :: x :: y :: rest, decide (x.category = 1) && decide (y.category = 1)) | _ => none
  | .iadd => match st with | .int y :: .int x :: rest => some (ls, .int (x + y) :: rest, true) | _ => none
  | .isub => match st with | .int y :: .int x :: rest => some (ls, .int (x - y) :: rest, true) | _ => none
  | .imul => match st with | .int y :: .int x :: rest => some (ls, .int (x * y) :: rest, true) | _ => none
  | .idiv => match st with | .int y :: .int x :: rest => some (ls, .int (x / y) :: rest, decide (y ≠ 0)) | _ => none
  | .irem => match st with | .int y :: .int x :: rest => some (ls, .int (x % y) :: rest, decide (y ≠ 0)) | _ => none
  | .iand => match st with | .int y :: .int x :: rest => some (ls, .int (x &&& y) :: rest, true) | _ => none
  | .ior => match st with | .int y :: .int x :: rest => some (ls, .int (x ||| y) :: rest, true) | _ => none
  | .ixor => match st with | .int y :: .int x :: rest => some (ls, .int (x ^^^ y) :: rest, true) | _ => none
  | .ishl => match st with | .int y :: .int x :: rest => some (ls, .int (x <<< (y &&& 31)) :: rest, true) | _ => none
  | .ishr => match st with | .int y :: .int x :: rest => some (ls, .int (x >>> (y &&& 31)) :: rest, true) | _ => none
  | .iushr => match st with | .int y :: .int x :: rest => some (ls, .int (XT.ushr x y) :: rest, true) | _ => none
  | .ineg => match st with | .int x :: rest => some (ls, .int (-x) :: rest, true) | _ => none
  | .i2b => match st with | .int x :: rest => some (ls, .int (x.toInt8.toInt32) :: rest, true) | _ => none
  | .i2c => match st with | .int x :: rest => some (ls, .int (x.toUInt32.toUInt16.toUInt32.toInt32) :: rest, true) | _ => none
  | .i2s => match st with | .int x :: rest => some (ls, .int (x.toInt16.toInt32) :: rest, true) | _ => none
  | _ => none
def oRun : List Instr → Array Slot → List Value → Option (Array Slot × List Value × Bool)
  | [], ls, st => some (ls, st, true)
  | i :: is, ls, st => match oS1 i ls st with
    | some (ls1, st1, b1) => (match oRun is ls1 st1 with | some (ls2, st2, b2) => some (ls2, st2, b1 && b2) | none => none)
    | none => none
def oNxs : Nat → List Instr → Nat
  | pc, [] => pc
  | pc, i :: is => oNxs (oNx pc i) is
theorem oS1_ok (H : At T m c below) (hx : p.tables.exec = Jvm.exec) {i : Instr} {pc : Nat} {ls ls' : Array Slot} {st st' : List Value} {b : Bool} {t : State} (hd : decode c.code pc = .ok (i, oIl i)) (hg : oOkG pc i = true) (hs : oS1 i ls st = some (ls', st', b)) (hb : b = true)
    (hr : Steps p.tables e below (T.setTop (mkF m (oNx pc i) ls' st')) t) : Steps p.tables e below (T.setTop (mkF m pc ls st)) t := by
  subst hb
  cases i
  case aload_n k =>
    simp only [oS1] at hs
    split at hs
    · rename_i v hv
      simp only [Option.some.injEq, Prod.mk.injEq] at hs
      obtain ⟨rfl, rfl, h3⟩ := hs
      exact XS.aloadN (g := mkF m pc ls _) H hx rfl hd hv h3 hr
    · cases hs
  case aload k =>
    simp only [oS1] at hs
    split at hs
    · rename_i v hv
      simp only [Option.some.injEq, Prod.mk.injEq] at hs
      obtain ⟨rfl, rfl, h3⟩ := hs
      exact XS.aload (g := mkF m pc ls _) H hx rfl hd hv h3 hr
    · cases hs
  case iload_n k =>
    simp only [oS1] at hs
    split at hs
    · rename_i x hv
      simp only [Option.some.injEq, Prod.mk.injEq] at hs
      obtain ⟨rfl, rfl, -⟩ := hs
      exact XS.iloadN (g := mkF m pc ls _) H hx rfl hd hv hr
    · cases hs
  case iload k =>
    simp only [oS1] at hs
    split at hs
    · rename_i x hv
      simp only [Option.some.injEq, Prod.mk.injEq] at hs
      obtain ⟨rfl, rfl, -⟩ := hs
      exact XS.iload (g := mkF m pc ls _) H hx rfl hd hv hr
    · cases hs
  case iconst z =>
    simp only [oS1, Option.some.injEq, Prod.mk.injEq] at hs
    obtain ⟨rfl, rfl, -⟩ := hs
    exact XS.iconst (g := mkF m pc ls _) H hx rfl hd hr
  case bipush z =>
    simp only [oS1, Option.some.injEq, Prod.mk.injEq] at hs
    obtain ⟨rfl, rfl, -⟩ := hs
    exact XS.bipush (g := mkF m pc ls _) H hx rfl hd hr
  case sipush z =>
    simp only [oS1, Option.some.injEq, Prod.mk.injEq] at hs
    obtain ⟨rfl, rfl, -⟩ := hs
    exact XS.sipush (g := mkF m pc ls _) H hx rfl hd hr
  case aconst_null =>
    simp only [oS1, Option.some.injEq, Prod.mk.injEq] at hs
    obtain ⟨rfl, rfl, -⟩ := hs
    exact XS.aconstNull (g := mkF m pc ls _) H hx rfl hd hr
  case goto o =>
    simp only [oS1, Option.some.injEq, Prod.mk.injEq] at hs
    obtain ⟨rfl, rfl, -⟩ := hs
    exact XS.goto (g := mkF m pc ls _) H hx rfl (pc0 := pc) rfl hd (of_decide_eq_true hg) rfl hr
  case astore_n k =>
    simp only [oS1] at hs
    split at hs
    · split at hs
      · rename_i o ho
        simp only [Option.some.injEq, Prod.mk.injEq] at hs
        obtain ⟨rfl, rfl, h3⟩ := hs
        rw [Bool.and_eq_true] at h3
        exact XS.astoreN (g := mkF m pc ls _) H hx rfl hd rfl h3.1 (XS.store1 ho (oOne_ok h3.2) (oCat h3.1)) hr
      · cases hs
    · cases hs
  case astore k =>
    simp only [oS1] at hs
    split at hs
    · split at hs
      · rename_i o ho
        simp only [Option.some.injEq, Prod.mk.injEq] at hs
        obtain ⟨rfl, rfl, h3⟩ := hs
        rw [Bool.and_eq_true] at h3
        exact XS.astore (g := mkF m pc ls _) H hx rfl hd rfl h3.1 (XS.store1 ho (oOne_ok h3.2) (oCat h3.1)) hr
      · cases hs
    · cases hs
  case istore_n k =>
    simp only [oS1] at hs
    split at hs
    · split at hs
      · rename_i l2 hl
        simp only [Option.some.injEq, Prod.mk.injEq] at hs
        obtain ⟨rfl, rfl, h3⟩ := hs
        exact XS.istoreN (g := mkF m pc ls _) H hx rfl hd rfl hl hr
      · cases hs
    · cases hs
  case istore k =>
    simp only [oS1] at hs
    split at hs
    · split at hs
      · rename_i l2 hl
        simp only [Option.some.injEq, Prod.mk.injEq] at hs
        obtain ⟨rfl, rfl, h3⟩ := hs
        exact XS.istore (g := mkF m pc ls _) H hx rfl hd rfl hl hr
      · cases hs
    · cases hs
  case iinc k z =>
    simp only [oS1] at hs
    split at hs
    · rename_i x hv
      split at hs
      · rename_i l2 hl
        simp only [Option.some.injEq, Prod.mk.injEq] at hs
        obtain ⟨rfl, rfl, -⟩ := hs
        exact XS.iinc (g := mkF m pc ls _) H hx rfl hd hv hl hr
      · cases hs
    · cases hs
  case dup =>
    simp only [oS1] at hs
    split at hs
    · simp only [Option.some.injEq, Prod.mk.injEq] at hs
      obtain ⟨rfl, rfl, h3⟩ := hs
      exact XS.dup (g := mkF m pc ls _) H hx rfl hd rfl (of_decide_eq_true h3) hr
    · cases hs
  case pop =>
    simp only [oS1] at hs
    split at hs
    · simp only [Option.some.injEq, Prod.mk.injEq] at hs
      obtain ⟨rfl, rfl, h3⟩ := hs
      exact XT.pop (g := mkF m pc ls _) H hx rfl hd rfl (of_decide_eq_true h3) hr
    · cases hs
  case dup_x1 =>
    simp only [oS1] at hs
    split at hs
    · simp only [Option.some.injEq, Prod.mk.injEq] at hs
      obtain ⟨rfl, rfl, h3⟩ := hs
      rw [Bool.and_eq_true] at h3
      exact XT.dupX1 (g := mkF m pc ls _) H hx rfl hd rfl (of_decide_eq_true h3.1) (of_decide_eq_true h3.2) hr
    · cases hs
  case dup2 =>
    simp only [oS1] at hs
    split at hs
    · simp only [Option.some.injEq, Prod.mk.injEq] at hs
      obtain ⟨rfl, rfl, h3⟩ := hs
      rw [Bool.and_eq_true] at h3
      exact XT.dup2 (g := mkF m pc ls _) H hx rfl hd rfl (of_decide_eq_true h3.1) (of_decide_eq_true h3.2) hr
    · cases hs
  case iadd =>
    simp only [oS1] at hs
    split at hs
    · simp only [Option.some.injEq, Prod.mk.injEq] at hs
      obtain ⟨rfl, rfl, -⟩ := hs
      exact XS.iadd (g := mkF m pc ls _) H hx rfl hd rfl hr
    · cases hs
  case isub =>
    simp only [oS1] at hs
    split at hs
    · simp only [Option.some.injEq, Prod.mk.injEq] at hs
      obtain ⟨rfl, rfl, -⟩ := hs
      exact XS.isub (g := mkF m pc ls _) H hx rfl hd rfl hr
    · cases hs
  case imul =>
    simp only [oS1] at hs
    split at hs
    · simp only [Option.some.injEq, Prod.mk.injEq] at hs
      obtain ⟨rfl, rfl, -⟩ := hs
      exact XS.imul (g := mkF m pc ls _) H hx rfl hd rfl hr
    · cases hs
  case iand =>
    simp only [oS1] at hs
    split at hs
    · simp only [Option.some.injEq, Prod.mk.injEq] at hs
      obtain ⟨rfl, rfl, -⟩ := hs
      exact XS.iand (g := mkF m pc ls _) H hx rfl hd rfl hr
    · cases hs
  case ior =>
    simp only [oS1] at hs
    split at hs
    · simp only [Option.some.injEq, Prod.mk.injEq] at hs
      obtain ⟨rfl, rfl, -⟩ := hs
      exact XT.ior (g := mkF m pc ls _) H hx rfl hd rfl hr
    · cases hs
  case ixor =>
    simp only [oS1] at hs
    split at hs
    · simp only [Option.some.injEq, Prod.mk.injEq] at hs
      obtain ⟨rfl, rfl, -⟩ := hs
      exact XT.ixor (g := mkF m pc ls _) H hx rfl hd rfl hr
    · cases hs
  case ishl =>
    simp only [oS1] at hs
    split at hs
    · simp only [Option.some.injEq, Prod.mk.injEq] at hs
      obtain ⟨rfl, rfl, -⟩ := hs
      exact XT.ishl (g := mkF m pc ls _) H hx rfl hd rfl hr
    · cases hs
  case ishr =>
    simp only [oS1] at hs
    split at hs
    · simp only [Option.some.injEq, Prod.mk.injEq] at hs
      obtain ⟨rfl, rfl, -⟩ := hs
      exact XT.ishr (g := mkF m pc ls _) H hx rfl hd rfl hr
    · cases hs
  case iushr =>
    simp only [oS1] at hs
    split at hs
    · simp only [Option.some.injEq, Prod.mk.injEq] at hs
      obtain ⟨rfl, rfl, -⟩ := hs
      exact XT.iushr (g := mkF m pc ls _) H hx rfl hd rfl hr
    · cases hs
  case ineg =>
    simp only [oS1] at hs
    split at hs
    · simp only [Option.some.injEq, Prod.mk.injEq] at hs
      obtain ⟨rfl, rfl, -⟩ := hs
      exact XS.ineg (g := mkF m pc ls _) H hx rfl hd rfl hr
    · cases hs
  case i2b =>
    simp only [oS1] at hs
    split at hs
    · simp only [Option.some.injEq, Prod.mk.injEq] at hs
      obtain ⟨rfl, rfl, -⟩ := hs
      exact XT.i2b (g := mkF m pc ls _) H hx rfl hd rfl hr
    · cases hs
  case i2c =>
    simp only [oS1] at hs
    split at hs
    · simp only [Option.some.injEq, Prod.mk.injEq] at hs
      obtain ⟨rfl, rfl, -⟩ := hs
      exact XT.i2c (g := mkF m pc ls _) H hx rfl hd rfl hr
    · cases hs
  case i2s =>
    simp only [oS1] at hs
    split at hs
    · simp only [Option.some.injEq, Prod.mk.injEq] at hs
      obtain ⟨rfl, rfl, -⟩ := hs
      exact XT.i2s (g := mkF m pc ls _) H hx rfl hd rfl hr
    · cases hs
  case idiv =>
    simp only [oS1] at hs
    split at hs
    · simp only [Option.some.injEq, Prod.mk.injEq] at hs
      obtain ⟨rfl, rfl, h3⟩ := hs
      exact XS.idiv (g := mkF m pc ls _) H hx rfl hd rfl (of_decide_eq_true h3) hr
    · cases hs
  case irem =>
    simp only [oS1] at hs
    split at hs
    · rename_i y x rest
      simp only [Option.some.injEq, Prod.mk.injEq] at hs
      obtain ⟨rfl, rfl, h3⟩ := hs
      refine XS.irem (g := mkF m pc ls _) H hx rfl hd rfl (of_decide_eq_true h3) ?_
      rw [irem_eq_mod x y]
      exact hr
    · cases hs
  all_goals (simp [oS1] at hs)
theorem oGo (W : OW p l e R s m args below meth c Z a0 EL nb own code ml ret nm vm T locs ce sl h) : ∀ (is : List Instr) {pc : Nat} {ls ls' : Array Slot} {st st' : List Value} {b : Bool}, oSeg code pc is = true → oRun is ls st = some (ls', st', b) → b = true → ∀ {pc' : Nat}, oNxs pc is = pc' → OG p e below s Z EL nb Q ck sk T (mkF m pc' ls' st') → OG p e below s Z EL nb Q ck sk T (mkF m pc ls st)
  | [], pc, ls, ls', st, st', b, _, hr, _, pc', hp, k => by
    simp only [oRun, Option.some.injEq, Prod.mk.injEq] at hr
    obtain ⟨rfl, rfl, -⟩ := hr
    subst hp
    exact k
  | i :: is, pc, ls, ls', st, st', b, hg, hr, hb, pc', hp, k => by
    simp only [oRun] at hr
    split at hr
    · rename_i ls1 st1 b1 h1
      split at hr
      · rename_i ls2 st2 b2 h2
        simp only [Option.some.injEq, Prod.mk.injEq] at hr
        obtain ⟨rfl, rfl, rfl⟩ := hr
        rw [Bool.and_eq_true] at hb
        simp only [oSeg, Bool.and_eq_true] at hg
        have hd : decode c.code pc = .ok (i, oIl i) := by rw [W.1.2.1]; exact of_decide_eq_true hg.1
        exact oLift (fun t q => oS1_ok W.2.1.here W.1.1 hd hg.2.1 h1 hb.1 q) (oGo W is hg.2.2 h2 hb.2 hp k)
      · cases hr
    · cases hr
theorem oDec (W : OW p l e R s m args below meth c Z a0 EL nb own code ml ret nm vm T locs ce sl h) {pc : Nat} {r : Except DecodeError (Instr × Nat)} (hd : decode code pc = r) : decode c.code pc = r := by rw [W.1.2.1]; exact hd
/-! ### branches -/
theorem oIfT (W : OW p l e R s m args below meth c Z a0 EL nb own code ml ret nm vm T locs ce sl h) {cd : ClassFile.Cond} {o : Int} {x : Int32} {pc : Nat} {ls : Array Slot} {st : List Value} (hd : decode code pc = .ok (.ifCond cd o, 3)) (hc : ifCond.holds cd x = true) {pc' : Nat} (ho : 0 ≤ (pc : Int) + o) (hp : ((pc : Int) + o).toNat = pc') (k : OG p e below s Z EL nb Q ck sk T (mkF m pc' ls st)) : OG p e below s Z EL nb Q ck sk T (mkF m pc ls (.int x :: st)) :=
  oLift (fun t q => XS.ifYes (g := mkF m pc ls (.int x :: st)) W.2.1.here W.1.1 rfl (pc0 := pc) rfl (oDec W hd) rfl hc ho hp q) k
theorem oIfF (W : OW p l e R s m args below meth c Z a0 EL nb own code ml ret nm vm T locs ce sl h) {cd : ClassFile.Cond} {o : Int} {x : Int32} {pc : Nat} {ls : Array Slot} {st : List Value} (hd : decode code pc = .ok (.ifCond cd o, 3)) (hc : ifCond.holds cd x = false) {pc' : Nat} (hp : pc + 3 = pc') (k : OG p e below s Z EL nb Q ck sk T (mkF m pc' ls st)) : OG p e below s Z EL nb Q ck sk T (mkF m pc ls (.int x :: st)) := by
  subst hp
  exact oLift (fun t q => XS.ifNo (g := mkF m pc ls (.int x :: st)) W.2.1.here W.1.1 rfl (oDec W hd) rfl hc q) k
theorem oIcT (W : OW p l e R s m args below meth c Z a0 EL nb own code ml ret nm vm T locs ce sl h) {cd : ClassFile.Cond} {o : Int} {x y : Int32} {pc : Nat} {ls : Array Slot} {st : List Value} (hd : decode code pc = .ok (.if_icmp cd o, 3)) (hc : if_icmp.holds cd x y = true) {pc' : Nat} (ho : 0 ≤ (pc : Int) + o) (hp : ((pc : Int) + o).toNat = pc') (k : OG p e below s Z EL nb Q ck sk T (mkF m pc' ls st)) : OG p e below s Z EL nb Q ck sk T (mkF m pc ls (.int y :: .int x :: st)) :=
  oLift (fun t q => XS.icmpYes (g := mkF m pc ls (.int y :: .int x :: st)) W.2.1.here W.1.1 rfl (pc0 := pc) rfl (oDec W hd) rfl hc ho hp q) k
theorem oIcF (W : OW p l e R s m args below meth c Z a0 EL nb own code ml ret nm vm T locs ce sl h) {cd : ClassFile.Cond} {o : Int} {x y : Int32} {pc : Nat} {ls : Array Slot} {st : List Value} (hd : decode code pc = .ok (.if_icmp cd o, 3)) (hc : if_icmp.holds cd x y = false) {pc' : Nat} (hp : pc + 3 = pc') (k : OG p e below s Z EL nb Q ck sk T (mkF m pc' ls st)) : OG p e below s Z EL nb Q ck sk T (mkF m pc ls (.int y :: .int x :: st)) := by
  subst hp
  exact oLift (fun t q => XS.icmpNo (g := mkF m pc ls (.int y :: .int x :: st)) W.2.1.here W.1.1 rfl (oDec W hd) rfl hc q) k
theorem oNuT (W : OW p l e R s m args below meth c Z a0 EL nb own code ml ret nm vm T locs ce sl h) {o : Int} {pc : Nat} {ls : Array Slot} {st : List Value} (hd : decode code pc = .ok (.ifnull o, 3)) {pc' : Nat} (ho : 0 ≤ (pc : Int) + o) (hp : ((pc : Int) + o).toNat = pc') (k : OG p e below s Z EL nb Q ck sk T (mkF m pc' ls st)) : OG p e below s Z EL nb Q ck sk T (mkF m pc ls (.null :: st)) :=
  oLift (fun t q => XS.ifnullYes (g := mkF m pc ls (.null :: st)) W.2.1.here W.1.1 rfl (pc0 := pc) rfl (oDec W hd) rfl ho hp q) k
theorem oNuF (W : OW p l e R s m args below meth c Z a0 EL nb own code ml ret nm vm T locs ce sl h) {o : Int} {a : Addr} {pc : Nat} {ls : Array Slot} {st : List Value} (hd : decode code pc = .ok (.ifnull o, 3)) {pc' : Nat} (hp : pc + 3 = pc') (k : OG p e below s Z EL nb Q ck sk T (mkF m pc' ls st)) : OG p e below s Z EL nb Q ck sk T (mkF m pc ls (.ref a :: st)) := by
  subst hp
  exact oLift (fun t q => XS.ifnullNo (g := mkF m pc ls (.ref a :: st)) W.2.1.here W.1.1 rfl (oDec W hd) rfl q) k
theorem oNnT (W : OW p l e R s m args below meth c Z a0 EL nb own code ml ret nm vm T locs ce sl h) {o : Int} {a : Addr} {pc : Nat} {ls : Array Slot} {st : List Value} (hd : decode code pc = .ok (.ifnonnull o, 3)) {pc' : Nat} (ho : 0 ≤ (pc : Int) + o) (hp : ((pc : Int) + o).toNat = pc') (k : OG p e below s Z EL nb Q ck sk T (mkF m pc' ls st)) : OG p e below s Z EL nb Q ck sk T (mkF m pc ls (.ref a :: st)) :=
  oLift (fun t q => XT.ifnonnullYes (g := mkF m pc ls (.ref a :: st)) W.2.1.here W.1.1 rfl (pc0 := pc) rfl (oDec W hd) rfl ho hp q) k
theorem oNnF (W : OW p l e R s m args below meth c Z a0 EL nb own code ml ret nm vm T locs ce sl h) {o : Int} {pc : Nat} {ls : Array Slot} {st : List Value} (hd : decode code pc = .ok (.ifnonnull o, 3)) {pc' : Nat} (hp : pc + 3 = pc') (k : OG p e below s Z EL nb Q ck sk T (mkF m pc' ls st)) : OG p e below s Z EL nb Q ck sk T (mkF m pc ls (.null :: st)) := by
  subst hp
  exact oLift (fun t q => XT.ifnonnullNo (g := mkF m pc ls (.null :: st)) W.2.1.here W.1.1 rfl (oDec W hd) rfl q) k
theorem oAcT (W : OW p l e R s m args below meth c Z a0 EL nb own code ml ret nm vm T locs ce sl h) {cd : ACond} {o : Int} {x y : Value} {pc : Nat} {ls : Array Slot} {st : List Value} (hd : decode code pc = .ok (.if_acmp cd o, 3)) (h1 : x.isRef = true) (h2 : y.isRef = true) (hc : XT.acmp cd x y = true) {pc' : Nat} (ho : 0 ≤ (pc : Int) + o) (hp : ((pc : Int) + o).toNat = pc') (k : OG p e below s Z EL nb Q ck sk T (mkF m pc' ls st)) : OG p e below s Z EL nb Q ck sk T (mkF m pc ls (y :: x :: st)) :=
  oLift (fun t q => XT.acmpYes (g := mkF m pc ls (y :: x :: st)) W.2.1.here W.1.1 rfl (pc0 := pc) rfl (oDec W hd) rfl h1 h2 hc ho hp q) k
theorem oAcF (W : OW p l e R s m args below meth c Z a0 EL nb own code ml ret nm vm T locs ce sl h) {cd : ACond} {o : Int} {x y : Value} {pc : Nat} {ls : Array Slot} {st : List Value} (hd : decode code pc = .ok (.if_acmp cd o, 3)) (h1 : x.isRef = true) (h2 : y.isRef = true) (hc : XT.acmp cd x y = false) {pc' : Nat} (hp : pc + 3 = pc') (k : OG p e below s Z EL nb Q ck sk T (mkF m pc' ls st)) : OG p e below s Z EL nb Q ck sk T (mkF m pc ls (y :: x :: st)) := by
  subst hp
  exact oLift (fun t q => XT.acmpNo (g := mkF m pc ls (y :: x :: st)) W.2.1.here W.1.1 rfl (oDec W hd) rfl h1 h2 hc q) k
/-! ### the end -/
theorem oFin (W : OW p l e R s m args below meth c Z a0 EL nb own code ml ret nm vm T locs ce sl h) {v : Option Value} {g : JFrame} (hv : ret = none → v = none)
    (hstep : ∀ fs, (∀ (f : JFrame) (acts : List Action), f.method = m → f.locked = none → f.entered = [] → (doReturn e (T.setTop f) acts v).1 = T.setFrames fs) → Steps p.tables e below (T.setTop g) (T.setFrames fs)) (hc : ce ≤ ck) (hs : sl ≤ sk) (hq : ∀ vm', CHr Z EL vm h vm' h → Q v vm' h) : OG p e below s Z EL nb Q ck sk T g := by
  obtain ⟨⟨h1, h2, h3, h4, h5, h6⟩, X, eT, ⟨k0, hS, hk⟩, hZ, ho, hC, hF, hE, hn, hEW⟩ := W
  obtain ⟨fs, hr, hrun, hended, r1, r2, r3, r4⟩ := X.leaveW hS (by rw [eT]; exact hk) (v := v) (fun q => hv (by rw [← h4]; exact q)) h5
  refine ⟨T.setFrames fs, _, hstep fs hr, hrun, hended, v, locs, rfl, ⟨?_, hF, ?_⟩, fun q => ?_, ?_, r1, r2, r3, r4.mono hc hs⟩
  · show Q v T.vm T.heap
    rw [eT]; exact hq _ (CHv.at X hZ hEW hC.1)
  · show Ext Z.heap T.heap
    rw [eT]; exact hE
  · exact State.WarmedH.trans (t := s.setVm vm) (hn q) X.warmed
  · show CHr Z EL s.vm s.heap T.vm T.heap
    rw [eT]
    exact hC.trans (CHv.at X hZ hEW hC.1)
theorem oRet0 (W : OW p l e R s m args below meth c Z a0 EL nb own code ml none nm vm T locs ce sl h) {pc : Nat} {ls : Array Slot} (hd : decode code pc = .ok (.return_, 1)) (hc : ce ≤ ck) (hs : sl ≤ sk) (hq : ∀ vm', CHr Z EL vm h vm' h → Q none vm' h) : OG p e below s Z EL nb Q ck sk T (mkF m pc ls []) :=
  oFin W (fun _ => rfl) (fun fs hr => W.2.1.returnOut W.1.1 W.1.2.2.2.1 (oDec W hd) hr) hc hs hq
theorem oRetI (W : OW p l e R s m args below meth c Z a0 EL nb own code ml (some .int) nm vm T locs ce sl h) {pc : Nat} {ls : Array Slot} {z : Int32} {rest : List Value} (hd : decode code pc = .ok (.ireturn, 1)) (hc : ce ≤ ck) (hs : sl ≤ sk) (hq : ∀ vm', CHr Z EL vm h vm' h → Q (some (.int z)) vm' h) : OG p e below s Z EL nb Q ck sk T (mkF m pc ls (.int z :: rest)) :=
  oFin W (fun q => by cases q) (fun fs hr => RoadKit.retOut W.2.1 W.1.1 W.1.2.2.2.1 rfl (Or.inl ⟨rfl, Or.inl rfl, _, rfl⟩) (oDec W hd) hr) hc hs hq
theorem oRetN {t : FieldType} (ht : t = .boolean ∨ t = .byte ∨ t = .char ∨ t = .short) (W : OW p l e R s m args below meth c Z a0 EL nb own code ml (some t) nm vm T locs ce sl h) {pc : Nat} {ls : Array Slot} {z : Int32} {rest : List Value} (hn : nar t z = z) (hd : decode code pc = .ok (.ireturn, 1)) (hc : ce ≤ ck) (hs : sl ≤ sk) (hq : ∀ vm', CHr Z EL vm h vm' h → Q (some (.int z)) vm' h) : OG p e below s Z EL nb Q ck sk T (mkF m pc ls (.int z :: rest)) :=
  oFin W (fun q => by cases q) (fun fs hr => RoadKit.retN W.2.1 W.1.1 W.1.2.2.2.1 ht (oDec W hd) (by rw [hn]; exact hr)) hc hs hq
theorem oRetA {t : FieldType} (ht : t.isReference = true) (W : OW p l e R s m args below meth c Z a0 EL nb own code ml (some t) nm vm T locs ce sl h) {pc : Nat} {ls : Array Slot} {w : Value} {rest : List Value} (hw : w.isRef = true) (hn : narrow t w = w) (hd : decode code pc = .ok (.areturn, 1)) (hc : ce ≤ ck) (hs : sl ≤ sk) (hq : ∀ vm', CHr Z EL vm h vm' h → Q (some w) vm' h) : OG p e below s Z EL nb Q ck sk T (mkF m pc ls (w :: rest)) :=
  oFin W (fun q => by cases q) (fun fs hr => RoadKit.retOut W.2.1 W.1.1 W.1.2.2.2.1 hn (Or.inr (Or.inr (Or.inr (Or.inr ⟨rfl, ht, hw⟩)))) (oDec W hd) hr) hc hs hq
end Base
end Jvm.OwnK
namespace Jvm.OwnK
open Jvm Sem ClassFile Op Lib Jvm.Stand Jvm.Free Jvm.LawKit Jvm.RoadKit Bundle
section Heaps
variable {p : Program} {l : Launch} {e : Env} {R : Room} {s : State} {m : MethodId} {args : Array Value} {below : List Frame} {meth : Method} {c : Code} {Z : State} {a0 : Array Value} {EL : List (String × Nat)} {nb : Bool} {own : String} {code : ByteArray} {ml : Nat} {ret : Option FieldType} {nm : String} {vm : Vm} {T : State} {locs : List Loc} {ce sl : Nat} {h h1 h2 : Heap} {Q : Option Value → Vm → Heap → Prop} {ck sk : Nat} {pc : Nat} {ls : Array Slot} {st : List Value}
theorem exR (h : Heap) : Ext h h := ⟨Nat.le_refl _, fun _ _ q => q⟩
theorem exT (A : Ext h h1) (B : Ext h1 h2) : Ext h h2 := ⟨Nat.le_trans A.1 B.1, fun a c q => B.2 a c (A.2 a c q)⟩
theorem exW {a : Addr} {i : Nat} {v : Value} (A : Ext h h1) (B : Wr h1 h2 a i v) (q : h.size ≤ a) : Ext h h2 := by
  have K := (Keep.refl h ([] : List Addr)).ext A |>.wr B (Or.inr q)
  exact ⟨K.1, fun x c hx => K.2.1 x c hx nin0⟩
theorem exK {ws : List Addr} (A : Ext h h1) (K : Keep h1 h2 ws) (q : ∀ x ∈ ws, h.size ≤ x) : Ext h h2 := by
  have K' := ((Keep.refl h ([] : List Addr)).ext A).trans K (fun x hx => Or.inr (q x hx))
  exact ⟨K'.1, fun x c hx => K'.2.1 x c hx nin0⟩
theorem OW.step (W : OW p l e R s m args below meth c Z a0 EL nb own code ml ret nm vm T locs ce sl h) {T' : State} {locs' : List Loc} {ce' sl' : Nat} {h' : Heap} (X' : Stand p l e R (s.setVm vm) m args below meth c T' locs' ce' sl') (eT : T'.heap = h') (hC : CHr Z EL vm h vm h') (hF : Fr Z.heap.size locs') (hE : Ext Z.heap h') :
    OW p l e R s m args below meth c Z a0 EL nb own code ml ret nm vm T' locs' ce' sl' h' := by
  obtain ⟨g1, X, e0, ⟨k0, hS, hk⟩, hZ, ho, hC0, hF0, hE0, hn, hEW⟩ := W
  exact ⟨g1, X', eT, ⟨k0, hS, Nat.le_trans hk hC.2.1⟩, hZ, ho, hC0.trans hC, hF, hE, hn, hEW⟩
theorem OW.chv (W : OW p l e R s m args below meth c Z a0 EL nb own code ml ret nm vm T locs ce sl h) : CHv Z EL vm h := W.2.2.2.2.2.2.1.1
theorem OW.ext (W : OW p l e R s m args below meth c Z a0 EL nb own code ml ret nm vm T locs ce sl h) : Ext Z.heap h := W.2.2.2.2.2.2.2.2.1
theorem OW.fr (W : OW p l e R s m args below meth c Z a0 EL nb own code ml ret nm vm T locs ce sl h) : Fr Z.heap.size locs := W.2.2.2.2.2.2.2.1
theorem OW.warm (W : OW p l e R s m args below meth c Z a0 EL nb own code ml ret nm vm T locs ce sl h) : Z.Warmed39 vm := W.2.2.2.2.1
theorem OW.owns (W : OW p l e R s m args below meth c Z a0 EL nb own code ml ret nm vm T locs ce sl h) : vm.findClass own = some m.cls := W.2.2.2.2.2.1
theorem OW.heap (W : OW p l e R s m args below meth c Z a0 EL nb own code ml ret nm vm T locs ce sl h) : T.heap = h := W.2.2.1
theorem frS {k : Nat} {L : List Loc} {a : Addr} {i : Nat} (N : Fr k L) (q : k ≤ a) : Fr k (L ++ [⟨a, i⟩]) := N.app fun y hy => by cases List.mem_singleton.mp hy; exact q
/-- new -/
theorem oNew (W : OW p l e R s m args below meth c Z a0 EL nb own code ml ret nm vm T locs ce sl h) {idx n : Nat} {C : String} (w : (Jvm.Cond.classLink own idx C).before a0 Z = true) (wi : (Jvm.Cond.instantiable C n).before a0 Z = true) (wz : (Jvm.Cond.initialized C).before a0 Z = true) (hd : decode code pc = .ok (.new idx, 3)) (hc : ce + 1 ≤ R.cells) (hl : sl + n ≤ R.slots) :
    ∃ T' h' a, OW p l e R s m args below meth c Z a0 EL nb own code ml ret nm vm T' locs (ce + 1) (sl + n) h' ∧ h.size ≤ a ∧ Ext h h' ∧ Exa Z h' a C ∧ (∀ {O nm d : String} {ty : FieldType}, Laid Z a0 C O nm d → parseFieldDescriptor d = some ty → Fld Z h' a O nm d (defaultValue ty)) ∧ Safe Z EL vm h' a ∧ CHr Z EL vm h vm h' ∧
      Lt p e below T (mkF m pc ls st) T' (mkF m (pc + 3) ls (.ref a :: st)) := by
  obtain ⟨T', h', X', eT, E, A, D, -, st'⟩ := RoadKit.newO W.2.1 W.1.1 W.warm W.owns w wi wz W.heap (g := mkF m pc ls st) rfl (oDec W hd) hc hl
  have hC : CHr Z EL vm h vm h' := CHr.ext E W.chv
  exact ⟨T', h', h.size, W.step X' eT hC W.fr (exT W.ext E), Nat.le_refl _, E, A, fun L q => D L q, (Safe.new (Nat.le_refl _)).ext E W.chv, hC, st'⟩
/-- an array with known contents -/
def OA (Z : State) (h : Heap) (a : Addr) (k : ClassId) (ty : FieldType) (vs : List Value) : Prop := ∃ n d, Arv Z h a k ty n vs d ∧ n.toNatClampNeg = vs.length
theorem OA.ext {a : Addr} {k : ClassId} {ty : FieldType} {vs : List Value} (A : OA Z h a k ty vs) (E : Ext h h1) : OA Z h1 a k ty vs := by obtain ⟨n, d, F, q⟩ := A; exact ⟨n, d, F.ext E, q⟩
theorem OA.other {a b : Addr} {k : ClassId} {ty : FieldType} {vs : List Value} {i : Nat} {v : Value} (A : OA Z h b k ty vs) (W : Wr h h1 a i v) (q : b ≠ a) : OA Z h1 b k ty vs := by obtain ⟨n, d, F, r⟩ := A; exact ⟨n, d, F.other W q, r⟩
theorem OA.keep {a : Addr} {k : ClassId} {ty : FieldType} {vs : List Value} {ws : List Addr} (A : OA Z h a k ty vs) (K : Keep h h1 ws) (q : a ∉ ws) : OA Z h1 a k ty vs := by obtain ⟨n, d, F, r⟩ := A; exact ⟨n, d, F.keep K q, r⟩
theorem OA.lt {a : Addr} {k : ClassId} {ty : FieldType} {vs : List Value} (A : OA Z h a k ty vs) : a < h.size := by obtain ⟨n, d, F, -⟩ := A; exact F.lt
theorem OA.get {a : Addr} {k : ClassId} {ty : FieldType} {vs : List Value} (A : OA Z h a k ty vs) {i : Nat} {v : Value} (hv : vs[i]? = some v) : fits ty v = true := by
  obtain ⟨n, d, ⟨cl, -, -, hs, -, -, G⟩, r⟩ := A
  have hi : i < vs.length := (List.getElem?_eq_some_iff.mp hv).1
  have := G i (by rw [hs, r]; exact hi)
  rwa [List.getD_eq_getElem?_getD, hv] at this
theorem OA.ne {a b : Addr} {k : ClassId} {ty : FieldType} {vs : List Value} {C : String} {n : Nat} (A : OA Z h b k ty vs) (E : Exa Z h a C) (w : (Jvm.Cond.instantiable C n).before a0 Z = true) : b ≠ a := by
  obtain ⟨q, d, F, -⟩ := A
  exact Ne.symm (E.neArv F w)
theorem OA.safe {vm : Vm} {a : Addr} {k : ClassId} {ty : FieldType} {vs : List Value} (A : OA Z h a k ty vs) (hal : Z.vm.Alike vm) (ht : ty ≠ .byte) : Safe Z EL vm h a := by
  obtain ⟨n, d, ⟨cl, A1, -⟩, -⟩ := A
  exact Safe.arr hal A1 ht
theorem oJn {g : JFrame} {α : Type} (P : α → Prop) (F : α → JFrame) (k : ∀ r, P r → OG p e below s Z EL nb Q ck sk T (F r)) (u : (∀ r, P r → OG p e below s Z EL nb Q ck sk T (F r)) → OG p e below s Z EL nb Q ck sk T g) : OG p e below s Z EL nb Q ck sk T g := u k
theorem oNewA (W : OW p l e R s m args below meth c Z a0 EL nb own code ml ret nm vm T locs ce sl h) {aty : ArrayType} (w : (Jvm.Cond.arrayClass (newarray.typeOf aty)).before a0 Z = true) (hd : decode code pc = .ok (.newarray aty, 2)) {n : Int32} (hn : ¬ n < 0) {cap : Nat} (hcap : n.toNatClampNeg ≤ cap) (hb : cap * 8 ≤ 536870912) (hc : ce + 1 ≤ R.cells) (hl : sl + cap ≤ R.slots) :
    ∃ T' h' a k, OW p l e R s m args below meth c Z a0 EL nb own code ml ret nm vm T' locs (ce + 1) (sl + cap) h' ∧ h.size ≤ a ∧ Ext h h' ∧ OA Z h' a k (newarray.typeOf aty) (List.replicate n.toNatClampNeg (defaultValue (newarray.typeOf aty))) ∧ Safe Z EL vm h' a ∧ CHr Z EL vm h vm h' ∧
      Lt p e below T (mkF m pc ls (.int n :: st)) T' (mkF m (pc + 2) ls (.ref a :: st)) := by
  obtain ⟨T', h', cA, X', eT, E, A, st'⟩ := RoadKit.newP W.2.1 W.1.1 W.warm w W.heap (g := mkF m pc ls (.int n :: st)) rfl (oDec W hd) rfl hn hcap hb hc hl
  have hC : CHr Z EL vm h vm h' := CHr.ext E W.chv
  have F := (Arv.new A hn).pad (vs' := [] ++ List.replicate n.toNatClampNeg (defaultValue (newarray.typeOf aty))) (pad_rep [] _ _)
  exact ⟨T', h', h.size, cA, W.step X' eT hC W.fr (exT W.ext E), Nat.le_refl _, E, ⟨n, _, F, by simp⟩, (Safe.new (Nat.le_refl _)).ext E W.chv, hC, st'⟩
/-- the array's length and its components -/
theorem oLen (W : OW p l e R s m args below meth c Z a0 EL nb own code ml ret nm vm T locs ce sl h) {a : Addr} {k : ClassId} {ty : FieldType} {vs : List Value} (A : OA Z h a k ty vs) (hd : decode code pc = .ok (.arraylength, 1)) (K : OG p e below s Z EL nb Q ck sk T (mkF m (pc + 1) ls (.int vs.length.toInt32 :: st))) : OG p e below s Z EL nb Q ck sk T (mkF m pc ls (.ref a :: st)) := by
  obtain ⟨n, d, ⟨cl, A1, -, hs, -, -, -⟩, r⟩ := A
  refine oLift (fun t q => W.2.1.arraylength W.1.1 (cell := cl) (by rw [W.heap]; exact A1.1) (State.isArrayOf_alike W.warm.alike A1.2.1) (g := mkF m pc ls (.ref a :: st)) rfl rfl (oDec W hd) t ?_) K
  rw [hs, r]; exact q
theorem oGet (W : OW p l e R s m args below meth c Z a0 EL nb own code ml ret nm vm T locs ce sl h) {a : Addr} {k : ClassId} {ty : FieldType} {vs : List Value} (A : OA Z h a k ty vs) {j : Int32} {v : Value} (hj : ¬ j < 0) (hv : vs[j.toNatClampNeg]? = some v) {i : Instr}
    (hi : (i = .caload ∧ ty = .char) ∨ (i = .baload ∧ ty = .byte) ∨ (i = .iaload ∧ ty = .int) ∨ (i = .aaload ∧ ty.isReference = true)) (hd : decode code pc = .ok (i, 1)) (K : OG p e below s Z EL nb Q ck sk T (mkF m (pc + 1) ls (v :: st))) : OG p e below s Z EL nb Q ck sk T (mkF m pc ls (.int j :: .ref a :: st)) := by
  obtain ⟨n, d, ⟨cl, A1, -, hs, -, H, -⟩, r⟩ := A
  have hlt : j.toNatClampNeg < vs.length := (List.getElem?_eq_some_iff.mp hv).1
  have hin : ¬ (j < 0 ∨ cl.slots.size ≤ j.toNatClampNeg) := fun q => q.elim hj (fun q => by rw [hs, r] at q; omega)
  have hcv : cl.slots[j.toNatClampNeg]? = some v := Has.at H hin (by rw [List.getD_eq_getElem?_getD, hv]; rfl)
  have hA : (s.setVm vm).isArrayOf cl ty := State.isArrayOf_alike W.warm.alike A1.2.1
  have hce : T.heap[a]? = some cl := by rw [W.heap]; exact A1.1
  rcases hi with ⟨rfl, rfl⟩ | ⟨rfl, rfl⟩ | ⟨rfl, rfl⟩ | ⟨rfl, ht⟩
  · exact oLift (fun t q => W.2.1.caload W.1.1 hce hA A1.2.2 hin hcv (g := mkF m pc ls (.int j :: .ref a :: st)) rfl rfl (oDec W hd) t q) K
  · exact oLift (fun t q => W.2.1.baloadBytes W.1.1 hce hA A1.2.2 hin hcv (g := mkF m pc ls (.int j :: .ref a :: st)) rfl rfl (oDec W hd) t q) K
  · exact oLift (fun t q => W.2.1.iaload W.1.1 hce hA A1.2.2 hin hcv (g := mkF m pc ls (.int j :: .ref a :: st)) rfl rfl (oDec W hd) t q) K
  · exact oLift (fun t q => W.2.1.aaload W.1.1 hce hA ht A1.2.2 hin hcv (g := mkF m pc ls (.int j :: .ref a :: st)) rfl rfl (oDec W hd) t q) K
/-- a store into a char[], a byte[], an int[] made since the law began -/
theorem oPut (W : OW p l e R s m args below meth c Z a0 EL nb own code ml ret nm vm T locs ce sl h) {a : Addr} {k : ClassId} {ty : FieldType} {vs : List Value} (A : OA Z h a k ty vs) {j x x' : Int32} (hj : ¬ j < 0) {i : Nat} (hji : j.toNatClampNeg = i) (hlt : i < vs.length) (hfr : Z.heap.size ≤ a) (hS : Safe Z EL vm h a) {ins : Instr}
    (hi : (ins = .castore ∧ ty = .char ∧ nar .char x = x') ∨ (ins = .bastore ∧ ty = .byte ∧ nar .byte x = x') ∨ (ins = .iastore ∧ ty = .int ∧ x = x')) (hd : decode code pc = .ok (ins, 1)) :
    ∃ T' h', OW p l e R s m args below meth c Z a0 EL nb own code ml ret nm vm T' (locs ++ [⟨a, i⟩]) ce sl h' ∧ Wr h h' a i (.int x') ∧ OA Z h' a k ty (vs.set i (.int x')) ∧ CHr Z EL vm h vm h' ∧ Lt p e below T (mkF m pc ls (.int x :: .int j :: .ref a :: st)) T' (mkF m (pc + 1) ls st) := by
  obtain ⟨n, d, ⟨cl, A1, hk, hs, hn, H, G⟩, r⟩ := A
  subst hji
  have hin : ¬ (j < 0 ∨ cl.slots.size ≤ j.toNatClampNeg) := fun q => q.elim hj (fun q => by rw [hs, r] at q; omega)
  have key : ∀ {T' h'}, Stand p l e R (s.setVm vm) m args below meth c T' (locs ++ [⟨a, j.toNatClampNeg⟩]) ce sl → T'.heap = h' → Wr h h' a j.toNatClampNeg (.int x') → fits ty (.int x') = true → Lt p e below T (mkF m pc ls (.int x :: .int j :: .ref a :: st)) T' (mkF m (pc + 1) ls st) →
      ∃ T' h', OW p l e R s m args below meth c Z a0 EL nb own code ml ret nm vm T' (locs ++ [⟨a, j.toNatClampNeg⟩]) ce sl h' ∧ Wr h h' a j.toNatClampNeg (.int x') ∧ OA Z h' a k ty (vs.set j.toNatClampNeg (.int x')) ∧ CHr Z EL vm h vm h' ∧ Lt p e below T (mkF m pc ls (.int x :: .int j :: .ref a :: st)) T' (mkF m (pc + 1) ls st) := by
    intro T' h' X' eT Wr' hf st'
    have hC : CHr Z EL vm h vm h' := CHr.wr Wr' hS W.chv
    exact ⟨T', h', W.step X' eT hC (frS W.fr hfr) (exW W.ext Wr' hfr), Wr', ⟨n, d, Arv.set A1 hk hs hn H G hf Wr' _ rfl hlt, by simpa using r⟩, hC, st'⟩
  rcases hi with ⟨rfl, rfl, rfl⟩ | ⟨rfl, rfl, rfl⟩ | ⟨rfl, rfl, rfl⟩
  · obtain ⟨T', h', X', eT, Wr', st'⟩ := RoadKit.stC W.2.1 W.1.1 W.warm W.heap A1 hin (g := mkF m pc ls (.int x :: .int j :: .ref a :: st)) rfl rfl (oDec W hd)
    exact key X' eT Wr' (fits_nar_char _) st'
  · obtain ⟨T', h', X', eT, Wr', st'⟩ := RoadKit.stB W.2.1 W.1.1 W.warm W.heap A1 hin (g := mkF m pc ls (.int x :: .int j :: .ref a :: st)) rfl rfl (oDec W hd)
    exact key X' eT Wr' (fits_nar_byte _) st'
  · obtain ⟨T', h', X', eT, Wr', st'⟩ := RoadKit.stI W.2.1 W.1.1 W.warm W.heap A1 hin (g := mkF m pc ls (.int x :: .int j :: .ref a :: st)) rfl rfl (oDec W hd)
    exact key X' eT Wr' rfl st'
/-- fields -/
theorem oGetF (W : OW p l e R s m args below meth c Z a0 EL nb own code ml ret nm vm T locs ce sl h) {idx : Nat} {R0 O n d : String} (w : (Jvm.Cond.fieldLink own idx R0 n d).before a0 Z = true) (via : Via Z R0 O n d) {a : Addr} {v : Value} (F : Fld Z h a O n d v) (hd : decode code pc = .ok (.getfield idx, 3)) :
    ∃ T', OW p l e R s m args below meth c Z a0 EL nb own code ml ret nm vm T' locs ce sl h ∧ Lt p e below T (mkF m pc ls (.ref a :: st)) T' (mkF m (pc + 3) ls (v :: st)) := by
  obtain ⟨T', X', eT, st'⟩ := RoadKit.getF W.2.1 W.1.1 W.warm W.owns (host := "") (Or.inl w) via W.heap F (g := mkF m pc ls (.ref a :: st)) rfl rfl (oDec W hd)
  exact ⟨T', W.step X' eT (CHr.refl W.chv) W.fr W.ext, st'⟩
theorem oGetS (W : OW p l e R s m args below meth c Z a0 EL nb own code ml ret nm vm T locs ce sl h) {idx : Nat} {R0 O n d : String} (w : (Jvm.Cond.fieldLink own idx R0 n d).before a0 Z = true) (via : Via Z R0 O n d) {v : Value} (F : Sta Z h O n d v) (hd : decode code pc = .ok (.getstatic idx, 3)) :
    ∃ T', OW p l e R s m args below meth c Z a0 EL nb own code ml ret nm vm T' locs ce sl h ∧ Lt p e below T (mkF m pc ls st) T' (mkF m (pc + 3) ls (v :: st)) := by
  obtain ⟨T', X', eT, st'⟩ := RoadKit.getS (host := "") W.2.1 W.1.1 W.warm W.owns w via W.heap F (g := mkF m pc ls st) rfl (oDec W hd)
  exact ⟨T', W.step X' eT (CHr.refl W.chv) W.fr W.ext, st'⟩
theorem oPutF (W : OW p l e R s m args below meth c Z a0 EL nb own code ml ret nm vm T locs ce sl h) {idx kk : Nat} {R0 O n d C : String} {ty : FieldType} (w : (Jvm.Cond.fieldLink own idx R0 n d).before a0 Z = true) (via : Via Z R0 O n d) {a : Addr} {v old : Value} (F : Fld Z h a O n d old) (E : Exa Z h a C)
    (L : (Jvm.Cond.lays C O n d).before a0 Z = true ∨ ((Jvm.Cond.laysFinal C O n d).before a0 Z = true ∧ own = O ∧ nm = "<init>")) (wi : (Jvm.Cond.instantiable C kk).before a0 Z = true) (hty : parseFieldDescriptor d = some ty) (hn : narrow ty v = v) (hf : fits ty v = true) (hfr : Z.heap.size ≤ a) (hS : Safe Z EL vm h a) (hd : decode code pc = .ok (.putfield idx, 3)) :
    ∃ T' h', OW p l e R s m args below meth c Z a0 EL nb own code ml ret nm vm T' (locs ++ [⟨a, RoadKit.slotOf Z O n d⟩]) ce sl h' ∧ Wr h h' a (RoadKit.slotOf Z O n d) v ∧ Fld Z h' a O n d v ∧ Exa Z h' a C ∧ CHr Z EL vm h vm h' ∧ Lt p e below T (mkF m pc ls (v :: .ref a :: st)) T' (mkF m (pc + 3) ls st) := by
  obtain ⟨T', h', X', eT, Wr', st'⟩ := RoadKit.putF W.2.1 W.1.1 W.warm W.owns (host := "") (Or.inl w) via W.heap F E (L.imp id fun q => ⟨q.1, q.2.1, W.1.2.2.2.2.2.trans q.2.2⟩) wi hty hn hf (g := mkF m pc ls (v :: .ref a :: st)) rfl rfl (oDec W hd)
  have hC : CHr Z EL vm h vm h' := CHr.wr Wr' hS W.chv
  exact ⟨T', h', W.step X' eT hC (frS W.fr hfr) (exW W.ext Wr' hfr), Wr', F.same Wr', E.wr Wr', hC, st'⟩
theorem oCast (W : OW p l e R s m args below meth c Z a0 EL nb own code ml ret nm vm T locs ce sl h) {idx : Nat} {K : String} (w : (Jvm.Cond.classLink own idx K).before a0 Z = true) {a : Addr} (F : Ins Z h a K true) (hd : decode code pc = .ok (.checkcast idx, 3)) :
    ∃ T', OW p l e R s m args below meth c Z a0 EL nb own code ml ret nm vm T' locs ce sl h ∧ Lt p e below T (mkF m pc ls (.ref a :: st)) T' (mkF m (pc + 3) ls (.ref a :: st)) := by
  obtain ⟨T', X', eT, st'⟩ := RoadKit.castY W.2.1 W.1.1 W.warm W.owns w W.heap F (g := mkF m pc ls (.ref a :: st)) rfl rfl (oDec W hd)
  exact ⟨T', W.step X' eT (CHr.refl W.chv) W.fr W.ext, st'⟩
theorem oInst (W : OW p l e R s m args below meth c Z a0 EL nb own code ml ret nm vm T locs ce sl h) {idx : Nat} {K : String} (w : (Jvm.Cond.classLink own idx K).before a0 Z = true) {a : Addr} (F : Ins Z h a K true) (hd : decode code pc = .ok (.instanceof idx, 3)) :
    ∃ T', OW p l e R s m args below meth c Z a0 EL nb own code ml ret nm vm T' locs ce sl h ∧ Lt p e below T (mkF m pc ls (.ref a :: st)) T' (mkF m (pc + 3) ls (.int 1 :: st)) := by
  obtain ⟨T', X', eT, st'⟩ := RoadKit.instY W.2.1 W.1.1 W.warm W.owns w W.heap F (g := mkF m pc ls (.ref a :: st)) rfl rfl (oDec W hd)
  exact ⟨T', W.step X' eT (CHr.refl W.chv) W.fr W.ext, st'⟩
/-- Object.<init> -/
theorem oInit (W : OW p l e R s m args below meth c Z a0 EL nb own code ml ret nm vm T locs ce sl h) {idx : Nat} (w1 : (Jvm.Cond.methodLink own idx Lib.objectInit).before a0 Z = true) (w2 : (Jvm.Cond.instanceMethod Lib.objectInit).before a0 Z = true) (w3 : (Jvm.Cond.code Lib.objectInit ⟨#[0xb1]⟩ 1 none).before a0 Z = true) {a : Addr} (hsz : ls.size = ml) (hd : decode code pc = .ok (.invokespecial idx, 3))
    (hf : 1 ≤ R.frames) {V : Nat} (hW : (st.map fun v => v.category).sum ≤ V) (hl : V + 12 ≤ R.locals) :
    ∃ T', OW p l e R s m args below meth c Z a0 EL nb own code ml ret nm vm T' locs ce sl h ∧ Lt p e below T (mkF m pc ls (.ref a :: st)) T' (mkF m (pc + 3) ls st) := by
  obtain ⟨T', X', eT, st'⟩ := RoadKit.initO W.2.1 W.1.1 W.warm W.owns w1 w2 w3 W.heap (g := mkF m pc ls (.ref a :: st)) rfl (hsz.trans W.1.2.2.1.symm) rfl (oDec W hd) hf (W := V) (by show 2 * 0 + _ ≤ _; omega) hl
  exact ⟨T', W.step X' eT (CHr.refl W.chv) W.fr W.ext, st'⟩
/-- clone() of an array -/
theorem oClone (W : OW p l e R s m args below meth c Z a0 EL nb own code ml ret nm vm T locs ce sl h) {idx : Nat} {ad : String} (w1 : (Jvm.Cond.methodLink own idx ⟨ad, "clone", "()Ljava/lang/Object;"⟩).before a0 Z = true) (w2 : (Jvm.Cond.sameMethod ad "java/lang/Object" "clone" "()Ljava/lang/Object;").before a0 Z = true) (w3 : (Jvm.Cond.native ⟨"java/lang/Object", "clone", "()Ljava/lang/Object;"⟩).before a0 Z = true)
    (w4 : (Jvm.Cond.instanceMethod ⟨"java/lang/Object", "clone", "()Ljava/lang/Object;"⟩).before a0 Z = true) (w5 : (Jvm.Cond.selects ad ⟨ad, "clone", "()Ljava/lang/Object;"⟩ ⟨"java/lang/Object", "clone", "()Ljava/lang/Object;"⟩).before a0 Z = true) (w6 : (Jvm.Cond.castable ad "java/lang/Cloneable").before a0 Z = true)
    {a : Addr} {k : ClassId} {ty : FieldType} {vs : List Value} (A : OA Z h a k ty vs) (E : Exa Z h a ad) (hsz : ls.size = ml) (hd : decode code pc = .ok (.invokevirtual idx, 3)) (hf : 1 ≤ R.frames) {V cap : Nat} (hV : (st.map fun v => v.category).sum ≤ V) (hl : V + 14 ≤ R.locals) (hcap : vs.length ≤ cap) (hc : ce + 1 ≤ R.cells) (hs : sl + cap ≤ R.slots) :
    ∃ T' h' b, OW p l e R s m args below meth c Z a0 EL nb own code ml ret nm vm T' locs (ce + 1) (sl + cap) h' ∧ h.size ≤ b ∧ Ext h h' ∧ OA Z h' b k ty vs ∧ Exa Z h' b ad ∧ CHr Z EL vm h vm h' ∧ Lt p e below T (mkF m pc ls (.ref a :: st)) T' (mkF m (pc + 3) ls (.ref b :: st)) := by
  obtain ⟨n, d, F, r⟩ := A
  obtain ⟨T', h', X', eT, Ex, A', E', st'⟩ := RoadKit.cloneH W.2.1 W.1.1 W.warm W.owns w1 w2 w3 w4 w5 w6 W.heap F.arh E (g := mkF m pc ls (.ref a :: st)) rfl (hsz.trans W.1.2.2.1.symm) rfl (oDec W hd) hf (W := V) (by show 2 * 0 + _ ≤ _; omega) hl (cap := cap) (by rw [r]; exact hcap) hc hs
  have hC : CHr Z EL vm h vm h' := CHr.ext Ex W.chv
  exact ⟨T', h', h.size, W.step X' eT hC W.fr (exT W.ext Ex), Nat.le_refl _, Ex, ⟨n, d, A', r⟩, E', hC, st'⟩
/-- checkcast of null -/
theorem oCastN (W : OW p l e R s m args below meth c Z a0 EL nb own code ml ret nm vm T locs ce sl h) {idx : Nat} (hd : decode code pc = .ok (.checkcast idx, 3)) (K : OG p e below s Z EL nb Q ck sk T (mkF m (pc + 3) ls (.null :: st))) : OG p e below s Z EL nb Q ck sk T (mkF m pc ls (.null :: st)) :=
  oLift (fun t q => W.2.1.checkcastNull W.1.1 (g := mkF m pc ls (.null :: st)) rfl rfl (oDec W hd) t q) K
/-- a component of an array of references, the cell at hand -/
theorem oGetC (W : OW p l e R s m args below meth c Z a0 EL nb own code ml ret nm vm T locs ce sl h) {a : Addr} {cl : Cell} {ty : FieldType} (A : Arr Z h a cl ty) {j : Int32} {v : Value} (hin : ¬ (j < 0 ∨ cl.slots.size ≤ j.toNatClampNeg)) (hv : cl.slots[j.toNatClampNeg]? = some v) (ht : ty.isReference = true) (hd : decode code pc = .ok (.aaload, 1)) (K : OG p e below s Z EL nb Q ck sk T (mkF m (pc + 1) ls (v :: st))) : OG p e below s Z EL nb Q ck sk T (mkF m pc ls (.int j :: .ref a :: st)) :=
  oLift (fun t q => W.2.1.aaload W.1.1 (by rw [W.heap]; exact A.1) (State.isArrayOf_alike W.warm.alike A.2.1) ht A.2.2 hin hv (g := mkF m pc ls (.int j :: .ref a :: st)) rfl rfl (oDec W hd) t q) K
/-- an int constant -/
theorem oLdcI (W : OW p l e R s m args below meth c Z a0 EL nb own code ml ret nm vm T locs ce sl h) {idx : Nat} {v : Int32} (w : (Jvm.Cond.constant own idx v).before a0 Z = true) (hd : decode code pc = .ok (.ldc idx, 2)) (K : OG p e below s Z EL nb Q ck sk T (mkF m (pc + 2) ls (.int v :: st))) : OG p e below s Z EL nb Q ck sk T (mkF m pc ls st) :=
  oLift (fun t q => W.2.1.ldcInt W.1.1 W.owns (mvT W.warm w) (g := mkF m pc ls st) rfl (oDec W hd) t q) K
/-- a String constant, opaque -/
theorem oLdc (W : OW p l e R s m args below meth c Z a0 EL false own code ml ret nm vm T locs ce sl h) {idx : Nat} {text : String} (w : (Jvm.Cond.stringLink own idx text).before a0 Z = true) (wS : ∀ a ∈ Bundle.stringAtoms, a.before a0 Z = true) (hd : decode code pc = .ok (.ldc idx, 2)) {n : Nat} (hn : 4 * text.toList.length ≤ n) (hbig : n ≤ 536870912) (hc : ce + 2 ≤ R.cells) (hl : sl + (n + 4) ≤ R.slots) :
    ∃ a T' h' vm', OW p l e R s m args below meth c Z a0 EL false own code ml ret nm vm' T' locs (ce + 2) (sl + (n + 4)) h' ∧ Ext h h' ∧ CHr Z EL vm h vm' h' ∧ Lt p e below T (mkF m pc ls st) T' (mkF m (pc + 2) ls (.ref a :: st)) := by
  obtain ⟨g1, X, e0, ⟨k0, hS, hk⟩, hZ, ho, hC0, hF0, hE0, hn0, hEW⟩ := id W
  obtain ⟨a, T', h', k1, X', eT, E, hS', hk', hZ', ho', hC, -, st'⟩ := RoadKit.ldcOH X W.1.1 hZ ho w wS e0 hS hk hEW W.chv (g := mkF m pc ls st) rfl (oDec W hd) hn hbig hc hl
  exact ⟨a, T', h', T'.vm, ⟨g1, X', eT, ⟨k1, hS', hk'⟩, hZ', ho', hC0.trans hC, hF0, exT hE0 E, (fun q => by cases q), hEW⟩, E, hC, st'⟩
/-- a String constant of EL, read -/
theorem oLdcC (W : OW p l e R s m args below meth c Z a0 EL false own code ml ret nm vm T locs ce sl h) {idx : Nat} {text : String} (w : (Jvm.Cond.stringLink own idx text).before a0 Z = true) (wS : ∀ a ∈ Bundle.stringAtoms, a.before a0 Z = true) (hm : (own, idx) ∈ EL) {vs : List Value} {z : Int32} (ht : (∀ c ∈ text.toList, c.toNat < 256) ∧ text.toList.map (fun c => Value.int (Jvm.Lit.byteI c.toNat.toUInt16)) = vs) (hz : ¬ z < 0) (hzl : z.toNatClampNeg = vs.length)
    (hd : decode code pc = .ok (.ldc idx, 2)) {n : Nat} (hn : 4 * text.toList.length ≤ n) (hbig : n ≤ 536870912) (hc : ce + 2 ≤ R.cells) (hl : sl + (n + 4) ≤ R.slots) :
    ∃ a b k T' h' vm', OW p l e R s m args below meth c Z a0 EL false own code ml ret nm vm' T' locs (ce + 2) (sl + (n + 4)) h' ∧ Ext h h' ∧ CHr Z EL vm h vm' h' ∧ Exa Z h' a "java/lang/String" ∧ Fld Z h' a "java/lang/String" "coder" "B" (.int 0) ∧ Fld Z h' a "java/lang/String" "value" "[B" (.ref b) ∧ OA Z h' b k .byte vs ∧
      Lt p e below T (mkF m pc ls st) T' (mkF m (pc + 2) ls (.ref a :: st)) := by
  obtain ⟨g1, X, e0, ⟨k0, hS, hk⟩, hZ, ho, hC0, hF0, hE0, hn0, hEW⟩ := id W
  obtain ⟨a, T', h', k1, b, k, X', eT, E, hS', hk', hZ', ho', q1, q2, q3, q4, -, -, hC, -, -, st'⟩ := RoadKit.ldcCH X W.1.1 hZ ho w wS e0 hS hk hEW hm W.chv ht hz hzl (g := mkF m pc ls st) rfl (oDec W hd) hn hbig hc hl
  exact ⟨a, b, k, T', h', T'.vm, ⟨g1, X', eT, ⟨k1, hS', hk'⟩, hZ', ho', hC0.trans hC, hF0, exT hE0 E, (fun q => by cases q), hEW⟩, E, hC, q1, q2, q3, ⟨z, _, q4, hzl⟩, st'⟩
end Heaps
section Calls
variable {p : Program} {l : Launch} {e : Env} {R : Room} {s : State} {m : MethodId} {args : Array Value} {below : List Frame} {meth : Method} {c : Code} {Z : State} {a0 : Array Value} {EL : List (String × Nat)} {nb : Bool} {own : String} {code : ByteArray} {ml : Nat} {ret : Option FieldType} {nm : String} {vm : Vm} {T : State} {locs : List Loc} {ce sl : Nat} {h : Heap} {pc : Nat} {ls : Array Slot} {st : List Value}
  {y : MethodName} {bytes : ByteArray} {maxL : Nat} {ret' : Option FieldType} {rm : Room} {as' : Array Value} {sf : List Addr} {Q' : Option Value → Vm → Heap → Prop}
theorem oBack (W : OW p l e R s m args below meth c Z a0 EL nb own code ml ret nm vm T locs ce sl h) (hM : OC l Z EL nb [] y bytes maxL ret' rm as' h sf Q') (hsf : ∀ x ∈ sf, x < h.size ∧ Safe Z EL vm h x) (wc : (Jvm.Cond.code y bytes maxL ret').before a0 Z = true) (wz : (Jvm.Cond.initialized y.cls).before a0 Z = true) {len V : Nat} (hf : rm.frames + 1 ≤ R.frames) (hl : V + (maxL + 11) + rm.locals ≤ R.locals) :
    BackS l R p e below (s.setVm vm) args y len V (fun A a => a = as' ∧ A.U.heap = h ∧ A.cells + rm.cells ≤ R.cells ∧ A.slots + rm.slots ≤ R.slots)
      (fun A _ v B => ∃ L, (Q' v B.U.vm B.U.heap ∧ Fr Z.heap.size L ∧ Ext Z.heap B.U.heap) ∧ B.locs = A.locs ++ L ∧ B.cells = A.cells + rm.cells ∧ B.slots = A.slots + rm.slots ∧ CHr Z EL vm h B.U.vm B.U.heap ∧ (nb = true → A.U.WarmedH B.U.vm)) :=
  have hZ := W.warm
  have hEL : EW Z a0 EL := W.2.2.2.2.2.2.2.2.2.2
  have H := W.chv
  BackS.of_freeW (bytes := bytes) (maxL := maxL) (ret := ret') (E := fun _ first o t L k n => k = rm.cells ∧ n = rm.slots ∧ (∃ v, o = .returned v ∧ (Q' v t.vm t.heap ∧ Fr Z.heap.size L ∧ Ext Z.heap t.heap)) ∧ CHr Z EL first.vm first.heap t.vm t.heap ∧ (nb = true → first.WarmedH t.vm)) hM hf hl
    (fun m meth c A a Y hp => have hU : Z.Warmed39 A.U.vm := wtrans (s := s.setVm vm) hZ Y.warmed
      ⟨by show (Jvm.Cond.and _ .tt).before a A.U = true; rw [Cond.before_and, mv hU wc]; rfl, mv hU wc, mv hU wz, hp.2.2.1, hp.2.2.2⟩)
    (fun m meth c A a g mk Y hp => ⟨hp.1, wtrans (s := s.setVm vm) hZ Y.warmed, hp.2.1, (CHv.at Y hZ hEL H).1, W.ext, fun x hx => (CHv.at Y hZ hEL H).safe (hsf x hx).1 (hsf x hx).2⟩) (fun _ _ _ _ _ _ _ _ _ => trivial)
    (fun _ _ _ _ ⟨v, L, h1, h2, h2', h3, h4⟩ => ⟨L, _, _, h4, rfl, rfl, ⟨v, h1, h2⟩, h3, h2'⟩)
    (fun m meth c A a g mk v t L k n Y hp _ _ ⟨e1, e2, ⟨v', e3, e4⟩, e5, e6⟩ => by
      cases e3; subst e1 e2
      refine ⟨L, e4, rfl, rfl, rfl, (CHv.at Y hZ hEL H).trans ?_, e6⟩
      rw [← hp.2.1]; exact e5)
theorem oCalled (W : OW p l e R s m args below meth c Z a0 EL nb own code ml ret nm vm T locs ce sl h) {vm₁ : Vm} {B : Pt} {v : Option Value} {g g' : JFrame} (hW : (s.setVm vm).WarmedH vm₁) (X' : Stand p l e R ((s.setVm vm).setVm B.U.vm) m args below meth c B.U B.locs B.cells B.slots) (hS : (s.setVm vm).Since B.U.vm B.U.heap.size)
    (hP : ∃ L, (Q' v B.U.vm B.U.heap ∧ Fr Z.heap.size L ∧ Ext Z.heap B.U.heap) ∧ B.locs = locs ++ L ∧ B.cells = ce + rm.cells ∧ B.slots = sl + rm.slots ∧ CHr Z EL vm h B.U.vm B.U.heap ∧ (nb = true → (T.setVm vm₁).WarmedH B.U.vm)) (st' : Steps p.tables e below (T.setTop g) (B.U.setTop g')) :
    ∃ T' L h' vm', OW p l e R s m args below meth c Z a0 EL nb own code ml ret nm vm' T' (locs ++ L) (ce + rm.cells) (sl + rm.slots) h' ∧ Q' v vm' h' ∧ CHr Z EL vm h vm' h' ∧ Lt p e below T g T' g' := by
  obtain ⟨U, Lc, cc, ss⟩ := B
  obtain ⟨L, ⟨q1, q2, q3⟩, q4, q5, q6, q7, q8⟩ := hP
  dsimp only [Pt.U, Pt.locs, Pt.cells, Pt.slots] at *
  subst q4 q5 q6
  obtain ⟨g1, X, e0, ⟨k0, hS0, hk⟩, hZ, ho, hC0, hF0, hE0, hn0, hEW⟩ := W
  refine ⟨U, L, U.heap, U.vm, ⟨g1, X', rfl, ⟨_, hS0.trans hS (Nat.le_trans hk q7.2.1), Nat.le_refl _⟩, State.Warmed39.trans (t := s.setVm vm) hZ hS.1, (hS.1.alike.findClass _ _).trans ho, hC0.trans q7, hF0.app q2, q3, fun q => ?_, hEW⟩, q1, q7, fun t k => st'.trans k⟩
  exact State.WarmedH.trans (t := T.setVm vm₁) (State.WarmedH.trans (t := s.setVm vm) (hn0 q) hW) (q8 q)
/-- a static method by its contract -/
theorem oCallS (W : OW p l e R s m args below meth c Z a0 EL nb own code ml ret nm vm T locs ce sl h) {idx : Nat} {argsL : List Value} (hM : OC l Z EL nb [] y bytes maxL ret' rm argsL.toArray h sf Q') (hsf : ∀ x ∈ sf, x < h.size ∧ Safe Z EL vm h x) (w1 : (Jvm.Cond.methodLink own idx y).before a0 Z = true) (w2 : (Jvm.Cond.static y).before a0 Z = true) (wz : (Jvm.Cond.initialized y.cls).before a0 Z = true) (wc : (Jvm.Cond.code y bytes maxL ret').before a0 Z = true)
    (hy : y.cls ≠ "java/lang/invoke/MethodHandle" ∧ y.cls ≠ "java/lang/invoke/VarHandle") {na : Nat} (hna : argsL.length = na) (har : XT.arity y.desc = some na) (hsz : ls.size = ml) {stk : List Value} (hst : stk = argsL.reverse ++ st) (hd : decode code pc = .ok (.invokestatic idx, 3))
    {V : Nat} (hV : (st.map fun v => v.category).sum ≤ V) (hf : rm.frames + 1 ≤ R.frames) (hl : V + (maxL + 11) + rm.locals ≤ R.locals) (hc : ce + rm.cells ≤ R.cells) (hs : sl + rm.slots ≤ R.slots) :
    ∃ v T' L h' vm', OW p l e R s m args below meth c Z a0 EL nb own code ml ret nm vm' T' (locs ++ L) (ce + rm.cells) (sl + rm.slots) h' ∧ Q' v vm' h' ∧ CHr Z EL vm h vm' h' ∧ Lt p e below T (mkF m pc ls stk) T' (mkF m (pc + 3) ls (v.toList ++ st)) := by
  obtain ⟨v, vm₁, B, hW, X', hS, hgr, hP, st'⟩ := RoadKit.callSS W.2.1 W.1.1 (y := y) W.owns (mvT W.warm w1) (mvT W.warm w2) (mvT W.warm wz) (mvT W.warm wc) hy (oBack W hM hsf wc wz hf hl) (g := mkF m pc ls stk) rfl (hsz.trans W.1.2.2.1.symm) (argsL := argsL) (rest := st) (XT.arity_len har hna) hst (by show 2 * 0 + _ ≤ _; omega) (oDec W hd) (fun _ _ => ⟨rfl, W.heap, hc, hs⟩)
  exact ⟨v, oCalled W hW X' hS hP st'⟩
/-- a constructor by its contract -/
theorem oCallN (W : OW p l e R s m args below meth c Z a0 EL nb own code ml ret nm vm T locs ce sl h) {idx : Nat} {argsL : List Value} {a : Addr} (hM : OC l Z EL nb [] y bytes maxL none rm (.ref a :: argsL).toArray h sf Q') (hsf : ∀ x ∈ sf, x < h.size ∧ Safe Z EL vm h x) (hy1 : y.name = "<init>") (w1 : (Jvm.Cond.methodLink own idx y).before a0 Z = true) (w2 : (Jvm.Cond.instanceMethod y).before a0 Z = true) (wz : (Jvm.Cond.initialized y.cls).before a0 Z = true) (wc : (Jvm.Cond.code y bytes maxL none).before a0 Z = true)
    (hy : y.cls ≠ "java/lang/invoke/MethodHandle" ∧ y.cls ≠ "java/lang/invoke/VarHandle") {na : Nat} (hna : argsL.length = na) (har : XT.arity y.desc = some na) (hsz : ls.size = ml) {stk : List Value} (hst : stk = argsL.reverse ++ .ref a :: st) (hd : decode code pc = .ok (.invokespecial idx, 3))
    {V : Nat} (hV : (st.map fun v => v.category).sum ≤ V) (hf : rm.frames + 1 ≤ R.frames) (hl : V + (maxL + 11) + rm.locals ≤ R.locals) (hc : ce + rm.cells ≤ R.cells) (hs : sl + rm.slots ≤ R.slots) :
    ∃ v T' L h' vm', OW p l e R s m args below meth c Z a0 EL nb own code ml ret nm vm' T' (locs ++ L) (ce + rm.cells) (sl + rm.slots) h' ∧ Q' v vm' h' ∧ CHr Z EL vm h vm' h' ∧ Lt p e below T (mkF m pc ls stk) T' (mkF m (pc + 3) ls (v.toList ++ st)) := by
  obtain ⟨v, vm₁, B, hW, X', hS, hgr, hP, st'⟩ := W.2.1.specialBackS W.1.1 (y := y) hy1 W.owns (mvT W.warm w1) (mvT W.warm w2) (mvT W.warm wc) hy (oBack W hM hsf wc wz hf hl) (g := mkF m pc ls stk) rfl (hsz.trans W.1.2.2.1.symm) (Steps.refl _) (a := a) (argsL := argsL) (rest := st) (XT.arity_len har hna) hst (by show 2 * 0 + _ ≤ _; omega) (oDec W hd) (fun _ _ => ⟨rfl, W.heap, hc, hs⟩)
  exact ⟨v, oCalled W hW X' hS hP st'⟩
/-- an instance method by its contract -/
theorem oCallV (W : OW p l e R s m args below meth c Z a0 EL nb own code ml ret nm vm T locs ce sl h) {idx : Nat} {x : MethodName} {C : String} {argsL : List Value} {a : Addr} (E : Exa Z h a C) (hM : OC l Z EL nb [] y bytes maxL ret' rm (.ref a :: argsL).toArray h sf Q') (hsf : ∀ x ∈ sf, x < h.size ∧ Safe Z EL vm h x) (w1 : (Jvm.Cond.methodLink own idx x).before a0 Z = true) (w2 : (Jvm.Cond.declares x).before a0 Z = true) (nf : NotFace (s.setVm vm) x) (w3 : (Jvm.Cond.selects C x y).before a0 Z = true) (w4 : (Jvm.Cond.instanceMethod y).before a0 Z = true) (wz : (Jvm.Cond.initialized y.cls).before a0 Z = true) (wc : (Jvm.Cond.code y bytes maxL ret').before a0 Z = true)
    (hy : x.cls ≠ "java/lang/invoke/MethodHandle" ∧ x.cls ≠ "java/lang/invoke/VarHandle") {na : Nat} (hna : argsL.length = na) (har : XT.arity x.desc = some na) (hsz : ls.size = ml) {stk : List Value} (hst : stk = argsL.reverse ++ .ref a :: st) (hd : decode code pc = .ok (.invokevirtual idx, 3))
    {V : Nat} (hV : (st.map fun v => v.category).sum ≤ V) (hf : rm.frames + 1 ≤ R.frames) (hl : V + (maxL + 11) + rm.locals ≤ R.locals) (hc : ce + rm.cells ≤ R.cells) (hs : sl + rm.slots ≤ R.slots) :
    ∃ v T' L h' vm', OW p l e R s m args below meth c Z a0 EL nb own code ml ret nm vm' T' (locs ++ L) (ce + rm.cells) (sl + rm.slots) h' ∧ Q' v vm' h' ∧ CHr Z EL vm h vm' h' ∧ Lt p e below T (mkF m pc ls stk) T' (mkF m (pc + 3) ls (v.toList ++ st)) := by
  obtain ⟨cB, kB, i1, i2, i3⟩ := isOf (s := s.setVm vm) (T := T) W.warm W.heap E
  obtain ⟨v, vm₁, B, hW, X', hS, hgr, hP, st'⟩ := W.2.1.virtualBackS W.1.1 (y := x) (z := y) W.owns (mvT W.warm w1) (mvT W.warm w2) nf (mvT W.warm w3) (mvT W.warm w4) hy (oBack W hM hsf wc wz hf hl) i1 i3 (g := mkF m pc ls stk) rfl (hsz.trans W.1.2.2.1.symm) (Steps.refl _) (argsL := argsL) (rest := st) (XT.arity_len har hna) hst (by show 2 * 0 + _ ≤ _; omega) (oDec W hd) (fun _ _ => ⟨rfl, W.heap, hc, hs⟩)
  exact ⟨v, oCalled W hW X' hS hP st'⟩
end Calls
end Jvm.OwnK
namespace Jvm.OwnK
open Jvm Sem ClassFile Op Lib Jvm.Stand Jvm.Free Jvm.LawKit Jvm.RoadKit Bundle
theorem n_lt {a b : Nat} (ha : a < 2147483648) (hb : b < 2147483648) : Int32.ofNat a < Int32.ofNat b ↔ a < b := by
  rw [Int32.lt_iff_toInt_lt, Int32.toInt_ofNat_small ha, Int32.toInt_ofNat_small hb]; omega
theorem n_nn {a : Nat} (ha : a < 2147483648) : ¬ Int32.ofNat a < 0 := by
  rw [Int32.lt_iff_toInt_lt, Int32.toInt_ofNat_small ha]
  show ¬ ((a : Int) < 0)
  omega
theorem n_cl {a : Nat} (ha : a < 2147483648) : (Int32.ofNat a).toNatClampNeg = a := by
  rw [← Int32.toNat_toInt, Int32.toInt_ofNat_small ha]; rfl
theorem n_in (a : Nat) : Int32.ofNat a + 1 = Int32.ofNat (a + 1) := by rw [Int32.ofNat_add]; rfl
theorem nar_b (x : Int32) : nar .byte x.toInt8.toInt32 = x.toInt8.toInt32 := by
  show x.toInt8.toInt32.toInt8.toInt32 = _
  rw [Int8.toInt8_toInt32]
theorem nar_c (x : Int32) : nar .char x.toUInt32.toUInt16.toUInt32.toInt32 = x.toUInt32.toUInt16.toUInt32.toInt32 := by
  show x.toUInt32.toUInt16.toUInt32.toInt32.toUInt32.toUInt16.toUInt32.toInt32 = _
  rw [UInt32.toUInt32_toInt32, UInt16.toUInt16_toUInt32]
theorem nar_z {x : Int32} (h : x = 0 ∨ x = 1) : nar .boolean x = x := by rcases h with rfl | rfl <;> rfl
/-- a char of 0 to 255 is what i2c makes of it -/
theorem i2c_255 (x : Int32) : (x &&& 255).toUInt32.toUInt16.toUInt32.toInt32 = x &&& 255 := i2c_mask x
theorem m255 (x : Int32) : ¬ (x &&& 255) < 0 ∧ ¬ (255 : Int32) < (x &&& 255) := by
  have h := c_and x 255 (by decide)
  constructor
  · rw [Int32.lt_iff_toInt_lt]; exact Int.not_lt.mpr h.1
  · rw [Int32.lt_iff_toInt_lt]; exact Int.not_lt.mpr h.2
theorem own_nar255 (x : Int32) : nar .char (x &&& 255) = x &&& 255 := i2c_mask x
theorem own_all1 {P : Int32 → Prop} {a : Int32} (ha : P a) : ∀ c ∈ [a], P c := fun c hc => by cases List.mem_singleton.mp hc; exact ha
theorem own_all2 {P : Int32 → Prop} {a b : Int32} (ha : P a) (hb : P b) : ∀ c ∈ [a, b], P c := fun c hc => by
  rcases List.mem_cons.mp hc with rfl | hc
  · exact ha
  · exact own_all1 hb c hc
theorem own_all3 {P : Int32 → Prop} {a b c : Int32} (ha : P a) (hb : P b) (hc : P c) : ∀ x ∈ [a, b, c], P x := fun x hx => by
  rcases List.mem_cons.mp hx with rfl | hx
  · exact ha
  · exact own_all2 hb hc x hx
theorem own_all4 {P : Int32 → Prop} {a b c d : Int32} (ha : P a) (hb : P b) (hc : P c) (hd : P d) : ∀ x ∈ [a, b, c, d], P x := fun x hx => by
  rcases List.mem_cons.mp hx with rfl | hx
  · exact ha
  · exact own_all3 hb hc hd x hx
theorem narC {c : Int32} (h : ¬ c < 0 ∧ ¬ (255 : Int32) < c) : nar .char c = c := by
  have e := c_i2c c
  simp only [Int32.lt_iff_toInt_lt] at h
  have k0 : (0 : Int32).toInt = 0 := rfl
  have k1 : (255 : Int32).toInt = 255 := rfl
  rw [k0, k1] at h
  apply Int32.toInt_inj.mp
  show (c.toUInt32.toUInt16.toUInt32.toInt32).toInt = c.toInt
  omega
theorem shr0 (x : Int32) : x >>> ((0 : Int32) &&& 31) = x := by
  apply Int32.toInt_inj.mp
  rw [c_ishr x 0 0 (by decide)]
  simp
theorem own_len0 {cs : List Int32} (hl : cs.length ≤ 4000) (h : Int32.ofNat cs.length = 0) : cs = [] := by
  have := congrArg Int32.toNatClampNeg h
  rw [n_cl (by omega)] at this
  exact List.length_eq_zero_iff.mp (by simpa using this)
theorem own_ltn {i : Int32} (hi : ¬ i < 0) {n : Nat} (hl : n ≤ 4000) (h : i.toNatClampNeg < n) : i < Int32.ofNat n := by
  have e := (back32 hi).1
  rw [← e]
  exact (n_lt (by omega) (by omega)).mpr h
/-- a byte read back as a char -/
theorem own_lo8c {c : Int32} (h : ¬ c < 0 ∧ ¬ (255 : Int32) < c) : (c.toInt8.toInt32 &&& (255 : Int32)).toUInt32.toUInt16.toUInt32.toInt32 = c := by
  rw [i2c_mask]
  have e := c_i2b c
  have m := c_mask c.toInt8.toInt32 255 8 (by decide) (by decide)
  simp only [Int32.lt_iff_toInt_lt] at h
  have k0 : (0 : Int32).toInt = 0 := rfl
  have k1 : (255 : Int32).toInt = 255 := rfl
  rw [k0, k1] at h
  apply Int32.toInt_inj.mp
  rw [m]
  have k2 : ((2 ^ 8 : Nat) : Int) = 256 := by decide
  rw [k2]
  omega
theorem refNarA {v : Value} (h : v.isRef = true) (t : FieldType) : narrow (.array t) v = v := by cases v <;> simp_all [Value.isRef] <;> rfl
theorem refFitsA {v : Value} (h : v.isRef = true) (t : FieldType) : fits (.array t) v = true := by cases v <;> simp_all [Value.isRef] <;> rfl
theorem refNar {v : Value} (h : v.isRef = true) (C : String) : narrow (.object C) v = v := by cases v <;> simp_all [Value.isRef] <;> rfl
theorem refFits {v : Value} (h : v.isRef = true) (C : String) : fits (.object C) v = true := by cases v <;> simp_all [Value.isRef] <;> rfl
theorem safe0 {Z : State} {vm : Vm} {h : Heap} {x : Addr} : Safe Z [] vm h x := fun ⟨p, hp, _⟩ => by cases hp
theorem refCat {v : Value} (h : v.isRef = true) : v.category = 1 := by cases v <;> simp_all [Value.isRef, Value.category]
theorem own_fold : ∀ (vs : List Value) (acc : Array Slot), (∀ v ∈ vs, v.category = 1) → vs.foldl (fun acc v => if v.category = 2 then (acc.push (.val v)).push .second else acc.push (.val v)) acc = acc ++ (vs.map Slot.val).toArray
  | [], acc, _ => by simp
  | v :: vs, acc, h => by
    have hv : ¬ v.category = 2 := by rw [h v (List.mem_cons_self ..)]; decide
    rw [List.foldl_cons, if_neg hv, own_fold vs _ (fun w hw => h w (List.mem_cons_of_mem _ hw))]
    simp
theorem own_ef {m : MethodId} {vs : List Value} {n : Nat} (h : ∀ v ∈ vs, v.category = 1) : entryFrame m vs.toArray n = mkF m 0 ((vs.map Slot.val).toArray ++ Array.replicate (n - vs.length) .unset) [] := by
  have e := own_fold vs #[] h
  simp only [entryFrame, mkF, argsToLocals, List.foldl_toArray', List.size_toArray]
  rw [e]
  simp
theorem own_isR (a : Addr) : (Value.ref a).isRef = true := rfl
theorem own_isN : Value.null.isRef = true := rfl
theorem own_caR (a : Addr) : (Value.ref a).category = 1 := rfl
theorem own_caN : Value.null.category = 1 := rfl
theorem own_caI (z : Int32) : (Value.int z).category = 1 := rfl
end Jvm.OwnK
namespace Jvm.OwnK
open Jvm Sem ClassFile Op Lib Jvm.Stand Jvm.Free Jvm.LawKit Jvm.RoadKit Bundle
section Start
variable {args : Array Value} {s : State} {a b t u : Term}
/-- what an equation of the sheet says of its first side -/
theorem eqv {y : Value} (h : (Jvm.Cond.eq a b).value args s none s [] = some true) (hb : b.eval args s none [] s = some y) (hy : y.isRef = true ∨ ∃ n, y = .int n) : a.eval args s none [] s = some y := by
  obtain ⟨x, y', h1, h2, -, -⟩ := cmp_v (Or.inl h)
  cases h2.symm.trans hb
  rw [h1]
  rcases hy with hy | ⟨n, rfl⟩
  · cases x <;> cases y <;> simp_all [Cond.value, Value.isRef]
  · cases x <;> simp_all [Cond.value]
/-- an array that stood at the start, its length and its components told by the sheet -/
theorem arrStart (hf : Fit s) {va : Addr} {ty : FieldType} (ht : t.eval args s none [] s = some (.ref va)) (h1 : (Jvm.Cond.arrayOf t ty).value args s none s [] = some true) {n : Nat} (hn : n < 2147483648) (h2 : (Jvm.Cond.eq (.length t) (.int (Int32.ofNat n))).value args s none s [] = some true)
    {vs : List Value} (hl : vs.length = n) (H : ∀ c, s.heap[va]? = some c → HasL c 0 vs) : ∃ k, OA s s.heap va k ty vs := by
  obtain ⟨c, A⟩ := Arr.start ht h1
  have hlen : (Term.length t).eval args s none [] s = some (.int (Int32.ofNat n)) := eqv h2 rfl (Or.inr ⟨_, rfl⟩)
  obtain ⟨sd, SA, hev, harrAt, -⟩ := Term.length_spec hlen
  have e0 : sd = va := by have := hev.symm.trans ht; injection this with q; injection q
  subst e0
  have h31 := SBG.length_lt hev harrAt hlen
  have hA : s.arrayAt? sd = some c := A.fin (U := s) (Vm.Alike.refl _)
  cases harrAt.symm.trans hA
  have e : (Term.length t).eval args s none [] s = some (.int c.slots.size.toInt32) := len_f hev hA h31
  have e2 : c.slots.size.toInt32 = Int32.ofNat n := by have := e.symm.trans hlen; injection this with q; injection q
  exact ⟨c.cls, Int32.ofNat n, .int 0, Arv.start hf A h31 e2 (n_nn hn) (by rw [n_cl hn, hl]) (H c A.1), by rw [n_cl hn, hl]⟩
end Start
end Jvm.OwnK
namespace Jvm.OwnK
open Jvm Sem ClassFile Op Lib Jvm.Stand Jvm.Free Jvm.LawKit Jvm.RoadKit Bundle
section Dig
theorem own_cons {P : Int32 → Prop} {a : Int32} {l : List Int32} (ha : P a) (hl : ∀ c ∈ l, P c) : ∀ c ∈ a :: l, P c := fun c hc => by
  rcases List.mem_cons.mp hc with rfl | hc
  · exact ha
  · exact hl c hc
theorem own_nil {P : Int32 → Prop} : ∀ c ∈ ([] : List Int32), P c := fun _ h => nomatch h
def Dig (c : Int32) : Prop := ¬ c < 48 ∧ ¬ (57 : Int32) < c
theorem Dig.int {c : Int32} (h : Dig c) : 48 ≤ c.toInt ∧ c.toInt ≤ 57 := by
  have h1 := h.1
  have h2 := h.2
  rw [Int32.lt_iff_toInt_lt] at h1 h2
  have k0 : (48 : Int32).toInt = 48 := rfl
  have k1 : (57 : Int32).toInt = 57 := rfl
  rw [k0] at h1; rw [k1] at h2
  omega
theorem Dig.of {c : Int32} (h : 48 ≤ c.toInt ∧ c.toInt ≤ 57) : Dig c := by
  constructor
  · rw [Int32.lt_iff_toInt_lt]; have k0 : (48 : Int32).toInt = 48 := rfl
    rw [k0]; omega
  · rw [Int32.lt_iff_toInt_lt]; have k0 : (57 : Int32).toInt = 57 := rfl
    rw [k0]; omega
theorem Dig.c255 {c : Int32} (h : Dig c) : ¬ c < 0 ∧ ¬ (255 : Int32) < c := by
  have := h.int
  have k0 : (0 : Int32).toInt = 0 := rfl
  have k1 : (255 : Int32).toInt = 255 := rfl
  constructor
  · rw [Int32.lt_iff_toInt_lt, k0]; omega
  · rw [Int32.lt_iff_toInt_lt, k1]; omega
theorem Dig.cases {c : Int32} (h : Dig c) : c = 48 ∨ c = 49 ∨ c = 50 ∨ c = 51 ∨ c = 52 ∨ c = 53 ∨ c = 54 ∨ c = 55 ∨ c = 56 ∨ c = 57 := by
  have := h.int
  have e : ∀ k : Int32, c.toInt = k.toInt → c = k := fun k q => Int32.toInt_inj.mp q
  have : c.toInt = 48 ∨ c.toInt = 49 ∨ c.toInt = 50 ∨ c.toInt = 51 ∨ c.toInt = 52 ∨ c.toInt = 53 ∨ c.toInt = 54 ∨ c.toInt = 55 ∨ c.toInt = 56 ∨ c.toInt = 57 := by omega
  rcases this with q | q | q | q | q | q | q | q | q | q
  · exact Or.inl (e 48 q)
  · exact Or.inr (Or.inl (e 49 q))
  · exact Or.inr (Or.inr (Or.inl (e 50 q)))
  · exact Or.inr (Or.inr (Or.inr (Or.inl (e 51 q))))
  · exact Or.inr (Or.inr (Or.inr (Or.inr (Or.inl (e 52 q)))))
  · exact Or.inr (Or.inr (Or.inr (Or.inr (Or.inr (Or.inl (e 53 q))))))
  · exact Or.inr (Or.inr (Or.inr (Or.inr (Or.inr (Or.inr (Or.inl (e 54 q)))))))
  · exact Or.inr (Or.inr (Or.inr (Or.inr (Or.inr (Or.inr (Or.inr (Or.inl (e 55 q))))))))
  · exact Or.inr (Or.inr (Or.inr (Or.inr (Or.inr (Or.inr (Or.inr (Or.inr (Or.inl (e 56 q)))))))))
  · exact Or.inr (Or.inr (Or.inr (Or.inr (Or.inr (Or.inr (Or.inr (Or.inr (Or.inr (e 57 q)))))))))
theorem Dig.shr {c : Int32} (h : Dig c) : XT.ushr c 8 = 0 := by
  rcases h.cases with rfl | rfl | rfl | rfl | rfl | rfl | rfl | rfl | rfl | rfl <;> rfl
theorem Dig.d {c : Int32} (h : Dig c) : ¬ (c - 48) < 0 ∧ (c - 48) < 10 := by
  rcases h.cases with rfl | rfl | rfl | rfl | rfl | rfl | rfl | rfl | rfl | rfl <;> decide
theorem Dig.sub {c : Int32} (h : Dig c) : (c - 48).toInt = c.toInt - 48 := by
  have e := c_isub c 48
  have := h.int
  have k0 : (48 : Int32).toInt = 48 := rfl
  rw [k0] at e
  have := (c - 48).le_toInt
  have := (c - 48).toInt_lt
  omega
theorem Dig.nat {c : Int32} (h : Dig c) : (c.toNatClampNeg : Int) = c.toInt := by
  have := h.int
  rw [← Int32.toNat_toInt]; omega
/-- the value of decimal digits behind a -/
def dv : List Int32 → Nat → Nat
  | [], a => a
  | c :: cs, a => dv cs (10 * a + (c.toNatClampNeg - 48))
theorem dv_le : ∀ (cs : List Int32) (a : Nat), a ≤ dv cs a
  | [], a => Nat.le_refl _
  | c :: cs, a => Nat.le_trans (by omega) (dv_le cs (10 * a + (c.toNatClampNeg - 48)))
/-- one turn of parseInt's loop, in numbers -/
theorem dv_turn {acc c : Int32} {a N : Nat} {rest : List Int32} (hc : Dig c) (hN : dv (c :: rest) a = N) (hb : N < 2147483648) (ha : acc.toInt = -(a : Int)) :
    ¬ acc < (-2147483647 : Int32) / 10 ∧ ¬ acc * 10 < (-2147483647 : Int32) + (c - 48) ∧ (acc * 10 - (c - 48)).toInt = -((10 * a + (c.toNatClampNeg - 48) : Nat) : Int) := by
  have h1 := dv_le rest (10 * a + (c.toNatClampNeg - 48))
  have h2 : dv rest (10 * a + (c.toNatClampNeg - 48)) = N := hN
  have h3 := hc.sub
  have h4 := hc.int
  have h5 := hc.nat
  have m := c_imul acc 10
  have k10 : (10 : Int32).toInt = 10 := rfl
  rw [k10, ha] at m
  have m1 := (acc * 10).le_toInt
  have m2 := (acc * 10).toInt_lt
  have hm : (acc * 10).toInt = -(10 * (a : Int)) := by omega
  have s := c_isub (acc * 10) (c - 48)
  rw [hm, h3] at s
  have s1 := (acc * 10 - (c - 48)).le_toInt
  have s2 := (acc * 10 - (c - 48)).toInt_lt
  have t := c_iadd (-2147483647) (c - 48)
  have kl : (-2147483647 : Int32).toInt = -2147483647 := rfl
  rw [kl, h3] at t
  have t1 := ((-2147483647 : Int32) + (c - 48)).le_toInt
  have t2 := ((-2147483647 : Int32) + (c - 48)).toInt_lt
  refine ⟨?_, ?_, ?_⟩
  · rw [Int32.lt_iff_toInt_lt, ha]
    have : ((-2147483647 : Int32) / 10).toInt = -214748364 := rfl
    rw [this]; omega
  · rw [Int32.lt_iff_toInt_lt, hm]; omega
  · omega
theorem dv_end {acc : Int32} {a : Nat} (hb : a < 2147483648) (ha : acc.toInt = -(a : Int)) : -acc = Int32.ofNat a := by
  apply Int32.toInt_inj.mp
  rw [Int32.toInt_ofNat_small hb]
  have e := c_ineg acc
  rw [ha] at e
  have := (-acc).le_toInt
  have := (-acc).toInt_lt
  omega
theorem own_sub0 (x : Int32) : x - 0 = x := by
  apply Int32.toInt_inj.mp
  have e := c_isub x 0
  have k0 : (0 : Int32).toInt = 0 := rfl
  rw [k0] at e
  have := (x - 0).le_toInt
  have := (x - 0).toInt_lt
  have := x.le_toInt
  have := x.toInt_lt
  omega
/-- the decimal digit of n at p, as a char -/
def dg (n p : Int32) : Int32 := 48 + n / p % 10
theorem dg_int {n p : Int32} {P : Nat} (hn : ¬ n < 0) (hp : p.toInt = P) (h1 : p ≠ -1) (hP : 0 < P) : (dg n p).toInt = 48 + n.toInt / P % 10 ∧ 0 ≤ n.toInt := by
  have hn0 : 0 ≤ n.toInt := by rw [Int32.lt_iff_toInt_lt] at hn; exact Int.not_lt.mp hn
  have e1 := (c_idiv n p P hp h1).1 hn0
  have q0 : 0 ≤ (n / p).toInt := by rw [e1]; exact Int.ediv_nonneg hn0 (by omega)
  have e2 := (c_irem (n / p) 10 10 rfl).1 q0
  have e3 := c_iadd 48 (n / p % 10)
  have k0 : (48 : Int32).toInt = 48 := rfl
  rw [k0, e2, e1] at e3
  have := (dg n p).le_toInt
  have := (dg n p).toInt_lt
  refine ⟨?_, hn0⟩
  have e4 : ((dg n p).toInt - (48 + n.toInt / P % 10)) % 4294967296 = 0 := e3
  omega
theorem dg_dig {n p : Int32} {P : Nat} (hn : ¬ n < 0) (hp : p.toInt = P) (h1 : p ≠ -1) (hP : 0 < P) : Dig (dg n p) := by
  have e := (dg_int hn hp h1 hP).1
  apply Dig.of; omega
theorem dg_i2c {n p : Int32} {P : Nat} (hn : ¬ n < 0) (hp : p.toInt = P) (h1 : p ≠ -1) (hP : 0 < P) : (48 + n / p % 10).toUInt32.toUInt16.toUInt32.toInt32 = dg n p := by
  have d := (dg_dig hn hp h1 hP).int
  have e := c_i2c (dg n p)
  apply Int32.toInt_inj.mp
  show (dg n p).toUInt32.toUInt16.toUInt32.toInt32.toInt = _
  omega
theorem dv_dg {n p : Int32} (P : Nat) (hn : ¬ n < 0) (hp : p.toInt = P) (h1 : p ≠ -1) (hP : 0 < P) (rest : List Int32) : dv (dg n p :: rest) (n.toNatClampNeg / (P * 10)) = dv rest (n.toNatClampNeg / P) := by
  obtain ⟨e, hn0⟩ := dg_int hn hp h1 hP
  have d := dg_dig hn hp h1 hP
  have d1 := d.nat
  have en : (n.toNatClampNeg : Int) = n.toInt := by rw [← Int32.toNat_toInt]; omega
  show dv rest _ = dv rest _
  have k : (n.toInt / (P : Int)) = ((n.toNatClampNeg / P : Nat) : Int) := by rw [← en]; rfl
  rw [k] at e
  rw [← Nat.div_div_eq_div_mul]
  congr 1
  omega
theorem dg_lead {n p : Int32} {P : Nat} (hn : ¬ n < 0) (hp : p.toInt = P) (h1 : p ≠ -1) (hP : 0 < P) (lo : ¬ n < p) (hi : n.toInt < 10 * (P : Int)) : ¬ dg n p = 48 := by
  obtain ⟨e, hn0⟩ := dg_int hn hp h1 hP
  intro q
  rw [q] at e
  have k0 : (48 : Int32).toInt = 48 := rfl
  rw [k0] at e
  rw [Int32.lt_iff_toInt_lt, hp] at lo
  have a1 : 1 ≤ n.toInt / (P : Int) := (Int.le_ediv_iff_mul_le (by omega)).mpr (by omega)
  have a2 : n.toInt / (P : Int) < 10 := Int.ediv_lt_of_lt_mul (by omega) (by omega)
  omega
/-- the plain decimal form of n -/
def Good (cs : List Int32) (n : Int32) : Prop := (0 < cs.length ∧ cs.length ≤ 10) ∧ (∀ c ∈ cs, Dig c) ∧ (∀ c, cs[0]? = some c → 1 < cs.length → ¬ c = 48) ∧ dv cs 0 = n.toNatClampNeg
variable {args : Array Value} {s : State} {t : Term}
theorem own_isref (h : (Jvm.Cond.isRef t).value args s none s [] = some true) : ∃ v, t.eval args s none [] s = some v ∧ v.isRef = true := by
  simp only [Jvm.Cond.value] at h
  cases q : t.eval args s none [] s with
  | none => simp [q] at h
  | some v => exact ⟨v, rfl, by cases v <;> simp_all [Value.isRef]⟩
theorem hasL_self {c : Cell} : ∀ (r : List Value) (i : Nat), c.slots.toList.drop i = r → HasL c i r
  | [], _, _ => trivial
  | v :: r, i, h => by
    refine ⟨?_, hasL_self r (i + 1) ?_⟩
    · have := congrArg (fun l => l[0]?) h
      simpa [List.getElem?_drop] using this
    · have := congrArg List.tail h
      simpa [List.tail_drop] using this
/-- an array that stood at the start, its length told; what the sheet says of a component -/
theorem arrStart2 (hf : Fit s) {va : Addr} {ty : FieldType} (ht : t.eval args s none [] s = some (.ref va)) (h1 : (Jvm.Cond.arrayOf t ty).value args s none s [] = some true) {n : Nat} (hn : n < 2147483648) (h2 : (Jvm.Cond.eq (.length t) (.int (Int32.ofNat n))).value args s none s [] = some true) :
    ∃ k vs, OA s s.heap va k ty vs ∧ vs.length = n ∧ ∀ (j : Int32) v, (Term.elem t (.int j)).eval args s none [] s = some v → vs[j.toNatClampNeg]? = some v := by
  obtain ⟨c, A⟩ := Arr.start ht h1
  have hlen : (Term.length t).eval args s none [] s = some (.int (Int32.ofNat n)) := eqv h2 rfl (Or.inr ⟨_, rfl⟩)
  obtain ⟨sd, SA, hev, harrAt, -⟩ := Term.length_spec hlen
  have e0 : sd = va := by have := hev.symm.trans ht; injection this with q; injection q
  subst e0
  have h31 := SBG.length_lt hev harrAt hlen
  have hA : s.arrayAt? sd = some c := A.fin (U := s) (Vm.Alike.refl _)
  cases harrAt.symm.trans hA
  have e : (Term.length t).eval args s none [] s = some (.int c.slots.size.toInt32) := len_f hev hA h31
  have e2 : c.slots.size.toInt32 = Int32.ofNat n := by have := e.symm.trans hlen; injection this with q; injection q
  have e3 : c.slots.size = n := by
    have := congrArg Int32.toNatClampNeg e2
    rw [n_cl hn] at this
    rw [← this]; exact (n_cl h31).symm
  obtain ⟨k, O⟩ := arrStart hf ht h1 hn h2 (vs := c.slots.toList) (by simpa using e3) (fun c' hc' => by
    have := hc'.symm.trans A.1
    cases this
    exact hasL_self _ 0 (by simp))
  refine ⟨k, _, O, by simpa using e3, fun j v hv => ?_⟩
  obtain ⟨a, j', cell, q1, q2, q3, -, q5⟩ := Term.elem_spec hv
  cases q1.symm.trans ht
  cases q3.symm.trans hA
  have : j' = j := by have q : some (Value.int j) = some (Value.int j') := q2; injection q with q; injection q with q; exact q.symm
  subst this
  simpa using q5
end Dig
end Jvm.OwnK
namespace Jvm.OwnK
open Jvm Sem ClassFile Op Lib Jvm.Stand Jvm.Free Jvm.LawKit Jvm.RoadKit Bundle
section Lists
variable {p : Program} {l : Launch} {e : Env} {R : Room} {s : State} {m : MethodId} {args : Array Value} {below : List Frame} {meth : Method} {c : Code} {Z : State} {a0 : Array Value} {EL : List (String × Nat)} {nb : Bool} {own : String} {code : ByteArray} {ml : Nat} {ret : Option FieldType} {nm : String} {vm : Vm} {T : State} {locs : List Loc} {ce sl : Nat} {h : Heap} {pc : Nat} {ls : Array Slot} {st : List Value}
  {y : MethodName} {bytes : ByteArray} {maxL : Nat} {ret' : Option FieldType} {rm : Room} {as' : Array Value} {sf : List Addr} {Q' : Option Value → Vm → Heap → Prop}
/-- a new array of references -/
theorem oNewR (W : OW p l e R s m args below meth c Z a0 EL nb own code ml ret nm vm T locs ce sl h) {idx : Nat} {C : String} (w1 : (Jvm.Cond.classLink own idx C).before a0 Z = true) (w2 : (Jvm.Cond.arrayOver (.object C)).before a0 Z = true) (hd : decode code pc = .ok (.anewarray idx, 3)) {n : Int32} (hn : ¬ n < 0) {cap : Nat} (hcap : n.toNatClampNeg ≤ cap) (hb : cap * 8 ≤ 536870912) (hc : ce + 1 ≤ R.cells) (hl : sl + cap ≤ R.slots) :
    ∃ T' h' a k, OW p l e R s m args below meth c Z a0 EL nb own code ml ret nm vm T' locs (ce + 1) (sl + cap) h' ∧ h.size ≤ a ∧ Ext h h' ∧ OA Z h' a k (.object C) (List.replicate n.toNatClampNeg .null) ∧ Ovr Z k C ∧ CHr Z EL vm h vm h' ∧
      Lt p e below T (mkF m pc ls (.int n :: st)) T' (mkF m (pc + 3) ls (.ref a :: st)) := by
  obtain ⟨T', h', cA, X', eT, E, A, O, st'⟩ := RoadKit.newR W.2.1 W.1.1 W.warm W.owns w1 w2 W.heap (g := mkF m pc ls (.int n :: st)) rfl (oDec W hd) rfl hn hcap hb hc hl
  have hC : CHr Z EL vm h vm h' := CHr.ext E W.chv
  have F := (Arv.new A hn).pad (vs' := [] ++ List.replicate n.toNatClampNeg (defaultValue (.object C))) (pad_rep [] _ _)
  exact ⟨T', h', h.size, cA, W.step X' eT hC W.fr (exT W.ext E), Nat.le_refl _, E, ⟨n, _, F, by simp⟩, O, hC, st'⟩
/-- a store into such an array -/
theorem oPutR (W : OW p l e R s m args below meth c Z a0 EL nb own code ml ret nm vm T locs ce sl h) {a x : Addr} {k : ClassId} {C : String} {vs : List Value} (A : OA Z h a k (.object C) vs) (O : Ovr Z k C) (I : Ins Z h x C true) {j : Int32} (hj : ¬ j < 0) {i : Nat} (hji : j.toNatClampNeg = i) (hlt : i < vs.length) (hfr : Z.heap.size ≤ a) (hd : decode code pc = .ok (.aastore, 1)) :
    ∃ T' h', OW p l e R s m args below meth c Z a0 EL nb own code ml ret nm vm T' (locs ++ [⟨a, i⟩]) ce sl h' ∧ Wr h h' a i (.ref x) ∧ OA Z h' a k (.object C) (vs.set i (.ref x)) ∧ CHr Z EL vm h vm h' ∧ Lt p e below T (mkF m pc ls (.ref x :: .int j :: .ref a :: st)) T' (mkF m (pc + 1) ls st) := by
  have hS : Safe Z EL vm h a := A.safe W.warm.alike (by simp)
  obtain ⟨n, d, ⟨cl, A1, hk, hs, hn, H, G⟩, r⟩ := A
  subst hji
  have hin : ¬ (j < 0 ∨ cl.slots.size ≤ j.toNatClampNeg) := fun q => q.elim hj (fun q => by rw [hs, r] at q; omega)
  obtain ⟨T', h', X', eT, Wr', st'⟩ := RoadKit.stR W.2.1 W.1.1 W.warm W.heap A1 hin rfl (Sto.ofV A1 hk O I) (g := mkF m pc ls (.ref x :: .int j :: .ref a :: st)) rfl rfl (oDec W hd)
  have hC : CHr Z EL vm h vm h' := CHr.wr Wr' hS W.chv
  exact ⟨T', h', W.step X' eT hC (frS W.fr hfr) (exW W.ext Wr' hfr), Wr', ⟨n, d, Arv.set A1 hk hs hn H G rfl Wr' _ rfl hlt, by simpa using r⟩, hC, st'⟩
/-- a call through an interface -/
theorem oCallI (W : OW p l e R s m args below meth c Z a0 EL nb own code ml ret nm vm T locs ce sl h) {idx cnt : Nat} {x : MethodName} {C : String} {argsL : List Value} {a : Addr} (E : Exa Z h a C) (hM : OC l Z EL nb [] y bytes maxL ret' rm (.ref a :: argsL).toArray h sf Q') (hsf : ∀ x ∈ sf, x < h.size ∧ Safe Z EL vm h x) (w1 : (Jvm.Cond.methodLink own idx x).before a0 Z = true) (w2 : (Jvm.Cond.declares x).before a0 Z = true) (wf : (Jvm.Cond.interfaceMethod x.cls x.cls x.name x.desc).before a0 Z = true) (kf : ((Jvm.Cond.interfaceMethod x.cls x.cls x.name x.desc).onTables && (Jvm.Cond.interfaceMethod x.cls x.cls x.name x.desc).keepsFace) = true) (w3 : (Jvm.Cond.selects C x y).before a0 Z = true) (w4 : (Jvm.Cond.instanceMethod y).before a0 Z = true) (wp : (Jvm.Cond.publicMethod y).before a0 Z = true) (wu : (Jvm.Cond.unhidden C x.name x.desc).before a0 Z = true) (wk : (Jvm.Cond.castable C x.cls).before a0 Z = true) (wz : (Jvm.Cond.initialized y.cls).before a0 Z = true) (wc : (Jvm.Cond.code y bytes maxL ret').before a0 Z = true)
    (hy : x.cls ≠ "java/lang/invoke/MethodHandle" ∧ x.cls ≠ "java/lang/invoke/VarHandle") {na : Nat} (hna : argsL.length = na) (har : XT.arity x.desc = some na) (hsz : ls.size = ml) {stk : List Value} (hst : stk = argsL.reverse ++ .ref a :: st) (hd : decode code pc = .ok (.invokeinterface idx cnt, 5))
    {V : Nat} (hV : (st.map fun v => v.category).sum ≤ V) (hf : rm.frames + 1 ≤ R.frames) (hl : V + (maxL + 11) + rm.locals ≤ R.locals) (hc : ce + rm.cells ≤ R.cells) (hs : sl + rm.slots ≤ R.slots) :
    ∃ v T' L h' vm', OW p l e R s m args below meth c Z a0 EL nb own code ml ret nm vm' T' (locs ++ L) (ce + rm.cells) (sl + rm.slots) h' ∧ Q' v vm' h' ∧ CHr Z EL vm h vm' h' ∧ Lt p e below T (mkF m pc ls stk) T' (mkF m (pc + 5) ls (v.toList ++ st)) := by
  obtain ⟨cB, kB, i1, i2, i3⟩ := isOf (s := s.setVm vm) (T := T) W.warm W.heap E
  obtain ⟨v, vm₁, B, hW, X', hS, hgr, hP, st'⟩ := W.2.1.interfaceBackS W.1.1 (xi := x) (y := y) W.owns (mvT W.warm w1) (mvT W.warm w2) (mvT W.warm wf kf) (mvT W.warm w3) (mvT W.warm w4) (mvT W.warm wp) (mvT W.warm wu) (mvT W.warm wk) hy (oBack W hM hsf wc wz hf hl) i1 i2 i3 (g := mkF m pc ls stk) rfl (hsz.trans W.1.2.2.1.symm) (Steps.refl _) (argsL := argsL) (rest := st) (XT.arity_len har hna) hst (by show 2 * 0 + _ ≤ _; omega) (oDec W hd) (fun _ _ => ⟨rfl, W.heap, hc, hs⟩)
  exact ⟨v, oCalled W hW X' hS hP st'⟩
/-- an instance method with a body is declared -/
theorem own_decl {y : MethodName} (wi : (Jvm.Cond.instanceMethod y).before a0 Z = true) (wc : (Jvm.Cond.code y bytes maxL ret').before a0 Z = true) : (Jvm.Cond.declares y).before a0 Z = true := by
  obtain ⟨mk, me, hn, hm, hst, -⟩ := Cond.instanceMethod_spec wi
  obtain ⟨me', c', h1, -, -, -, -, -, -, h8⟩ := Cond.code_spec hn wc
  cases hm.symm.trans h1
  simp [Jvm.Cond.before, Jvm.Cond.holds, Jvm.Cond.value, hn, hm, hst, h8]
end Lists
end Jvm.OwnK
namespace Jvm.Pilot.@@N@@
open Jvm Jvm.ClassFile Sem Op Lib Jvm.Free Jvm.Stand Jvm.LawKit Jvm.RoadKit Bundle Jvm.Pilot.@@N@@.Jvm.D Jvm.OwnK
section OwnStr
abbrev mI1 : MethodName := ⟨"java/lang/String", "<init>", "([C)V"⟩
abbrev mI4 : MethodName := ⟨"java/lang/String", "<init>", "([CIILjava/lang/Void;)V"⟩
abbrev mC3 : MethodName := ⟨"java/lang/StringUTF16", "compress", "([CII)[B"⟩
abbrev mC5 : MethodName := ⟨"java/lang/StringUTF16", "compress", "([CI[BII)I"⟩
abbrev mCL : MethodName := ⟨"java/lang/StringUTF16", "coderFromArrayLen", "([BI)B"⟩
/-- the words on String's constructor -/
def sW : List Jvm.Cond := [.methodLink "java/lang/String" 27 mI4, .instanceMethod mI4, .code mI4 jdk_42_method_149_code 6 none, .methodLink "java/lang/String" 1 ⟨"java/lang/Object", "<init>", "()V"⟩, .instanceMethod ⟨"java/lang/Object", "<init>", "()V"⟩, .code ⟨"java/lang/Object", "<init>", "()V"⟩ object_method_1_code 1 none,
  .fieldLink "java/lang/String" 38 "java/lang/String" "COMPACT_STRINGS" "Z", .methodLink "java/lang/String" 177 mC3, .static mC3, .initialized "java/lang/StringUTF16", .code mC3 jdk_52_method_16_code 6 (some (.array .byte)), .arrayClass .byte,
  .methodLink "java/lang/StringUTF16" 115 mC5, .static mC5, .code mC5 jdk_52_method_21_code 7 (some .int), .methodLink "java/lang/String" 47 mCL, .static mCL, .code mCL jdk_52_method_15_code 2 (some .byte),
  .fieldLink "java/lang/String" 15 "java/lang/String" "coder" "B", .laysFinal "java/lang/String" "java/lang/String" "coder" "B", .fieldLink "java/lang/String" 9 "java/lang/String" "value" "[B", .laysFinal "java/lang/String" "java/lang/String" "value" "[B", .initialized "java/lang/String", .instantiable "java/lang/String" 4, .code mI1 jdk_42_method_3_code 2 none]
theorem sW_in : ∀ d ∈ sW, d ∈ tables_1 := by decide +kernel
/-- a String of Latin-1 chars -/
def Str (Z : State) (h : Heap) (x : Addr) (cs : List Int32) : Prop := ∃ t k, Exa Z h x "java/lang/String" ∧ Fld Z h x "java/lang/String" "coder" "B" (.int 0) ∧ Fld Z h x "java/lang/String" "value" "[B" (.ref t) ∧ OA Z h t k .byte (cs.map fun c => Value.int c.toInt8.toInt32) ∧ ∀ c ∈ cs, ¬ c < 0 ∧ ¬ (255 : Int32) < c
theorem Str.ext {Z : State} {h h' : Heap} {x : Addr} {cs : List Int32} (F : Str Z h x cs) (E : Ext h h') : Str Z h' x cs := by
  obtain ⟨t, k, h1, h2, h3, h4, h5⟩ := F
  exact ⟨t, k, h1.ext E, h2.ext E, h3.ext E, h4.ext E, h5⟩
theorem Str.exa {Z : State} {h : Heap} {x : Addr} {cs : List Int32} (F : Str Z h x cs) : Exa Z h x "java/lang/String" := by obtain ⟨t, k, h1, -⟩ := F; exact h1
variable {l : Launch} {Z : State} {a0 : Array Value} {EL : List (String × Nat)} {nb : Bool} {h0 : Heap}
/-- what every String call leans on -/
def SC (Z : State) (a0 : Array Value) (EL : List (String × Nat)) : Prop := (∀ d ∈ sW, d.before a0 Z = true) ∧ EW Z a0 EL ∧ ∃ z, Sta Z Z.heap "java/lang/String" "COMPACT_STRINGS" "Z" (.int z) ∧ ¬ z = 0
abbrev rm0 : Room := { frames := 0, cells := 0, slots := 0, locals := 0 }
theorem k_CL (hE : EW Z a0 EL) {t : Addr} {k : ClassId} {vs : List Value} {n : Int32} (A : OA Z h0 t k .byte vs) :
    OC l Z EL nb [] mCL jdk_52_method_15_code 2 (some .byte) rm0 #[.ref t, .int n] h0 [] (fun v _ h => v = some (.int (XT.ushr (n - vs.length.toInt32) (31 : Int32)).toInt8.toInt32) ∧ h = h0) := by
  refine oEnter (by decide +kernel) hE ?_
  intro p e s m below meth c T0 W0 _
  refine oEq (g' := mkF m 0 #[.val (.ref t), .val (.int n)] []) (by first | (simp [entryFrame, mkF, argsToLocals, Value.category]; done) | rfl) ?_
  refine oGo W0 [.iload_n 1, .aload_n 0] (by decide +kernel) (ls' := #[.val (.ref t), .val (.int n)]) (st' := [.ref t, .int n]) rfl rfl (pc' := 2) rfl ?_
  refine oLen W0 A (by decide +kernel) ?_
  refine oGo W0 [.isub, .bipush 31, .iushr, .i2b] (by decide +kernel) (ls' := #[.val (.ref t), .val (.int n)]) (st' := [.int (XT.ushr (n - vs.length.toInt32) (31 : Int32)).toInt8.toInt32]) rfl rfl (pc' := 8) rfl ?_
  exact oRetN (by simp) W0 (nar_b _) (by decide +kernel) (lb rfl) (lb rfl) (fun _ _ => ⟨rfl, rfl⟩)
def bigAt : List Int32 → Nat
  | [] => 0
  | c :: cs => if (255 : Int32) < c then 0 else bigAt cs + 1
theorem bigAt_all : ∀ {cs : List Int32}, (∀ c ∈ cs, ¬ (255 : Int32) < c) → bigAt cs = cs.length
  | [], _ => rfl
  | c :: cs, h => by
    rw [bigAt, if_neg (h c (List.mem_cons_self ..)), bigAt_all (fun d hd => h d (List.mem_cons_of_mem _ hd)), List.length_cons]
theorem bigAt_at : ∀ {cs : List Int32} {k : Nat} (hk : k < cs.length), (∀ c ∈ cs.take k, ¬ (255 : Int32) < c) → (255 : Int32) < cs[k] → bigAt cs = k
  | [], k, hk, _, _ => absurd hk (Nat.not_lt_zero _)
  | c :: cs, 0, hk, _, hb => by rw [bigAt, if_pos (by simpa using hb)]
  | c :: cs, k + 1, hk, h, hb => by
    rw [List.take_succ_cons] at h
    rw [bigAt, if_neg (h c (List.mem_cons_self ..)), bigAt_at (k := k) (by simpa using hk) (fun d hd => h d (List.mem_cons_of_mem _ hd)) (by simpa using hb)]
def Q5 (Z : State) (h0 : Heap) (d : Addr) (kd : ClassId) (cs : List Int32) (v : Option Value) (_ : Vm) (h : Heap) : Prop := v = some (.int (Int32.ofNat (bigAt cs))) ∧ Keep h0 h [d] ∧ (bigAt cs = cs.length → OA Z h d kd .byte (cs.map fun c => Value.int c.toInt8.toInt32))
theorem set_step {cs : List Int32} {k r : Nat} (hk : k + (r + 1) = cs.length) (hlt : k < cs.length) :
    ((cs.take k).map (fun c : Int32 => Value.int c.toInt8.toInt32) ++ List.replicate (r + 1) (Value.int 0)).set k (Value.int cs[k].toInt8.toInt32) = (cs.take (k + 1)).map (fun c : Int32 => Value.int c.toInt8.toInt32) ++ List.replicate r (Value.int 0) := by
  have e1 : ((cs.take k).map (fun c : Int32 => Value.int c.toInt8.toInt32)).length = k := by simp; omega
  rw [List.set_append_right _ _ (by omega), e1, Nat.sub_self, List.replicate_succ, List.set_cons_zero, List.take_succ_eq_append_getElem hlt, List.map_append, List.append_assoc]
  rfl
theorem k_C5_loop {p : Program} {e : Env} {R : Room} {s : State} {m : MethodId} {args : Array Value} {below : List Frame} {meth : Method} {c : Code} {nm : String} {ck sk : Nat} {b d : Addr} {kb kd : ClassId} {cs : List Int32} (hl : cs.length < 2147483648) (hbd : b ≠ d) (hdf : Z.heap.size ≤ d) :
    ∀ (r k : Nat), k + r = cs.length → ∀ {vm : Vm} {T : State} {locs : List Loc} {h : Heap} {s6 : Slot}, OW p l e R s m args below meth c Z a0 EL nb "java/lang/StringUTF16" jdk_52_method_21_code 7 (some .int) nm vm T locs 0 0 h → OA Z h b kb .char (cs.map Value.int) →
      OA Z h d kd .byte ((cs.take k).map (fun c : Int32 => Value.int c.toInt8.toInt32) ++ List.replicate r (.int 0)) → Safe Z EL vm h d → Keep h0 h [d] → (∀ c ∈ cs.take k, ¬ (255 : Int32) < c) → (s6 = .unset ∨ ∃ x, s6 = .val (.int x)) →
      OG p e below s Z EL nb (Q5 Z h0 d kd cs) ck sk T (mkF m 3 #[.val (.ref b), .val (.int (Int32.ofNat k)), .val (.ref d), .val (.int (Int32.ofNat k)), .val (.int (Int32.ofNat cs.length)), .val (.int (Int32.ofNat k)), s6] [])
  | 0, k, hk, _, T, locs, h, s6, W, A, B, S, K, hsm, h6 => by
    have hkl : k = cs.length := by omega
    subst hkl
    refine oGo W [.iload 5, .iload 4] (by decide +kernel) (ls' := #[.val (.ref b), .val (.int (Int32.ofNat cs.length)), .val (.ref d), .val (.int (Int32.ofNat cs.length)), .val (.int (Int32.ofNat cs.length)), .val (.int (Int32.ofNat cs.length)), s6]) (st' := [.int (Int32.ofNat cs.length), .int (Int32.ofNat cs.length)]) rfl rfl (pc' := 7) rfl ?_
    refine oIcT W (cd := .ge) (o := 37) (by decide +kernel) (XT.ii_ge_t (fun q => Int32.lt_irrefl q)) (pc' := 44) (by decide) (by decide) ?_
    refine oGo W [.iload 4] (by decide +kernel) (ls' := #[.val (.ref b), .val (.int (Int32.ofNat cs.length)), .val (.ref d), .val (.int (Int32.ofNat cs.length)), .val (.int (Int32.ofNat cs.length)), .val (.int (Int32.ofNat cs.length)), s6]) (st' := [.int (Int32.ofNat cs.length)]) rfl rfl (pc' := 46) rfl ?_
    rw [List.take_length] at hsm B
    have hb := bigAt_all hsm
    exact oRetI W (by decide +kernel) (Nat.zero_le _) (Nat.zero_le _) (fun _ _ => ⟨by rw [hb], K, fun _ => by simpa using B⟩)
  | r + 1, k, hk, _, T, locs, h, s6, W, A, B, S, K, hsm, h6 => by
    have hlt : k < cs.length := by omega
    refine oGo W [.iload 5, .iload 4] (by decide +kernel) (ls' := #[.val (.ref b), .val (.int (Int32.ofNat k)), .val (.ref d), .val (.int (Int32.ofNat k)), .val (.int (Int32.ofNat cs.length)), .val (.int (Int32.ofNat k)), s6]) (st' := [.int (Int32.ofNat cs.length), .int (Int32.ofNat k)]) rfl rfl (pc' := 7) rfl ?_
    refine oIcF W (cd := .ge) (o := 37) (by decide +kernel) (XT.ii_ge_f ((n_lt (by omega) hl).mpr hlt)) (pc' := 10) rfl ?_
    refine oGo W [.aload_n 0, .iload_n 1] (by decide +kernel) (ls' := #[.val (.ref b), .val (.int (Int32.ofNat k)), .val (.ref d), .val (.int (Int32.ofNat k)), .val (.int (Int32.ofNat cs.length)), .val (.int (Int32.ofNat k)), s6]) (st' := [.int (Int32.ofNat k), .ref b]) rfl rfl (pc' := 12) rfl ?_
    refine oGet W A (n_nn (by omega)) (v := .int cs[k]) (by rw [n_cl (by omega)]; simp [hlt]) (Or.inl ⟨rfl, rfl⟩) (by decide +kernel) ?_
    have go6 : OG p e below s Z EL nb (Q5 Z h0 d kd cs) ck sk T (mkF m 20 #[.val (.ref b), .val (.int (Int32.ofNat k)), .val (.ref d), .val (.int (Int32.ofNat k)), .val (.int (Int32.ofNat cs.length)), .val (.int (Int32.ofNat k)), .val (.int cs[k])] [.int (255 : Int32), .int cs[k]]) := by
      by_cases hc : (255 : Int32) < cs[k]
      · refine oIcF W (cd := .le) (o := 6) (by decide +kernel) (XT.ii_le_f hc) (pc' := 23) rfl ?_
        refine oGo W [.iload 5] (by decide +kernel) (ls' := #[.val (.ref b), .val (.int (Int32.ofNat k)), .val (.ref d), .val (.int (Int32.ofNat k)), .val (.int (Int32.ofNat cs.length)), .val (.int (Int32.ofNat k)), .val (.int cs[k])]) (st' := [.int (Int32.ofNat k)]) rfl rfl (pc' := 25) rfl ?_
        have hb := bigAt_at hlt hsm hc
        exact oRetI W (by decide +kernel) (Nat.zero_le _) (Nat.zero_le _) (fun _ _ => ⟨by rw [hb], K, fun q => absurd (hb.symm.trans q) (by omega)⟩)
      · refine oIcT W (cd := .le) (o := 6) (by decide +kernel) (XT.ii_le_t hc) (pc' := 26) (by decide) (by decide) ?_
        refine oGo W [.aload_n 2, .iload_n 3, .iload 6, .i2b] (by decide +kernel) (ls' := #[.val (.ref b), .val (.int (Int32.ofNat k)), .val (.ref d), .val (.int (Int32.ofNat k)), .val (.int (Int32.ofNat cs.length)), .val (.int (Int32.ofNat k)), .val (.int cs[k])]) (st' := [.int (cs[k].toInt8.toInt32), .int (Int32.ofNat k), .ref d]) rfl rfl (pc' := 31) rfl ?_
        obtain ⟨T1, h1, W1, Wr1, B1, C1, st1⟩ := oPut W B (j := Int32.ofNat k) (pc := 31) (ls := #[.val (.ref b), .val (.int (Int32.ofNat k)), .val (.ref d), .val (.int (Int32.ofNat k)), .val (.int (Int32.ofNat cs.length)), .val (.int (Int32.ofNat k)), .val (.int cs[k])]) (st := []) (n_nn (by omega)) (i := k) (n_cl (by omega)) (by simp; omega) hdf S (ins := .bastore) (Or.inr (Or.inl ⟨rfl, rfl, nar_b _⟩)) (by decide +kernel)
        refine oLift st1 ?_
        refine oGo W1 [.iinc 1 1, .iinc 3 1, .iinc 5 1, .goto (-38)] (by decide +kernel) (ls' := #[.val (.ref b), .val (.int (Int32.ofNat k + 1)), .val (.ref d), .val (.int (Int32.ofNat k + 1)), .val (.int (Int32.ofNat cs.length)), .val (.int (Int32.ofNat k + 1)), .val (.int cs[k])]) (st' := []) rfl rfl (pc' := 3) rfl ?_
        rw [n_in]
        rw [set_step hk hlt] at B1
        refine k_C5_loop hl hbd hdf r (k + 1) (by omega) W1 (A.other Wr1 hbd) B1 (C1.safe B.lt S) (K.wr Wr1 (Or.inl (List.mem_singleton.mpr rfl))) ?_ (Or.inr ⟨_, rfl⟩)
        intro c hcm
        rw [List.take_succ_eq_append_getElem hlt, List.mem_append, List.mem_singleton] at hcm
        rcases hcm with hcm | rfl
        · exact hsm c hcm
        · exact hc
    rcases h6 with rfl | ⟨x, rfl⟩
    · exact oGo W [.istore 6, .iload 6, .sipush 255] (by decide +kernel) (ls' := #[.val (.ref b), .val (.int (Int32.ofNat k)), .val (.ref d), .val (.int (Int32.ofNat k)), .val (.int (Int32.ofNat cs.length)), .val (.int (Int32.ofNat k)), .val (.int cs[k])]) (st' := [.int (255 : Int32), .int cs[k]]) rfl rfl (pc' := 20) rfl go6
    · exact oGo W [.istore 6, .iload 6, .sipush 255] (by decide +kernel) (ls' := #[.val (.ref b), .val (.int (Int32.ofNat k)), .val (.ref d), .val (.int (Int32.ofNat k)), .val (.int (Int32.ofNat cs.length)), .val (.int (Int32.ofNat k)), .val (.int cs[k])]) (st' := [.int (255 : Int32), .int cs[k]]) rfl rfl (pc' := 20) rfl go6
theorem k_C5 (hE : EW Z a0 EL) {b d : Addr} {kb kd : ClassId} {cs : List Int32} (hl : cs.length < 2147483648) (hbd : b ≠ d) (hdf : Z.heap.size ≤ d) (A : OA Z h0 b kb .char (cs.map Value.int)) (B : OA Z h0 d kd .byte (List.replicate cs.length (.int 0))) :
    OC l Z EL nb [] mC5 jdk_52_method_21_code 7 (some .int) rm0 #[.ref b, .int 0, .ref d, .int 0, .int (Int32.ofNat cs.length)] h0 [d] (Q5 Z h0 d kd cs) := by
  refine oEnter (by decide +kernel) hE ?_
  intro p e s m below meth c T0 W0 S0
  refine oEq (g' := mkF m 0 #[.val (.ref b), .val (.int 0), .val (.ref d), .val (.int 0), .val (.int (Int32.ofNat cs.length)), .unset, .unset] []) (by first | (simp [entryFrame, mkF, argsToLocals, Value.category]; done) | rfl) ?_
  refine oGo W0 [.iconst 0, .istore 5] (by decide +kernel) (ls' := #[.val (.ref b), .val (.int 0), .val (.ref d), .val (.int 0), .val (.int (Int32.ofNat cs.length)), .val (.int 0), .unset]) (st' := []) rfl rfl (pc' := 3) rfl ?_
  exact k_C5_loop hl hbd hdf cs.length 0 (by omega) W0 A (by simpa using B) (S0 d (List.mem_singleton.mpr rfl)) (Keep.refl _ _) (by simp) (Or.inl rfl)
abbrev rmC3 (n : Nat) : Room := { frames := 1, cells := 1, slots := n, locals := 18 }
theorem k_C3 (K : SC Z a0 EL) {b : Addr} {kb : ClassId} {cs : List Int32} (hl : cs.length ≤ 4000) (A : OA Z h0 b kb .char (cs.map Value.int)) (hsm : ∀ c ∈ cs, ¬ (255 : Int32) < c) :
    OC l Z EL nb [] mC3 jdk_52_method_16_code 6 (some (.array .byte)) (rmC3 cs.length) #[.ref b, .int 0, .int (Int32.ofNat cs.length)] h0 [] (fun v _ h => ∃ d k, v = some (.ref d) ∧ h0.size ≤ d ∧ Ext h0 h ∧ OA Z h d k .byte (cs.map fun c => Value.int c.toInt8.toInt32)) := by
  have hs := K.1
  refine oEnter (by decide +kernel) K.2.1 ?_
  intro p e s m below meth c T0 W0 _
  refine oEq (g' := mkF m 0 #[.val (.ref b), .val (.int 0), .val (.int (Int32.ofNat cs.length)), .unset, .unset, .unset] []) (by first | (simp [entryFrame, mkF, argsToLocals, Value.category]; done) | rfl) ?_
  refine oGo W0 [.iload_n 2] (by decide +kernel) (ls' := #[.val (.ref b), .val (.int 0), .val (.int (Int32.ofNat cs.length)), .unset, .unset, .unset]) (st' := [.int (Int32.ofNat cs.length)]) rfl rfl (pc' := 1) rfl ?_
  have hcl : (Int32.ofNat cs.length).toNatClampNeg = cs.length := n_cl (by omega)
  obtain ⟨T1, h1, d, kd, W1, g1, E1, B1, S1, C1, st1⟩ := oNewA W0 (aty := .byte) (pc := 1) (ls := #[.val (.ref b), .val (.int 0), .val (.int (Int32.ofNat cs.length)), .unset, .unset, .unset]) (st := []) (hs _ (List.mem_of_getElem? (i := 11) rfl)) (by decide +kernel) (n := Int32.ofNat cs.length) (n_nn (by omega)) (cap := cs.length) (by rw [hcl]; exact Nat.le_refl _) (by omega) (lb rfl) (by show 0 + cs.length ≤ cs.length; omega)
  refine oLift st1 ?_
  rw [hcl] at B1
  refine oGo W1 [.astore_n 3, .aload_n 0, .iload_n 1, .aload_n 3, .iconst 0, .iload_n 2] (by decide +kernel) (ls' := #[.val (.ref b), .val (.int 0), .val (.int (Int32.ofNat cs.length)), .val (.ref d), .unset, .unset]) (st' := [.int (Int32.ofNat cs.length), .int 0, .ref d, .int 0, .ref b]) rfl rfl (pc' := 9) rfl ?_
  have hbd : b ≠ d := Nat.ne_of_lt (Nat.lt_of_lt_of_le A.lt g1)
  obtain ⟨v2, T2, L2, h2, vm2, W2, ⟨rfl, K2, B2⟩, C2, st2⟩ := oCallS W1 (idx := 115) (pc := 9) (ls := #[.val (.ref b), .val (.int 0), .val (.int (Int32.ofNat cs.length)), .val (.ref d), .unset, .unset]) (st := []) (argsL := [.ref b, .int 0, .ref d, .int 0, .int (Int32.ofNat cs.length)]) (k_C5 (h0 := h1) K.2.1 (by omega) hbd (Nat.le_trans W0.ext.1 g1) (A.ext E1) B1)
    (fun x hx => by cases List.mem_singleton.mp hx; exact ⟨B1.lt, S1⟩) (hs _ (List.mem_of_getElem? (i := 12) rfl)) (hs _ (List.mem_of_getElem? (i := 13) rfl)) (hs _ (List.mem_of_getElem? (i := 9) rfl)) (hs _ (List.mem_of_getElem? (i := 14) rfl)) (by decide) (na := 5) rfl (by decide +kernel) rfl (stk := [.int (Int32.ofNat cs.length), .int 0, .ref d, .int 0, .ref b]) rfl (by decide +kernel) (V := 0) (lb rfl) (lb rfl) (lb rfl) (lb rfl) (by show 0 + cs.length + 0 ≤ cs.length; omega)
  refine oLift st2 ?_
  have hb := bigAt_all hsm
  rw [hb]
  refine oGo W2 [.istore 4, .iload 4, .iload_n 2] (by decide +kernel) (ls' := #[.val (.ref b), .val (.int 0), .val (.int (Int32.ofNat cs.length)), .val (.ref d), .val (.int (Int32.ofNat cs.length)), .unset]) (st' := [.int (Int32.ofNat cs.length), .int (Int32.ofNat cs.length)]) rfl rfl (pc' := 17) rfl ?_
  refine oIcT W2 (cd := .eq) (o := 40) (by decide +kernel) (XT.ii_eq_t rfl) (pc' := 57) (by decide) (by decide) ?_
  refine oGo W2 [.aload_n 3] (by decide +kernel) (ls' := #[.val (.ref b), .val (.int 0), .val (.int (Int32.ofNat cs.length)), .val (.ref d), .val (.int (Int32.ofNat cs.length)), .unset]) (st' := [.ref d]) rfl rfl (pc' := 58) rfl ?_
  exact oRetA rfl W2 rfl rfl (by decide +kernel) (lb rfl) (by show 0 + cs.length + 0 ≤ cs.length; omega) (fun _ _ => ⟨d, kd, rfl, g1, exK E1 K2 (fun x hx => by cases List.mem_singleton.mp hx; exact g1), B2 hb⟩)
theorem slots_vc (K : SC Z a0 EL) : RoadKit.slotOf Z "java/lang/String" "coder" "B" ≠ RoadKit.slotOf Z "java/lang/String" "value" "[B" :=
  slot_ne (a0 := a0) (C := "java/lang/String") (Or.inr (K.1 _ (List.mem_of_getElem? (i := 19) rfl))) (Or.inr (K.1 _ (List.mem_of_getElem? (i := 21) rfl))) (by decide) (t := .byte) (t' := .array .byte) (by decide) (by decide)
abbrev rmI4 (n : Nat) : Room := { frames := 2, cells := 1, slots := n, locals := 35 }
theorem k_I4 (K : SC Z a0 EL) {x b : Addr} {kb : ClassId} {cs : List Int32} {v0 c0 : Value} (hl : cs.length ≤ 4000) (hl0 : 0 < cs.length) (A : OA Z h0 b kb .char (cs.map Value.int)) (hsm : ∀ c ∈ cs, ¬ c < 0 ∧ ¬ (255 : Int32) < c) (hxf : Z.heap.size ≤ x) (E : Exa Z h0 x "java/lang/String") (Fc : Fld Z h0 x "java/lang/String" "coder" "B" c0) (Fv : Fld Z h0 x "java/lang/String" "value" "[B" v0) :
    OC l Z EL nb [] mI4 jdk_42_method_149_code 6 none (rmI4 cs.length) #[.ref x, .ref b, .int 0, .int (Int32.ofNat cs.length), .null] h0 [x] (fun v _ h => v = none ∧ Keep h0 h [x] ∧ Str Z h x cs) := by
  have hs := K.1
  obtain ⟨z, hz, hz0⟩ := K.2.2
  refine oEnter (by decide +kernel) K.2.1 ?_
  intro p e s m below meth c T0 W0 S0
  refine oEq (g' := mkF m 0 #[.val (.ref x), .val (.ref b), .val (.int 0), .val (.int (Int32.ofNat cs.length)), .val .null, .unset] []) (by first | (simp [entryFrame, mkF, argsToLocals, Value.category]; done) | rfl) ?_
  refine oGo W0 [.aload_n 0] (by decide +kernel) (ls' := #[.val (.ref x), .val (.ref b), .val (.int 0), .val (.int (Int32.ofNat cs.length)), .val .null, .unset]) (st' := [.ref x]) rfl rfl (pc' := 1) rfl ?_
  obtain ⟨T1, W1, st1⟩ := oInit W0 (idx := 1) (pc := 1) (ls := #[.val (.ref x), .val (.ref b), .val (.int 0), .val (.int (Int32.ofNat cs.length)), .val .null, .unset]) (st := []) (a := x) (hs _ (List.mem_of_getElem? (i := 3) rfl)) (hs _ (List.mem_of_getElem? (i := 4) rfl)) (hs _ (List.mem_of_getElem? (i := 5) rfl)) rfl (by decide +kernel) (lb rfl) (V := 0) (lb rfl) (lb rfl)
  refine oLift st1 ?_
  refine oGo W1 [.iload_n 3] (by decide +kernel) (ls' := #[.val (.ref x), .val (.ref b), .val (.int 0), .val (.int (Int32.ofNat cs.length)), .val .null, .unset]) (st' := [.int (Int32.ofNat cs.length)]) rfl rfl (pc' := 5) rfl ?_
  have hn0 : ¬ Int32.ofNat cs.length = 0 := fun q => by
    have := congrArg Int32.toNatClampNeg q
    rw [n_cl (by omega)] at this
    exact absurd this (by show ¬ cs.length = 0; omega)
  refine oIfT W1 (cd := .ne) (o := 22) (by decide +kernel) (XT.i0_ne_t hn0) (pc' := 27) (by decide) (by decide) ?_
  obtain ⟨T2, W2, st2⟩ := oGetS W1 (pc := 27) (ls := #[.val (.ref x), .val (.ref b), .val (.int 0), .val (.int (Int32.ofNat cs.length)), .val .null, .unset]) (st := []) (hs _ (List.mem_of_getElem? (i := 6) rfl)) Via.refl (hz.ext W1.ext) (by decide +kernel)
  refine oLift st2 ?_
  refine oIfF W2 (cd := .eq) (o := 28) (by decide +kernel) (XT.i0_eq_f hz0) (pc' := 33) rfl ?_
  refine oGo W2 [.aload_n 1, .iload_n 2, .iload_n 3] (by decide +kernel) (ls' := #[.val (.ref x), .val (.ref b), .val (.int 0), .val (.int (Int32.ofNat cs.length)), .val .null, .unset]) (st' := [.int (Int32.ofNat cs.length), .int 0, .ref b]) rfl rfl (pc' := 36) rfl ?_
  obtain ⟨v3, T3, L3, h3, vm3, W3, ⟨d, kd, rfl, g3, E3, B3⟩, C3, st3⟩ := oCallS W2 (idx := 177) (pc := 36) (ls := #[.val (.ref x), .val (.ref b), .val (.int 0), .val (.int (Int32.ofNat cs.length)), .val .null, .unset]) (st := []) (argsL := [.ref b, .int 0, .int (Int32.ofNat cs.length)]) (k_C3 (h0 := h0) K hl A (fun c hc => (hsm c hc).2))
    (fun x hx => nomatch hx) (hs _ (List.mem_of_getElem? (i := 7) rfl)) (hs _ (List.mem_of_getElem? (i := 8) rfl)) (hs _ (List.mem_of_getElem? (i := 9) rfl)) (hs _ (List.mem_of_getElem? (i := 10) rfl)) (by decide) (na := 3) rfl (by decide +kernel) rfl (stk := [.int (Int32.ofNat cs.length), .int 0, .ref b]) rfl (by decide +kernel) (V := 0) (lb rfl) (lb rfl) (lb rfl) (lb rfl) (by show 0 + cs.length ≤ cs.length; omega)
  refine oLift st3 ?_
  refine oGo W3 [.astore 5, .aload_n 0, .aload 5, .iload_n 3] (by decide +kernel) (ls' := #[.val (.ref x), .val (.ref b), .val (.int 0), .val (.int (Int32.ofNat cs.length)), .val .null, .val (.ref d)]) (st' := [.int (Int32.ofNat cs.length), .ref d, .ref x]) rfl rfl (pc' := 45) rfl ?_
  obtain ⟨v4, T4, L4, h4, vm4, W4, ⟨rfl, e4⟩, C4, st4⟩ := oCallS W3 (idx := 47) (pc := 45) (ls := #[.val (.ref x), .val (.ref b), .val (.int 0), .val (.int (Int32.ofNat cs.length)), .val .null, .val (.ref d)]) (st := [.ref x]) (argsL := [.ref d, .int (Int32.ofNat cs.length)]) (k_CL (h0 := h3) K.2.1 B3)
    (fun x hx => nomatch hx) (hs _ (List.mem_of_getElem? (i := 15) rfl)) (hs _ (List.mem_of_getElem? (i := 16) rfl)) (hs _ (List.mem_of_getElem? (i := 9) rfl)) (hs _ (List.mem_of_getElem? (i := 17) rfl)) (by decide) (na := 2) rfl (by decide +kernel) rfl (stk := [.int (Int32.ofNat cs.length), .ref d, .ref x]) rfl (by decide +kernel) (V := 1) (lb rfl) (lb rfl) (lb rfl) (lb rfl) (by show 0 + cs.length + 0 ≤ cs.length; omega)
  refine oLift st4 ?_
  subst e4
  have hc0 : (XT.ushr (Int32.ofNat cs.length - (cs.map fun c : Int32 => Value.int c.toInt8.toInt32).length.toInt32) (31 : Int32)).toInt8.toInt32 = 0 := by
    rw [List.length_map]
    show (XT.ushr (Int32.ofNat cs.length - Int32.ofNat cs.length) (31 : Int32)).toInt8.toInt32 = 0
    rw [Int32.sub_self]; decide
  rw [hc0]
  have S4 : Safe Z EL vm4 h4 x := C4.safe (E.ext E3).lt (C3.safe E.lt (S0 x (List.mem_singleton.mpr rfl)))
  obtain ⟨T5, h5, W5, Wr5, Fc5, E5, C5, st5⟩ := oPutF W4 (idx := 15) (pc := 48) (ls := #[.val (.ref x), .val (.ref b), .val (.int 0), .val (.int (Int32.ofNat cs.length)), .val .null, .val (.ref d)]) (st := []) (v := .int 0) (hs _ (List.mem_of_getElem? (i := 18) rfl)) Via.refl (Fc.ext E3) (E.ext E3) (Or.inr ⟨hs _ (List.mem_of_getElem? (i := 19) rfl), rfl, rfl⟩) (hs _ (List.mem_of_getElem? (i := 23) rfl)) (ty := .byte) (by decide) rfl rfl hxf S4 (by decide +kernel)
  refine oLift st5 ?_
  refine oGo W5 [.aload_n 0, .aload 5] (by decide +kernel) (ls' := #[.val (.ref x), .val (.ref b), .val (.int 0), .val (.int (Int32.ofNat cs.length)), .val .null, .val (.ref d)]) (st' := [.ref d, .ref x]) rfl rfl (pc' := 54) rfl ?_
  have hdx : d ≠ x := Nat.ne_of_gt (Nat.lt_of_lt_of_le E.lt g3)
  obtain ⟨T6, h6, W6, Wr6, Fv6, E6, C6, st6⟩ := oPutF W5 (idx := 9) (pc := 54) (ls := #[.val (.ref x), .val (.ref b), .val (.int 0), .val (.int (Int32.ofNat cs.length)), .val .null, .val (.ref d)]) (st := []) (v := .ref d) (hs _ (List.mem_of_getElem? (i := 20) rfl)) Via.refl ((Fv.ext E3).other Wr5 (Or.inr (Ne.symm (slots_vc K)))) E5 (Or.inr ⟨hs _ (List.mem_of_getElem? (i := 21) rfl), rfl, rfl⟩) (hs _ (List.mem_of_getElem? (i := 23) rfl)) (ty := .array .byte) (by decide) rfl rfl hxf (C5.safe (E.ext E3).lt S4) (by decide +kernel)
  refine oLift st6 ?_
  exact oRet0 W6 (by decide +kernel) (lb rfl) (by show 0 + cs.length + 0 ≤ cs.length; omega) (fun _ _ => ⟨rfl, (((Keep.refl h0 [x]).ext E3).wr Wr5 (Or.inl (List.mem_singleton.mpr rfl))).wr Wr6 (Or.inl (List.mem_singleton.mpr rfl)),
    d, kd, E6, Fc5.other Wr6 (Or.inr (slots_vc K)), Fv6, (B3.other Wr5 hdx).other Wr6 hdx, hsm⟩)
abbrev rmI1 (n : Nat) : Room := { frames := 3, cells := 1, slots := n, locals := 52 }
/-- new String(char[]): one to 4,000 chars of 0 to 255 -/
theorem k_I1 (K : SC Z a0 EL) {x b : Addr} {kb : ClassId} (cs : List Int32) {v0 c0 : Value} (hl : cs.length ≤ 4000) (hl0 : 0 < cs.length) (A : OA Z h0 b kb .char (cs.map Value.int)) (hsm : ∀ c ∈ cs, ¬ c < 0 ∧ ¬ (255 : Int32) < c) (hxf : Z.heap.size ≤ x) (E : Exa Z h0 x "java/lang/String") (Fc : Fld Z h0 x "java/lang/String" "coder" "B" c0) (Fv : Fld Z h0 x "java/lang/String" "value" "[B" v0) :
    OC l Z EL nb [] mI1 jdk_42_method_3_code 2 none (rmI1 cs.length) #[.ref x, .ref b] h0 [x] (fun v _ h => v = none ∧ Keep h0 h [x] ∧ Str Z h x cs) := by
  have hs := K.1
  refine oEnter (by decide +kernel) K.2.1 ?_
  intro p e s m below meth c T0 W0 S0
  refine oEq (g' := mkF m 0 #[.val (.ref x), .val (.ref b)] []) (by first | (simp [entryFrame, mkF, argsToLocals, Value.category]; done) | rfl) ?_
  refine oGo W0 [.aload_n 0, .aload_n 1, .iconst 0, .aload_n 1] (by decide +kernel) (ls' := #[.val (.ref x), .val (.ref b)]) (st' := [.ref b, .int 0, .ref b, .ref x]) rfl rfl (pc' := 4) rfl ?_
  refine oLen W0 A (by decide +kernel) ?_
  rw [List.length_map]
  refine oGo W0 [.aconst_null] (by decide +kernel) (ls' := #[.val (.ref x), .val (.ref b)]) (st' := [.null, .int (Int32.ofNat cs.length), .int 0, .ref b, .ref x]) rfl rfl (pc' := 6) rfl ?_
  obtain ⟨v1, T1, L1, h1, vm1, W1, ⟨rfl, K1, F1⟩, C1, st1⟩ := oCallN W0 (idx := 27) (pc := 6) (ls := #[.val (.ref x), .val (.ref b)]) (st := []) (a := x) (argsL := [.ref b, .int 0, .int (Int32.ofNat cs.length), .null]) (k_I4 (h0 := h0) K hl hl0 A hsm hxf E Fc Fv)
    (fun y hy => by cases List.mem_singleton.mp hy; exact ⟨E.lt, S0 x (List.mem_singleton.mpr rfl)⟩) rfl (hs _ (List.mem_of_getElem? (i := 0) rfl)) (hs _ (List.mem_of_getElem? (i := 1) rfl)) (hs _ (List.mem_of_getElem? (i := 22) rfl)) (hs _ (List.mem_of_getElem? (i := 2) rfl)) (by decide) (na := 4) rfl (by decide +kernel) rfl (stk := [.null, .int (Int32.ofNat cs.length), .int 0, .ref b, .ref x]) rfl (by decide +kernel) (V := 0) (lb rfl) (lb rfl) (lb rfl) (lb rfl) (by show 0 + cs.length ≤ cs.length; omega)
  refine oLift st1 ?_
  exact oRet0 W1 (by decide +kernel) (lb rfl) (by show 0 + cs.length ≤ cs.length; omega) (fun _ _ => ⟨rfl, K1, F1⟩)
end OwnStr
end Jvm.Pilot.@@N@@
namespace Jvm.Pilot.@@N@@
open Jvm Jvm.ClassFile Sem Op Lib Jvm.Free Jvm.Stand Jvm.LawKit Jvm.RoadKit Bundle Jvm.Pilot.@@N@@.Jvm.D Jvm.OwnK
abbrev EL : List (String × Nat) := []
theorem sA_in : ∀ d ∈ Bundle.stringAtoms, d ∈ tables_1 := by decide +kernel
def Ctx (Z : State) (a0 : Array Value) : Prop := (∀ d ∈ tables_1, d.before a0 Z = true) ∧ SC Z a0 EL ∧ (∀ a ∈ Bundle.stringAtoms, a.before a0 Z = true) ∧ True
def DX (Z : State) (dc : Addr) (kd : ClassId) : Prop := Sta Z Z.heap "java/util/ArrayList" "DEFAULTCAPACITY_EMPTY_ELEMENTDATA" "[Ljava/lang/Object;" (.ref dc) ∧ OA Z Z.heap dc kd (.object "java/lang/Object") []
def MC (Z : State) (h : Heap) (a : Addr) : Prop := ∃ q : Int32, Fld Z h a "java/util/AbstractList" "modCount" "I" (.int q)
/-- a list: its object, its array's address, its size -/
def LB (Z : State) (h : Heap) (a t : Addr) (n : Nat) : Prop := Exa Z h a "java/util/ArrayList" ∧ MC Z h a ∧ Fld Z h a "java/util/ArrayList" "elementData" "[Ljava/lang/Object;" (.ref t) ∧ Fld Z h a "java/util/ArrayList" "size" "I" (.int (Int32.ofNat n))
def LA (Z : State) (h : Heap) (a t : Addr) (kt : ClassId) (vs : List Value) (n : Nat) : Prop := LB Z h a t n ∧ OA Z h t kt (.object "java/lang/Object") vs ∧ Ovr Z kt "java/lang/Object" ∧ Z.heap.size ≤ t ∧ t ≠ a
abbrev rm_c_pci : Room := { frames := 0, cells := 0, slots := 0, locals := 0 }
set_option maxRecDepth 65536 in
set_option maxHeartbeats 40000000 in
theorem c_pci {l : Launch} {Z : State} {a0 : Array Value} {nb : Bool} (K : Ctx Z a0) {i n : Int32} {h0 : Heap} (hi : ¬ i < 0) (hn : i < n) :
    OC l Z EL nb [] (⟨"jdk/internal/util/Preconditions", "checkIndex", "(IILjava/util/function/BiFunction;)I"⟩ : MethodName) jdk_41_method_11_code 3 (some .int) rm_c_pci #[(.int i), (.int n), (.null)] h0 [] (fun v _ h => v = some (.int i) ∧ h = h0) := by
  have hw := K.1
  have hS : ∀ a ∈ Bundle.stringAtoms, a.before a0 Z = true := K.2.2.1
  refine oEnter (by decide +kernel) K.2.1.2.1 ?_
  intro _p _e _s m _below _meth _c T0 W0 S0
  refine oEq (g' := mkF m 0 #[.val (.int i), .val (.int n), .val (.null)] []) (by first | (simp [entryFrame, mkF, argsToLocals, Value.category]; done) | rfl) ?_
  refine oGo W0 [.iload_n 0] (by decide +kernel) (ls' := #[.val (.int i), .val (.int n), .val (.null)]) (st' := [(.int i)]) rfl rfl (pc' := 1) rfl ?_
  refine oIfF W0 (cd := .lt) (o := 8) (by decide +kernel) (XT.i0_lt_f hi) (pc' := 4) rfl ?_
  refine oGo W0 [.iload_n 0, .iload_n 1] (by decide +kernel) (ls' := #[.val (.int i), .val (.int n), .val (.null)]) (st' := [(.int n), (.int i)]) rfl rfl (pc' := 6) rfl ?_
  refine oIcT W0 (cd := .lt) (o := 10) (by decide +kernel) (XT.ii_lt_t hn) (pc' := 16) (by decide) (by decide) ?_
  refine oGo W0 [.iload_n 0] (by decide +kernel) (ls' := #[.val (.int i), .val (.int n), .val (.null)]) (st' := [(.int i)]) rfl rfl (pc' := 17) rfl ?_
  exact oRetI W0 (by decide +kernel) (lb rfl) (lb rfl) (fun vm' hv => ⟨rfl, rfl⟩)
abbrev rm_c_word : Room := { frames := 4, cells := 3, slots := 8, locals := 66 }
set_option maxRecDepth 65536 in
set_option maxHeartbeats 40000000 in
theorem c_word {l : Launch} {Z : State} {a0 : Array Value} {nb : Bool} (K : Ctx Z a0) {i : Int32} {h0 : Heap} :
    OC l Z EL nb [] (⟨"com/example/strict_split/strictsplit/cli/ArgumentsValuePinLaw", "word", "(I)Ljava/lang/String;"⟩ : MethodName) method_3_code 2 (some (.object "java/lang/String")) rm_c_word #[(.int i)] h0 [] (fun v _ h => (∃ x, v = some (.ref x) ∧ Exa Z h x "java/lang/String") ∧ Ext h0 h) := by
  have hw := K.1
  have hS : ∀ a ∈ Bundle.stringAtoms, a.before a0 Z = true := K.2.2.1
  refine oEnter (by decide +kernel) K.2.1.2.1 ?_
  intro _p _e _s m _below _meth _c T0 W0 S0
  refine oEq (g' := mkF m 0 #[.val (.int i), .unset] []) (by first | (simp [entryFrame, mkF, argsToLocals, Value.category]; done) | rfl) ?_
  refine oGo W0 [.iconst 2] (by decide +kernel) (ls' := #[.val (.int i), .unset]) (st' := [(.int (2 : Int32))]) rfl rfl (pc' := 1) rfl ?_
  obtain ⟨T1, h1, a1, k1, W1, g1, E1, A1, S1, C1, st1⟩ := oNewA W0 (aty := .char) (pc := 1) (ls := #[.val (.int i), .unset]) (st := []) (hw _ (List.mem_of_getElem? (i := 4) rfl)) (by decide +kernel) (n := (2 : Int32)) (by decide) (cap := 2) (lb rfl) (lb rfl) (lb rfl) (lb rfl)
  refine oLift st1 ?_
  have A1 : OA Z h1 a1 k1 .char [.int 0, .int 0] := A1
  refine oGo W1 [.astore_n 1, .aload_n 1, .iconst 0, .iload_n 0, .sipush 255, .iand, .i2c] (by decide +kernel) (ls' := #[.val (.int i), .val (.ref a1)]) (st' := [(.int ((i &&& (255 : Int32)).toUInt32.toUInt16.toUInt32.toInt32)), (.int (0 : Int32)), (.ref a1)]) rfl rfl (pc' := 12) rfl ?_
  obtain ⟨T2, h2, W2, Wr2, A2, C2, st2⟩ := oPut W1 A1 (j := (0 : Int32)) (x := ((i &&& (255 : Int32)).toUInt32.toUInt16.toUInt32.toInt32)) (x' := (i &&& (255 : Int32))) (pc := 12) (ls := #[.val (.int i), .val (.ref a1)]) (st := []) (by decide) (i := 0) (by decide) (by simp) (Nat.le_trans W0.ext.1 g1) (A1.safe W1.warm.alike (by decide)) (ins := .castore) (Or.inl ⟨rfl, rfl, (by rw [i2c_255]; exact own_nar255 _)⟩) (by decide +kernel)
  refine oLift st2 ?_
  have A2 : OA Z h2 a1 k1 .char [.int (i &&& (255 : Int32)), .int 0] := A2
  refine oGo W2 [.aload_n 1, .iconst 1, .iload_n 0, .bipush 8, .iushr, .sipush 255, .iand, .i2c] (by decide +kernel) (ls' := #[.val (.int i), .val (.ref a1)]) (st' := [(.int (((XT.ushr i (8 : Int32)) &&& (255 : Int32)).toUInt32.toUInt16.toUInt32.toInt32)), (.int (1 : Int32)), (.ref a1)]) rfl rfl (pc' := 24) rfl ?_
  obtain ⟨T3, h3, W3, Wr3, A3, C3, st3⟩ := oPut W2 A2 (j := (1 : Int32)) (x := (((XT.ushr i (8 : Int32)) &&& (255 : Int32)).toUInt32.toUInt16.toUInt32.toInt32)) (x' := (XT.ushr i (8 : Int32) &&& (255 : Int32))) (pc := 24) (ls := #[.val (.int i), .val (.ref a1)]) (st := []) (by decide) (i := 1) (by decide) (by simp) (Nat.le_trans W0.ext.1 g1) (A2.safe W2.warm.alike (by decide)) (ins := .castore) (Or.inl ⟨rfl, rfl, (by rw [i2c_255]; exact own_nar255 _)⟩) (by decide +kernel)
  refine oLift st3 ?_
  have A3 : OA Z h3 a1 k1 .char [.int (i &&& (255 : Int32)), .int (XT.ushr i (8 : Int32) &&& (255 : Int32))] := A3
  obtain ⟨T4, h4, a4, W4, g4, E4, A4, D4, S4, C4, st4⟩ := oNew W3 (pc := 25) (ls := #[.val (.int i), .val (.ref a1)]) (st := []) (hw _ (List.mem_of_getElem? (i := 5) rfl)) (hw _ (List.mem_of_getElem? (i := 6) rfl)) (hw _ (List.mem_of_getElem? (i := 7) rfl)) (by decide +kernel) (lb rfl) (lb rfl)
  refine oLift st4 ?_
  refine oGo W4 [.dup, .aload_n 1] (by decide +kernel) (ls' := #[.val (.int i), .val (.ref a1)]) (st' := [(.ref a1), (.ref a4), (.ref a4)]) rfl rfl (pc' := 30) rfl ?_
  obtain ⟨v5, T5, L5, h5, vm5, W5, ⟨rfl, K5, F5⟩, C5, st5⟩ := oCallN W4 (idx := 40) (pc := 30) (ls := #[.val (.int i), .val (.ref a1)]) (st := [(.ref a4)]) (a := a4) (argsL := [(.ref a1)]) (k_I1 K.2.1 [(i &&& (255 : Int32)), (XT.ushr i (8 : Int32) &&& (255 : Int32))] (lb rfl) (lb rfl) (A3.ext E4) (own_all2 (m255 _) (m255 _)) (Nat.le_trans W3.ext.1 g4) A4 (D4 (Or.inr (hw _ (List.mem_of_getElem? (i := 31) rfl))) (ty := .byte) (by decide)) (D4 (Or.inr (hw _ (List.mem_of_getElem? (i := 33) rfl))) (ty := (.array .byte)) (by decide))) (fun y hy => by cases List.mem_singleton.mp hy; exact ⟨A4.lt, (by exact safe0)⟩) rfl (hw _ (List.mem_of_getElem? (i := 8) rfl)) (hw _ (List.mem_of_getElem? (i := 9) rfl)) (hw _ (List.mem_of_getElem? (i := 7) rfl)) (hw _ (List.mem_of_getElem? (i := 10) rfl)) (by decide) (na := 1) rfl (by decide +kernel) rfl (stk := [(.ref a1), (.ref a4), (.ref a4)]) rfl (by decide +kernel) (V := 1) (lb rfl) (lb rfl) (lb rfl) (lb rfl) (lb rfl)
  refine oLift st5 ?_
  show OG _ _ _ _ _ _ _ _ _ _ _ (mkF m 33 #[.val (.int i), .val (.ref a1)] [(.ref a4)])
  exact oRetA rfl W5 rfl rfl (by decide +kernel) (lb rfl) (lb rfl) (fun vm' hv => ⟨⟨_, rfl, F5.exa⟩, (exT (exW (exW E1 Wr2 g1) Wr3 g1) (exK E4 K5 (fun y hy => by cases List.mem_singleton.mp hy; exact g4)))⟩)
abbrev rm_c_ac : Room := { frames := 1, cells := 0, slots := 0, locals := 12 }
set_option maxRecDepth 65536 in
set_option maxHeartbeats 40000000 in
theorem c_ac {l : Launch} {Z : State} {a0 : Array Value} {nb : Bool} (K : Ctx Z a0) {a : Addr} {h0 : Heap} :
    OC l Z EL nb [] (⟨"java/util/AbstractCollection", "<init>", "()V"⟩ : MethodName) jdk_22_method_1_code 1 none rm_c_ac #[(.ref a)] h0 [] (fun v _ h => v = none ∧ h = h0) := by
  have hw := K.1
  have hS : ∀ a ∈ Bundle.stringAtoms, a.before a0 Z = true := K.2.2.1
  refine oEnter (by decide +kernel) K.2.1.2.1 ?_
  intro _p _e _s m _below _meth _c T0 W0 S0
  refine oEq (g' := mkF m 0 #[.val (.ref a)] []) (by first | (simp [entryFrame, mkF, argsToLocals, Value.category]; done) | rfl) ?_
  refine oGo W0 [.aload_n 0] (by decide +kernel) (ls' := #[.val (.ref a)]) (st' := [(.ref a)]) rfl rfl (pc' := 1) rfl ?_
  obtain ⟨T1, W1, st1⟩ := oInit W0 (idx := 1) (pc := 1) (ls := #[.val (.ref a)]) (st := []) (a := a) (hw _ (List.mem_of_getElem? (i := 52) rfl)) (hw _ (List.mem_of_getElem? (i := 16) rfl)) (hw _ (List.mem_of_getElem? (i := 17) rfl)) rfl (by decide +kernel) (lb rfl) (V := 0) (lb rfl) (lb rfl)
  refine oLift st1 ?_
  exact oRet0 W1 (by decide +kernel) (lb rfl) (lb rfl) (fun vm' hv => ⟨rfl, rfl⟩)
abbrev rm_c_abl : Room := { frames := 2, cells := 0, slots := 0, locals := 24 }
set_option maxRecDepth 65536 in
set_option maxHeartbeats 40000000 in
theorem c_abl {l : Launch} {Z : State} {a0 : Array Value} {nb : Bool} (K : Ctx Z a0) {a : Addr} {v0 v1 v2 : Value} {h0 : Heap} (hfr : Z.heap.size ≤ a) (X : Exa Z h0 a "java/util/ArrayList") (Fm : Fld Z h0 a "java/util/AbstractList" "modCount" "I" v0) (Fe : Fld Z h0 a "java/util/ArrayList" "elementData" "[Ljava/lang/Object;" v1) (Fs : Fld Z h0 a "java/util/ArrayList" "size" "I" v2) :
    OC l Z EL nb [] (⟨"java/util/AbstractList", "<init>", "()V"⟩ : MethodName) jdk_39_method_1_code 1 none rm_c_abl #[(.ref a)] h0 [] (fun v _ h => v = none ∧ Keep h0 h [a] ∧ Exa Z h a "java/util/ArrayList" ∧ Fld Z h a "java/util/AbstractList" "modCount" "I" (.int 0) ∧ Fld Z h a "java/util/ArrayList" "elementData" "[Ljava/lang/Object;" v1 ∧ Fld Z h a "java/util/ArrayList" "size" "I" v2) := by
  have hw := K.1
  have hS : ∀ a ∈ Bundle.stringAtoms, a.before a0 Z = true := K.2.2.1
  refine oEnter (by decide +kernel) K.2.1.2.1 ?_
  intro _p _e _s m _below _meth _c T0 W0 S0
  refine oEq (g' := mkF m 0 #[.val (.ref a)] []) (by first | (simp [entryFrame, mkF, argsToLocals, Value.category]; done) | rfl) ?_
  refine oGo W0 [.aload_n 0] (by decide +kernel) (ls' := #[.val (.ref a)]) (st' := [(.ref a)]) rfl rfl (pc' := 1) rfl ?_
  obtain ⟨v1, T1, L1, h1, vm1, W1, ⟨rfl, e1⟩, C1, st1⟩ := oCallN W0 (idx := 1) (pc := 1) (ls := #[.val (.ref a)]) (st := []) (a := a) (argsL := []) (c_ac K) (fun x hx => nomatch hx) rfl (hw _ (List.mem_of_getElem? (i := 46) rfl)) (hw _ (List.mem_of_getElem? (i := 47) rfl)) (hw _ (List.mem_of_getElem? (i := 50) rfl)) (hw _ (List.mem_of_getElem? (i := 51) rfl)) (by decide) (na := 0) rfl (by decide +kernel) rfl (stk := [(.ref a)]) rfl (by decide +kernel) (V := 0) (lb rfl) (lb rfl) (lb rfl) (lb rfl) (lb rfl)
  refine oLift st1 ?_
  rw [e1] at W1 C1
  show OG _ _ _ _ _ _ _ _ _ _ _ (mkF m 4 #[.val (.ref a)] [])
  refine oGo W1 [.aload_n 0, .iconst 0] (by decide +kernel) (ls' := #[.val (.ref a)]) (st' := [(.int (0 : Int32)), (.ref a)]) rfl rfl (pc' := 6) rfl ?_
  obtain ⟨T2, h2, W2, Wr2, F2, X2, C2, st2⟩ := oPutF W1 (idx := 7) (pc := 6) (ls := #[.val (.ref a)]) (st := []) (v := (.int (0 : Int32))) (hw _ (List.mem_of_getElem? (i := 53) rfl)) Via.refl Fm X (Or.inl (hw _ (List.mem_of_getElem? (i := 54) rfl))) (hw _ (List.mem_of_getElem? (i := 35) rfl)) (ty := .int) (by decide) rfl rfl hfr (Safe.exa W1.warm.alike X (by decide) (by decide)) (by decide +kernel)
  refine oLift st2 ?_
  exact oRet0 W2 (by decide +kernel) (lb rfl) (lb rfl) (fun vm' hv => ⟨rfl, ((Keep.refl _ [a]).wr Wr2 (Or.inl (List.mem_singleton.mpr rfl))), X2, F2, (Fe.other Wr2 (Or.inr (slot_ne (a0 := a0) (C := "java/util/ArrayList") (Or.inl (hw _ (List.mem_of_getElem? (i := 57) rfl))) (Or.inl (hw _ (List.mem_of_getElem? (i := 54) rfl))) (by decide) (t := (.array (.object "java/lang/Object"))) (t' := .int) (by decide) (by decide)))), (Fs.other Wr2 (Or.inr (slot_ne (a0 := a0) (C := "java/util/ArrayList") (Or.inl (hw _ (List.mem_of_getElem? (i := 70) rfl))) (Or.inl (hw _ (List.mem_of_getElem? (i := 54) rfl))) (by decide) (t := .int) (t' := .int) (by decide) (by decide))))⟩)
abbrev rm_c_ali : Room := { frames := 3, cells := 0, slots := 0, locals := 36 }
set_option maxRecDepth 65536 in
set_option maxHeartbeats 40000000 in
theorem c_ali {l : Launch} {Z : State} {a0 : Array Value} {nb : Bool} (K : Ctx Z a0) {a dc : Addr} {kd : ClassId} {v0 v1 : Value} {h0 : Heap} (G : DX Z dc kd) (hfr : Z.heap.size ≤ a) (X : Exa Z h0 a "java/util/ArrayList") (Fm : Fld Z h0 a "java/util/AbstractList" "modCount" "I" v0) (Fe : Fld Z h0 a "java/util/ArrayList" "elementData" "[Ljava/lang/Object;" v1) (Fs : Fld Z h0 a "java/util/ArrayList" "size" "I" (.int 0)) :
    OC l Z EL nb [] (⟨"java/util/ArrayList", "<init>", "()V"⟩ : MethodName) jdk_38_method_2_code 1 none rm_c_ali #[(.ref a)] h0 [] (fun v _ h => v = none ∧ Keep h0 h [a] ∧ LB Z h a dc 0) := by
  have hw := K.1
  have hS : ∀ a ∈ Bundle.stringAtoms, a.before a0 Z = true := K.2.2.1
  refine oEnter (by decide +kernel) K.2.1.2.1 ?_
  intro _p _e _s m _below _meth _c T0 W0 S0
  refine oEq (g' := mkF m 0 #[.val (.ref a)] []) (by first | (simp [entryFrame, mkF, argsToLocals, Value.category]; done) | rfl) ?_
  refine oGo W0 [.aload_n 0] (by decide +kernel) (ls' := #[.val (.ref a)]) (st' := [(.ref a)]) rfl rfl (pc' := 1) rfl ?_
  obtain ⟨v1, T1, L1, h1, vm1, W1, ⟨rfl, K1, X1, M1, D1, Z1⟩, C1, st1⟩ := oCallN W0 (idx := 1) (pc := 1) (ls := #[.val (.ref a)]) (st := []) (a := a) (argsL := []) (c_abl K hfr X Fm Fe Fs) (fun x hx => nomatch hx) rfl (hw _ (List.mem_of_getElem? (i := 40) rfl)) (hw _ (List.mem_of_getElem? (i := 41) rfl)) (hw _ (List.mem_of_getElem? (i := 44) rfl)) (hw _ (List.mem_of_getElem? (i := 45) rfl)) (by decide) (na := 0) rfl (by decide +kernel) rfl (stk := [(.ref a)]) rfl (by decide +kernel) (V := 0) (lb rfl) (lb rfl) (lb rfl) (lb rfl) (lb rfl)
  refine oLift st1 ?_
  show OG _ _ _ _ _ _ _ _ _ _ _ (mkF m 4 #[.val (.ref a)] [])
  refine oGo W1 [.aload_n 0] (by decide +kernel) (ls' := #[.val (.ref a)]) (st' := [(.ref a)]) rfl rfl (pc' := 5) rfl ?_
  obtain ⟨T2, W2, st2⟩ := oGetS W1 (pc := 5) (ls := #[.val (.ref a)]) (st := [(.ref a)]) (hw _ (List.mem_of_getElem? (i := 55) rfl)) Via.refl (G.1.ext W1.ext) (by decide +kernel)
  refine oLift st2 ?_
  obtain ⟨T3, h3, W3, Wr3, F3, X3, C3, st3⟩ := oPutF W2 (idx := 9) (pc := 8) (ls := #[.val (.ref a)]) (st := []) (v := (.ref dc)) (hw _ (List.mem_of_getElem? (i := 56) rfl)) Via.refl D1 X1 (Or.inl (hw _ (List.mem_of_getElem? (i := 57) rfl))) (hw _ (List.mem_of_getElem? (i := 35) rfl)) (ty := (.array (.object "java/lang/Object"))) (by decide) rfl rfl hfr (Safe.exa W2.warm.alike X1 (by decide) (by decide)) (by decide +kernel)
  refine oLift st3 ?_
  exact oRet0 W3 (by decide +kernel) (lb rfl) (lb rfl) (fun vm' hv => ⟨rfl, (((Keep.refl _ [a]).trans K1 (fun x hx => by cases List.mem_singleton.mp hx; exact Or.inl (List.mem_singleton.mpr rfl))).wr Wr3 (Or.inl (List.mem_singleton.mpr rfl))), X3, ⟨_, (M1.other Wr3 (Or.inr (slot_ne (a0 := a0) (C := "java/util/ArrayList") (Or.inl (hw _ (List.mem_of_getElem? (i := 54) rfl))) (Or.inl (hw _ (List.mem_of_getElem? (i := 57) rfl))) (by decide) (t := .int) (t' := (.array (.object "java/lang/Object"))) (by decide) (by decide))))⟩, F3, (Z1.other Wr3 (Or.inr (slot_ne (a0 := a0) (C := "java/util/ArrayList") (Or.inl (hw _ (List.mem_of_getElem? (i := 70) rfl))) (Or.inl (hw _ (List.mem_of_getElem? (i := 57) rfl))) (by decide) (t := .int) (t' := (.array (.object "java/lang/Object"))) (by decide) (by decide))))⟩)
abbrev rm_c_max : Room := { frames := 0, cells := 0, slots := 0, locals := 0 }
set_option maxRecDepth 65536 in
set_option maxHeartbeats 40000000 in
theorem c_max {l : Launch} {Z : State} {a0 : Array Value} {nb : Bool} (K : Ctx Z a0) {h0 : Heap} :
    OC l Z EL nb [] (⟨"java/lang/Math", "max", "(II)I"⟩ : MethodName) jdk_29_method_65_code 2 (some .int) rm_c_max #[(.int (10 : Int32)), (.int (1 : Int32))] h0 [] (fun v _ h => v = some (.int 10) ∧ h = h0) := by
  have hw := K.1
  have hS : ∀ a ∈ Bundle.stringAtoms, a.before a0 Z = true := K.2.2.1
  refine oEnter (by decide +kernel) K.2.1.2.1 ?_
  intro _p _e _s m _below _meth _c T0 W0 S0
  refine oEq (g' := mkF m 0 #[.val (.int (10 : Int32)), .val (.int (1 : Int32))] []) (by first | (simp [entryFrame, mkF, argsToLocals, Value.category]; done) | rfl) ?_
  refine oGo W0 [.iload_n 0, .iload_n 1] (by decide +kernel) (ls' := #[.val (.int (10 : Int32)), .val (.int (1 : Int32))]) (st' := [(.int (1 : Int32)), (.int (10 : Int32))]) rfl rfl (pc' := 2) rfl ?_
  refine oIcF W0 (cd := .lt) (o := 7) (by decide +kernel) (XT.ii_lt_f (by decide)) (pc' := 5) rfl ?_
  refine oGo W0 [.iload_n 0, .goto 4] (by decide +kernel) (ls' := #[.val (.int (10 : Int32)), .val (.int (1 : Int32))]) (st' := [(.int (10 : Int32))]) rfl rfl (pc' := 10) rfl ?_
  exact oRetI W0 (by decide +kernel) (lb rfl) (lb rfl) (fun vm' hv => ⟨rfl, rfl⟩)
abbrev rm_c_gr1 : Room := { frames := 1, cells := 1, slots := 10, locals := 14 }
set_option maxRecDepth 65536 in
set_option maxHeartbeats 40000000 in
theorem c_gr1 {l : Launch} {Z : State} {a0 : Array Value} {nb : Bool} (K : Ctx Z a0) {a dc : Addr} {kd : ClassId} {h0 : Heap} (G : DX Z dc kd) (hfr : Z.heap.size ≤ a) (hB : LB Z h0 a dc 0) :
    OC l Z EL nb [] (⟨"java/util/ArrayList", "grow", "(I)[Ljava/lang/Object;"⟩ : MethodName) jdk_38_method_6_code 4 (some (.array (.object "java/lang/Object"))) rm_c_gr1 #[(.ref a), (.int (1 : Int32))] h0 [] (fun v _ h => ∃ t kt, v = some (.ref t) ∧ h0.size ≤ t ∧ Keep h0 h [a] ∧ LB Z h a t 0 ∧ OA Z h t kt (.object "java/lang/Object") (List.replicate 10 .null) ∧ Ovr Z kt "java/lang/Object") := by
  have hw := K.1
  have hS : ∀ a ∈ Bundle.stringAtoms, a.before a0 Z = true := K.2.2.1
  obtain ⟨X, ⟨mq, Fm⟩, Fe, Fs⟩ := hB
  refine oEnter (by decide +kernel) K.2.1.2.1 ?_
  intro _p _e _s m _below _meth _c T0 W0 S0
  refine oEq (g' := mkF m 0 #[.val (.ref a), .val (.int (1 : Int32)), .unset, .unset] []) (by first | (simp [entryFrame, mkF, argsToLocals, Value.category]; done) | rfl) ?_
  refine oGo W0 [.aload_n 0] (by decide +kernel) (ls' := #[.val (.ref a), .val (.int (1 : Int32)), .unset, .unset]) (st' := [(.ref a)]) rfl rfl (pc' := 1) rfl ?_
  obtain ⟨T1, W1, st1⟩ := oGetF W0 (pc := 1) (ls := #[.val (.ref a), .val (.int (1 : Int32)), .unset, .unset]) (st := []) (hw _ (List.mem_of_getElem? (i := 56) rfl)) Via.refl Fe (by decide +kernel)
  refine oLift st1 ?_
  refine oLen W1 (G.2.ext W1.ext) (by decide +kernel) ?_
  show OG _ _ _ _ _ _ _ _ _ _ _ (mkF m 5 #[.val (.ref a), .val (.int (1 : Int32)), .unset, .unset] [(.int (0 : Int32))])
  refine oGo W1 [.istore_n 2, .iload_n 2] (by decide +kernel) (ls' := #[.val (.ref a), .val (.int (1 : Int32)), .val (.int (0 : Int32)), .unset]) (st' := [(.int (0 : Int32))]) rfl rfl (pc' := 7) rfl ?_
  refine oIfF W1 (cd := .gt) (o := 13) (by decide +kernel) (XT.i0_gt_f (by decide)) (pc' := 10) rfl ?_
  refine oGo W1 [.aload_n 0] (by decide +kernel) (ls' := #[.val (.ref a), .val (.int (1 : Int32)), .val (.int (0 : Int32)), .unset]) (st' := [(.ref a)]) rfl rfl (pc' := 11) rfl ?_
  obtain ⟨T2, W2, st2⟩ := oGetF W1 (pc := 11) (ls := #[.val (.ref a), .val (.int (1 : Int32)), .val (.int (0 : Int32)), .unset]) (st := []) (hw _ (List.mem_of_getElem? (i := 56) rfl)) Via.refl Fe (by decide +kernel)
  refine oLift st2 ?_
  obtain ⟨T3, W3, st3⟩ := oGetS W2 (pc := 14) (ls := #[.val (.ref a), .val (.int (1 : Int32)), .val (.int (0 : Int32)), .unset]) (st := [(.ref dc)]) (hw _ (List.mem_of_getElem? (i := 55) rfl)) Via.refl (G.1.ext W2.ext) (by decide +kernel)
  refine oLift st3 ?_
  refine oAcT W3 (cd := .eq) (o := 28) (by decide +kernel) rfl rfl (by simp [XT.acmp]) (pc' := 45) (by decide) (by decide) ?_
  refine oGo W3 [.aload_n 0, .bipush 10, .iload_n 1] (by decide +kernel) (ls' := #[.val (.ref a), .val (.int (1 : Int32)), .val (.int (0 : Int32)), .unset]) (st' := [(.int (1 : Int32)), (.int (10 : Int32)), (.ref a)]) rfl rfl (pc' := 49) rfl ?_
  obtain ⟨v4, T4, L4, h4, vm4, W4, ⟨rfl, e4⟩, C4, st4⟩ := oCallS W3 (idx := 79) (pc := 49) (ls := #[.val (.ref a), .val (.int (1 : Int32)), .val (.int (0 : Int32)), .unset]) (st := [(.ref a)]) (argsL := [(.int (10 : Int32)), (.int (1 : Int32))]) (c_max K) (fun x hx => nomatch hx) (hw _ (List.mem_of_getElem? (i := 86) rfl)) (hw _ (List.mem_of_getElem? (i := 87) rfl)) (hw _ (List.mem_of_getElem? (i := 88) rfl)) (hw _ (List.mem_of_getElem? (i := 89) rfl)) (by decide) (na := 2) rfl (by decide +kernel) rfl (stk := [(.int (1 : Int32)), (.int (10 : Int32)), (.ref a)]) rfl (by decide +kernel) (V := 1) (lb rfl) (lb rfl) (lb rfl) (lb rfl) (lb rfl)
  refine oLift st4 ?_
  rw [e4] at W4 C4
  show OG _ _ _ _ _ _ _ _ _ _ _ (mkF m 52 #[.val (.ref a), .val (.int (1 : Int32)), .val (.int (0 : Int32)), .unset] [(.int (10 : Int32)), (.ref a)])
  obtain ⟨T5, h5, t, kt, W5, g5, E5, A5, O5, C5, st5⟩ := oNewR W4 (pc := 52) (ls := #[.val (.ref a), .val (.int (1 : Int32)), .val (.int (0 : Int32)), .unset]) (st := [(.ref a)]) (hw _ (List.mem_of_getElem? (i := 90) rfl)) (hw _ (List.mem_of_getElem? (i := 91) rfl)) (by decide +kernel) (n := 10) (by decide) (cap := 10) (lb rfl) (lb rfl) (lb rfl) (lb rfl)
  refine oLift st5 ?_
  refine oGo W5 [.dup_x1] (by decide +kernel) (ls' := #[.val (.ref a), .val (.int (1 : Int32)), .val (.int (0 : Int32)), .unset]) (st' := [(.ref t), (.ref a), (.ref t)]) rfl rfl (pc' := 56) rfl ?_
  obtain ⟨T6, h6, W6, Wr6, F6, X6, C6, st6⟩ := oPutF W5 (idx := 9) (pc := 56) (ls := #[.val (.ref a), .val (.int (1 : Int32)), .val (.int (0 : Int32)), .unset]) (st := [(.ref t)]) (v := (.ref t)) (hw _ (List.mem_of_getElem? (i := 56) rfl)) Via.refl (Fe.ext E5) (X.ext E5) (Or.inl (hw _ (List.mem_of_getElem? (i := 57) rfl))) (hw _ (List.mem_of_getElem? (i := 35) rfl)) (ty := (.array (.object "java/lang/Object"))) (by decide) rfl rfl hfr (Safe.exa W5.warm.alike (X.ext E5) (by decide) (by decide)) (by decide +kernel)
  refine oLift st6 ?_
  exact oRetA rfl W6 rfl rfl (by decide +kernel) (lb rfl) (lb rfl) (fun vm' hv => ⟨t, kt, rfl, g5, (((Keep.refl _ [a]).ext E5).wr Wr6 (Or.inl (List.mem_singleton.mpr rfl))), ⟨X6, ⟨_, ((Fm.ext E5).other Wr6 (Or.inr (slot_ne (a0 := a0) (C := "java/util/ArrayList") (Or.inl (hw _ (List.mem_of_getElem? (i := 54) rfl))) (Or.inl (hw _ (List.mem_of_getElem? (i := 57) rfl))) (by decide) (t := .int) (t' := (.array (.object "java/lang/Object"))) (by decide) (by decide))))⟩, F6, ((Fs.ext E5).other Wr6 (Or.inr (slot_ne (a0 := a0) (C := "java/util/ArrayList") (Or.inl (hw _ (List.mem_of_getElem? (i := 70) rfl))) (Or.inl (hw _ (List.mem_of_getElem? (i := 57) rfl))) (by decide) (t := .int) (t' := (.array (.object "java/lang/Object"))) (by decide) (by decide))))⟩, (A5.other Wr6 (Nat.ne_of_gt (Nat.lt_of_lt_of_le X.lt g5))), O5⟩)
abbrev rm_c_gr0 : Room := { frames := 2, cells := 1, slots := 10, locals := 29 }
set_option maxRecDepth 65536 in
set_option maxHeartbeats 40000000 in
theorem c_gr0 {l : Launch} {Z : State} {a0 : Array Value} {nb : Bool} (K : Ctx Z a0) {a dc : Addr} {kd : ClassId} {h0 : Heap} (G : DX Z dc kd) (hfr : Z.heap.size ≤ a) (hB : LB Z h0 a dc 0) :
    OC l Z EL nb [] (⟨"java/util/ArrayList", "grow", "()[Ljava/lang/Object;"⟩ : MethodName) jdk_38_method_7_code 1 (some (.array (.object "java/lang/Object"))) rm_c_gr0 #[(.ref a)] h0 [] (fun v _ h => ∃ t kt, v = some (.ref t) ∧ h0.size ≤ t ∧ Keep h0 h [a] ∧ LB Z h a t 0 ∧ OA Z h t kt (.object "java/lang/Object") (List.replicate 10 .null) ∧ Ovr Z kt "java/lang/Object") := by
  have hw := K.1
  have hS : ∀ a ∈ Bundle.stringAtoms, a.before a0 Z = true := K.2.2.1
  have hB0 := hB
  obtain ⟨X, ⟨mq, Fm⟩, Fe, Fs⟩ := hB
  refine oEnter (by decide +kernel) K.2.1.2.1 ?_
  intro _p _e _s m _below _meth _c T0 W0 S0
  refine oEq (g' := mkF m 0 #[.val (.ref a)] []) (by first | (simp [entryFrame, mkF, argsToLocals, Value.category]; done) | rfl) ?_
  refine oGo W0 [.aload_n 0, .aload_n 0] (by decide +kernel) (ls' := #[.val (.ref a)]) (st' := [(.ref a), (.ref a)]) rfl rfl (pc' := 2) rfl ?_
  obtain ⟨T1, W1, st1⟩ := oGetF W0 (pc := 2) (ls := #[.val (.ref a)]) (st := [(.ref a)]) (hw _ (List.mem_of_getElem? (i := 69) rfl)) Via.refl Fs (by decide +kernel)
  refine oLift st1 ?_
  refine oGo W1 [.iconst 1, .iadd] (by decide +kernel) (ls' := #[.val (.ref a)]) (st' := [(.int ((0 : Int32) + (1 : Int32))), (.ref a)]) rfl rfl (pc' := 7) rfl ?_
  rw [show ((0 : Int32) + (1 : Int32)) = 1 from rfl]
  obtain ⟨v2, T2, L2, h2, vm2, W2, ⟨t, kt, rfl, g2, K2, B2, A2, O2⟩, C2, st2⟩ := oCallV W1 (idx := 69) (pc := 7) (ls := #[.val (.ref a)]) (st := []) (argsL := [(.int (1 : Int32))]) X (c_gr1 K G hfr hB0) (fun x hx => nomatch hx) (hw _ (List.mem_of_getElem? (i := 81) rfl)) (own_decl (hw _ (List.mem_of_getElem? (i := 82) rfl)) (hw _ (List.mem_of_getElem? (i := 85) rfl))) (notFace_of_selects (args := #[]) (mvT W1.warm (hw _ (List.mem_of_getElem? (i := 84) rfl)))) (hw _ (List.mem_of_getElem? (i := 84) rfl)) (hw _ (List.mem_of_getElem? (i := 82) rfl)) (hw _ (List.mem_of_getElem? (i := 36) rfl)) (hw _ (List.mem_of_getElem? (i := 85) rfl)) (by decide) (na := 1) rfl (by decide +kernel) rfl (stk := [(.int (1 : Int32)), (.ref a)]) rfl (by decide +kernel) (V := 0) (lb rfl) (lb rfl) (lb rfl) (lb rfl) (lb rfl)
  refine oLift st2 ?_
  show OG _ _ _ _ _ _ _ _ _ _ _ (mkF m 10 #[.val (.ref a)] [(.ref t)])
  exact oRetA rfl W2 rfl rfl (by decide +kernel) (lb rfl) (lb rfl) (fun vm' hv => ⟨t, kt, rfl, g2, K2, B2, A2, O2⟩)
abbrev rm_c_ap0 : Room := { frames := 3, cells := 1, slots := 10, locals := 41 }
set_option maxRecDepth 65536 in
set_option maxHeartbeats 40000000 in
theorem c_ap0 {l : Launch} {Z : State} {a0 : Array Value} {nb : Bool} (K : Ctx Z a0) {a dc : Addr} {kd : ClassId} {h0 : Heap} (G : DX Z dc kd) (hfr : Z.heap.size ≤ a) (hB : LB Z h0 a dc 0) {x : Addr} (Ex : Exa Z h0 x "java/lang/String") :
    OC l Z EL nb [] (⟨"java/util/ArrayList", "add", "(Ljava/lang/Object;[Ljava/lang/Object;I)V"⟩ : MethodName) jdk_38_method_24_code 4 none rm_c_ap0 #[(.ref a), (.ref x), (.ref dc), (.int (0 : Int32))] h0 [] (fun v _ h => v = none ∧ ∃ t kt, h0.size ≤ t ∧ Keep h0 h [a] ∧ LA Z h a t kt ((List.replicate 10 .null).set 0 (.ref x)) 1) := by
  have hw := K.1
  have hS : ∀ a ∈ Bundle.stringAtoms, a.before a0 Z = true := K.2.2.1
  have hB0 := hB
  obtain ⟨X, ⟨mq, Fm⟩, Fe, Fs⟩ := hB
  refine oEnter (by decide +kernel) K.2.1.2.1 ?_
  intro _p _e _s m _below _meth _c T0 W0 S0
  refine oEq (g' := mkF m 0 #[.val (.ref a), .val (.ref x), .val (.ref dc), .val (.int (0 : Int32))] []) (by first | (simp [entryFrame, mkF, argsToLocals, Value.category]; done) | rfl) ?_
  refine oGo W0 [.iload_n 3, .aload_n 2] (by decide +kernel) (ls' := #[.val (.ref a), .val (.ref x), .val (.ref dc), .val (.int (0 : Int32))]) (st' := [(.ref dc), (.int (0 : Int32))]) rfl rfl (pc' := 2) rfl ?_
  refine oLen W0 (G.2.ext W0.ext) (by decide +kernel) ?_
  show OG _ _ _ _ _ _ _ _ _ _ _ (mkF m 3 #[.val (.ref a), .val (.ref x), .val (.ref dc), .val (.int (0 : Int32))] [(.int (0 : Int32)), (.int (0 : Int32))])
  refine oIcF W0 (cd := .ne) (o := 8) (by decide +kernel) (XT.ii_ne_f (by decide)) (pc' := 6) rfl ?_
  refine oGo W0 [.aload_n 0] (by decide +kernel) (ls' := #[.val (.ref a), .val (.ref x), .val (.ref dc), .val (.int (0 : Int32))]) (st' := [(.ref a)]) rfl rfl (pc' := 7) rfl ?_
  obtain ⟨v1, T1, L1, h1, vm1, W1, ⟨t, kt, rfl, g1, K1, B1, A1, O1⟩, C1, st1⟩ := oCallV W0 (idx := 129) (pc := 7) (ls := #[.val (.ref a), .val (.ref x), .val (.ref dc), .val (.int (0 : Int32))]) (st := []) (argsL := []) X (c_gr0 K G hfr hB0) (fun x hx => nomatch hx) (hw _ (List.mem_of_getElem? (i := 76) rfl)) (own_decl (hw _ (List.mem_of_getElem? (i := 77) rfl)) (hw _ (List.mem_of_getElem? (i := 80) rfl))) (notFace_of_selects (args := #[]) (mvT W0.warm (hw _ (List.mem_of_getElem? (i := 79) rfl)))) (hw _ (List.mem_of_getElem? (i := 79) rfl)) (hw _ (List.mem_of_getElem? (i := 77) rfl)) (hw _ (List.mem_of_getElem? (i := 36) rfl)) (hw _ (List.mem_of_getElem? (i := 80) rfl)) (by decide) (na := 0) rfl (by decide +kernel) rfl (stk := [(.ref a)]) rfl (by decide +kernel) (V := 0) (lb rfl) (lb rfl) (lb rfl) (lb rfl) (lb rfl)
  refine oLift st1 ?_
  show OG _ _ _ _ _ _ _ _ _ _ _ (mkF m 10 #[.val (.ref a), .val (.ref x), .val (.ref dc), .val (.int (0 : Int32))] [(.ref t)])
  obtain ⟨X1, ⟨mq1, Fm1⟩, Fe1, Fs1⟩ := B1
  refine oGo W1 [.astore_n 2, .aload_n 2, .iload_n 3, .aload_n 1] (by decide +kernel) (ls' := #[.val (.ref a), .val (.ref x), .val (.ref t), .val (.int (0 : Int32))]) (st' := [(.ref x), (.int (0 : Int32)), (.ref t)]) rfl rfl (pc' := 14) rfl ?_
  obtain ⟨T2, h2, W2, Wr2, A2, C2, st2⟩ := oPutR W1 A1 O1 (Ins.of_exa (Ex.keep K1) (hw _ (List.mem_of_getElem? (i := 92) rfl))) (j := 0) (x := x) (pc := 14) (ls := #[.val (.ref a), .val (.ref x), .val (.ref t), .val (.int (0 : Int32))]) (st := []) (by decide) (i := 0) rfl (by decide) (Nat.le_trans W0.ext.1 g1) (by decide +kernel)
  refine oLift st2 ?_
  refine oGo W2 [.aload_n 0, .iload_n 3, .iconst 1, .iadd] (by decide +kernel) (ls' := #[.val (.ref a), .val (.ref x), .val (.ref t), .val (.int (0 : Int32))]) (st' := [(.int ((0 : Int32) + (1 : Int32))), (.ref a)]) rfl rfl (pc' := 19) rfl ?_
  rw [show ((0 : Int32) + (1 : Int32)) = 1 from rfl]
  obtain ⟨T3, h3, W3, Wr3, F3, X3, C3, st3⟩ := oPutF W2 (idx := 48) (pc := 19) (ls := #[.val (.ref a), .val (.ref x), .val (.ref t), .val (.int (0 : Int32))]) (st := []) (v := (.int (1 : Int32))) (hw _ (List.mem_of_getElem? (i := 69) rfl)) Via.refl (Fs1.other Wr2 (Or.inl (Nat.ne_of_lt (Nat.lt_of_lt_of_le X.lt g1)))) (X1.wr Wr2) (Or.inl (hw _ (List.mem_of_getElem? (i := 70) rfl))) (hw _ (List.mem_of_getElem? (i := 35) rfl)) (ty := .int) (by decide) rfl rfl hfr (Safe.exa W2.warm.alike (X1.wr Wr2) (by decide) (by decide)) (by decide +kernel)
  refine oLift st3 ?_
  exact oRet0 W3 (by decide +kernel) (lb rfl) (lb rfl) (fun vm' hv => ⟨rfl, t, kt, g1, ((((Keep.refl _ [a]).trans K1 (fun x hx => by cases List.mem_singleton.mp hx; exact Or.inl (List.mem_singleton.mpr rfl))).wr Wr2 (Or.inr (Nat.le_trans (exR _).1 g1))).wr Wr3 (Or.inl (List.mem_singleton.mpr rfl))), ⟨X3, ⟨_, ((Fm1.other Wr2 (Or.inl (Nat.ne_of_lt (Nat.lt_of_lt_of_le X.lt g1)))).other Wr3 (Or.inr (slot_ne (a0 := a0) (C := "java/util/ArrayList") (Or.inl (hw _ (List.mem_of_getElem? (i := 54) rfl))) (Or.inl (hw _ (List.mem_of_getElem? (i := 70) rfl))) (by decide) (t := .int) (t' := .int) (by decide) (by decide))))⟩, ((Fe1.other Wr2 (Or.inl (Nat.ne_of_lt (Nat.lt_of_lt_of_le X.lt g1)))).other Wr3 (Or.inr (slot_ne (a0 := a0) (C := "java/util/ArrayList") (Or.inl (hw _ (List.mem_of_getElem? (i := 57) rfl))) (Or.inl (hw _ (List.mem_of_getElem? (i := 70) rfl))) (by decide) (t := (.array (.object "java/lang/Object"))) (t' := .int) (by decide) (by decide)))), F3⟩, (A2.other Wr3 (Nat.ne_of_gt (Nat.lt_of_lt_of_le X.lt g1))), O1, (Nat.le_trans W0.ext.1 g1), Nat.ne_of_gt (Nat.lt_of_lt_of_le X.lt g1)⟩)
abbrev rm_c_apn : Room := { frames := 0, cells := 0, slots := 0, locals := 0 }
set_option maxRecDepth 65536 in
set_option maxHeartbeats 40000000 in
theorem c_apn {l : Launch} {Z : State} {a0 : Array Value} {nb : Bool} (K : Ctx Z a0) {a t x : Addr} {kt : ClassId} {vs : List Value} {n : Nat} {h0 : Heap} (hfr : Z.heap.size ≤ a) (hA : LA Z h0 a t kt vs n) (hv : vs.length = 10) (hn : n < 10) (Ex : Exa Z h0 x "java/lang/String") :
    OC l Z EL nb [] (⟨"java/util/ArrayList", "add", "(Ljava/lang/Object;[Ljava/lang/Object;I)V"⟩ : MethodName) jdk_38_method_24_code 4 none rm_c_apn #[(.ref a), (.ref x), (.ref t), (.int (Int32.ofNat n))] h0 [] (fun v _ h => v = none ∧ Keep h0 h [a, t] ∧ LA Z h a t kt (vs.set n (.ref x)) (n + 1)) := by
  have hw := K.1
  have hS : ∀ a ∈ Bundle.stringAtoms, a.before a0 Z = true := K.2.2.1
  obtain ⟨⟨X, ⟨mq, Fm⟩, Fe, Fs⟩, At, Ot, hzt, hta⟩ := hA
  refine oEnter (by decide +kernel) K.2.1.2.1 ?_
  intro _p _e _s m _below _meth _c T0 W0 S0
  refine oEq (g' := mkF m 0 #[.val (.ref a), .val (.ref x), .val (.ref t), .val (.int (Int32.ofNat n))] []) (by first | (simp [entryFrame, mkF, argsToLocals, Value.category]; done) | rfl) ?_
  refine oGo W0 [.iload_n 3, .aload_n 2] (by decide +kernel) (ls' := #[.val (.ref a), .val (.ref x), .val (.ref t), .val (.int (Int32.ofNat n))]) (st' := [(.ref t), (.int (Int32.ofNat n))]) rfl rfl (pc' := 2) rfl ?_
  refine oLen W0 At (by decide +kernel) ?_
  rw [hv]
  refine oIcT W0 (cd := .ne) (o := 8) (by decide +kernel) (XT.ii_ne_t (fun q => by have := congrArg Int32.toNatClampNeg q; rw [n_cl (by omega)] at this; exact absurd (show n = 10 from this) (by omega))) (pc' := 11) (by decide) (by decide) ?_
  refine oGo W0 [.aload_n 2, .iload_n 3, .aload_n 1] (by decide +kernel) (ls' := #[.val (.ref a), .val (.ref x), .val (.ref t), .val (.int (Int32.ofNat n))]) (st' := [(.ref x), (.int (Int32.ofNat n)), (.ref t)]) rfl rfl (pc' := 14) rfl ?_
  obtain ⟨T1, h1, W1, Wr1, A1, C1, st1⟩ := oPutR W0 At Ot (Ins.of_exa Ex (hw _ (List.mem_of_getElem? (i := 92) rfl))) (j := Int32.ofNat n) (x := x) (pc := 14) (ls := #[.val (.ref a), .val (.ref x), .val (.ref t), .val (.int (Int32.ofNat n))]) (st := []) (n_nn (by omega)) (i := n) (n_cl (by omega)) (by omega) hzt (by decide +kernel)
  refine oLift st1 ?_
  refine oGo W1 [.aload_n 0, .iload_n 3, .iconst 1, .iadd] (by decide +kernel) (ls' := #[.val (.ref a), .val (.ref x), .val (.ref t), .val (.int (Int32.ofNat n))]) (st' := [(.int ((Int32.ofNat n) + (1 : Int32))), (.ref a)]) rfl rfl (pc' := 19) rfl ?_
  rw [n_in]
  obtain ⟨T2, h2, W2, Wr2, F2, X2, C2, st2⟩ := oPutF W1 (idx := 48) (pc := 19) (ls := #[.val (.ref a), .val (.ref x), .val (.ref t), .val (.int (Int32.ofNat n))]) (st := []) (v := (.int (Int32.ofNat (n + 1)))) (hw _ (List.mem_of_getElem? (i := 69) rfl)) Via.refl (Fs.other Wr1 (Or.inl (Ne.symm hta))) (X.wr Wr1) (Or.inl (hw _ (List.mem_of_getElem? (i := 70) rfl))) (hw _ (List.mem_of_getElem? (i := 35) rfl)) (ty := .int) (by decide) rfl rfl hfr (Safe.exa W1.warm.alike (X.wr Wr1) (by decide) (by decide)) (by decide +kernel)
  refine oLift st2 ?_
  exact oRet0 W2 (by decide +kernel) (lb rfl) (lb rfl) (fun vm' hv => ⟨rfl, ((Keep.refl _ [a, t]).wr Wr1 (Or.inl (List.mem_cons_of_mem _ (List.mem_cons_self ..)))).wr Wr2 (Or.inl (List.mem_cons_self ..)), ⟨X2, ⟨_, ((Fm.other Wr1 (Or.inl (Ne.symm hta))).other Wr2 (Or.inr (slot_ne (a0 := a0) (C := "java/util/ArrayList") (Or.inl (hw _ (List.mem_of_getElem? (i := 54) rfl))) (Or.inl (hw _ (List.mem_of_getElem? (i := 70) rfl))) (by decide) (t := .int) (t' := .int) (by decide) (by decide))))⟩, ((Fe.other Wr1 (Or.inl (Ne.symm hta))).other Wr2 (Or.inr (slot_ne (a0 := a0) (C := "java/util/ArrayList") (Or.inl (hw _ (List.mem_of_getElem? (i := 57) rfl))) (Or.inl (hw _ (List.mem_of_getElem? (i := 70) rfl))) (by decide) (t := (.array (.object "java/lang/Object"))) (t' := .int) (by decide) (by decide)))), F2⟩, (A1.other Wr2 hta), Ot, hzt, hta⟩)
abbrev rm_c_ad0 : Room := { frames := 4, cells := 1, slots := 10, locals := 56 }
set_option maxRecDepth 65536 in
set_option maxHeartbeats 40000000 in
theorem c_ad0 {l : Launch} {Z : State} {a0 : Array Value} {nb : Bool} (K : Ctx Z a0) {a dc : Addr} {kd : ClassId} {h0 : Heap} (G : DX Z dc kd) (hfr : Z.heap.size ≤ a) (hB : LB Z h0 a dc 0) {x : Addr} (Ex : Exa Z h0 x "java/lang/String") :
    OC l Z EL nb [] (⟨"java/util/ArrayList", "add", "(Ljava/lang/Object;)Z"⟩ : MethodName) jdk_38_method_25_code 2 (some .boolean) rm_c_ad0 #[(.ref a), (.ref x)] h0 [] (fun v _ h => v = some (.int 1) ∧ ∃ t kt, h0.size ≤ t ∧ Keep h0 h [a] ∧ LA Z h a t kt ((List.replicate 10 .null).set 0 (.ref x)) 1) := by
  have hw := K.1
  have hS : ∀ a ∈ Bundle.stringAtoms, a.before a0 Z = true := K.2.2.1
  obtain ⟨X, ⟨mq, Fm⟩, Fe, Fs⟩ := hB
  refine oEnter (by decide +kernel) K.2.1.2.1 ?_
  intro _p _e _s m _below _meth _c T0 W0 S0
  refine oEq (g' := mkF m 0 #[.val (.ref a), .val (.ref x)] []) (by first | (simp [entryFrame, mkF, argsToLocals, Value.category]; done) | rfl) ?_
  refine oGo W0 [.aload_n 0, .dup] (by decide +kernel) (ls' := #[.val (.ref a), .val (.ref x)]) (st' := [(.ref a), (.ref a)]) rfl rfl (pc' := 2) rfl ?_
  obtain ⟨T1, W1, st1⟩ := oGetF W0 (pc := 2) (ls := #[.val (.ref a), .val (.ref x)]) (st := [(.ref a)]) (hw _ (List.mem_of_getElem? (i := 67) rfl)) (Via.of (hw _ (List.mem_of_getElem? (i := 68) rfl))) Fm (by decide +kernel)
  refine oLift st1 ?_
  refine oGo W1 [.iconst 1, .iadd] (by decide +kernel) (ls' := #[.val (.ref a), .val (.ref x)]) (st' := [(.int (mq + (1 : Int32))), (.ref a)]) rfl rfl (pc' := 7) rfl ?_
  obtain ⟨T2, h2, W2, Wr2, F2, X2, C2, st2⟩ := oPutF W1 (idx := 63) (pc := 7) (ls := #[.val (.ref a), .val (.ref x)]) (st := []) (v := (.int (mq + (1 : Int32)))) (hw _ (List.mem_of_getElem? (i := 67) rfl)) (Via.of (hw _ (List.mem_of_getElem? (i := 68) rfl))) Fm X (Or.inl (hw _ (List.mem_of_getElem? (i := 54) rfl))) (hw _ (List.mem_of_getElem? (i := 35) rfl)) (ty := .int) (by decide) rfl rfl hfr (Safe.exa W1.warm.alike X (by decide) (by decide)) (by decide +kernel)
  refine oLift st2 ?_
  refine oGo W2 [.aload_n 0, .aload_n 1, .aload_n 0] (by decide +kernel) (ls' := #[.val (.ref a), .val (.ref x)]) (st' := [(.ref a), (.ref x), (.ref a)]) rfl rfl (pc' := 13) rfl ?_
  obtain ⟨T3, W3, st3⟩ := oGetF W2 (pc := 13) (ls := #[.val (.ref a), .val (.ref x)]) (st := [(.ref x), (.ref a)]) (hw _ (List.mem_of_getElem? (i := 56) rfl)) Via.refl (Fe.other Wr2 (Or.inr (slot_ne (a0 := a0) (C := "java/util/ArrayList") (Or.inl (hw _ (List.mem_of_getElem? (i := 57) rfl))) (Or.inl (hw _ (List.mem_of_getElem? (i := 54) rfl))) (by decide) (t := (.array (.object "java/lang/Object"))) (t' := .int) (by decide) (by decide)))) (by decide +kernel)
  refine oLift st3 ?_
  refine oGo W3 [.aload_n 0] (by decide +kernel) (ls' := #[.val (.ref a), .val (.ref x)]) (st' := [(.ref a), (.ref dc), (.ref x), (.ref a)]) rfl rfl (pc' := 17) rfl ?_
  obtain ⟨T4, W4, st4⟩ := oGetF W3 (pc := 17) (ls := #[.val (.ref a), .val (.ref x)]) (st := [(.ref dc), (.ref x), (.ref a)]) (hw _ (List.mem_of_getElem? (i := 69) rfl)) Via.refl (Fs.other Wr2 (Or.inr (slot_ne (a0 := a0) (C := "java/util/ArrayList") (Or.inl (hw _ (List.mem_of_getElem? (i := 70) rfl))) (Or.inl (hw _ (List.mem_of_getElem? (i := 54) rfl))) (by decide) (t := .int) (t' := .int) (by decide) (by decide)))) (by decide +kernel)
  refine oLift st4 ?_
  have hB1 : LB Z h2 a dc 0 := ⟨X2, ⟨_, F2⟩, (Fe.other Wr2 (Or.inr (slot_ne (a0 := a0) (C := "java/util/ArrayList") (Or.inl (hw _ (List.mem_of_getElem? (i := 57) rfl))) (Or.inl (hw _ (List.mem_of_getElem? (i := 54) rfl))) (by decide) (t := (.array (.object "java/lang/Object"))) (t' := .int) (by decide) (by decide)))), (Fs.other Wr2 (Or.inr (slot_ne (a0 := a0) (C := "java/util/ArrayList") (Or.inl (hw _ (List.mem_of_getElem? (i := 70) rfl))) (Or.inl (hw _ (List.mem_of_getElem? (i := 54) rfl))) (by decide) (t := .int) (t' := .int) (by decide) (by decide))))⟩
  obtain ⟨v5, T5, L5, h5, vm5, W5, ⟨rfl, t, kt, g5, K5, A5⟩, C5, st5⟩ := oCallV W4 (idx := 131) (pc := 20) (ls := #[.val (.ref a), .val (.ref x)]) (st := []) (argsL := [(.ref x), (.ref dc), (.int (0 : Int32))]) X2 (c_ap0 K G hfr hB1 (Ex.wr Wr2)) (fun x hx => nomatch hx) (hw _ (List.mem_of_getElem? (i := 71) rfl)) (own_decl (hw _ (List.mem_of_getElem? (i := 72) rfl)) (hw _ (List.mem_of_getElem? (i := 75) rfl))) (notFace_of_selects (args := #[]) (mvT W4.warm (hw _ (List.mem_of_getElem? (i := 74) rfl)))) (hw _ (List.mem_of_getElem? (i := 74) rfl)) (hw _ (List.mem_of_getElem? (i := 72) rfl)) (hw _ (List.mem_of_getElem? (i := 36) rfl)) (hw _ (List.mem_of_getElem? (i := 75) rfl)) (by decide) (na := 3) rfl (by decide +kernel) rfl (stk := [(.int (0 : Int32)), (.ref dc), (.ref x), (.ref a)]) rfl (by decide +kernel) (V := 0) (lb rfl) (lb rfl) (lb rfl) (lb rfl) (lb rfl)
  refine oLift st5 ?_
  show OG _ _ _ _ _ _ _ _ _ _ _ (mkF m 23 #[.val (.ref a), .val (.ref x)] [])
  refine oGo W5 [.iconst 1] (by decide +kernel) (ls' := #[.val (.ref a), .val (.ref x)]) (st' := [(.int (1 : Int32))]) rfl rfl (pc' := 24) rfl ?_
  exact oRetN (by simp) W5 rfl (by decide +kernel) (lb rfl) (lb rfl) (fun vm' hv => ⟨rfl, t, kt, Nat.le_trans (Nat.le_of_eq Wr2.size.symm) g5, (((Keep.refl _ [a]).wr Wr2 (Or.inl (List.mem_singleton.mpr rfl))).trans K5 (fun x hx => by cases List.mem_singleton.mp hx; exact Or.inl (List.mem_singleton.mpr rfl))), A5⟩)
abbrev rm_c_adn : Room := { frames := 1, cells := 0, slots := 0, locals := 15 }
set_option maxRecDepth 65536 in
set_option maxHeartbeats 40000000 in
theorem c_adn {l : Launch} {Z : State} {a0 : Array Value} {nb : Bool} (K : Ctx Z a0) {a t x : Addr} {kt : ClassId} {vs : List Value} {n : Nat} {h0 : Heap} (hfr : Z.heap.size ≤ a) (hA : LA Z h0 a t kt vs n) (hv : vs.length = 10) (hn : n < 10) (Ex : Exa Z h0 x "java/lang/String") :
    OC l Z EL nb [] (⟨"java/util/ArrayList", "add", "(Ljava/lang/Object;)Z"⟩ : MethodName) jdk_38_method_25_code 2 (some .boolean) rm_c_adn #[(.ref a), (.ref x)] h0 [] (fun v _ h => v = some (.int 1) ∧ Keep h0 h [a, t] ∧ LA Z h a t kt (vs.set n (.ref x)) (n + 1)) := by
  have hw := K.1
  have hS : ∀ a ∈ Bundle.stringAtoms, a.before a0 Z = true := K.2.2.1
  obtain ⟨⟨X, ⟨mq, Fm⟩, Fe, Fs⟩, At, Ot, hzt, hta⟩ := hA
  refine oEnter (by decide +kernel) K.2.1.2.1 ?_
  intro _p _e _s m _below _meth _c T0 W0 S0
  refine oEq (g' := mkF m 0 #[.val (.ref a), .val (.ref x)] []) (by first | (simp [entryFrame, mkF, argsToLocals, Value.category]; done) | rfl) ?_
  refine oGo W0 [.aload_n 0, .dup] (by decide +kernel) (ls' := #[.val (.ref a), .val (.ref x)]) (st' := [(.ref a), (.ref a)]) rfl rfl (pc' := 2) rfl ?_
  obtain ⟨T1, W1, st1⟩ := oGetF W0 (pc := 2) (ls := #[.val (.ref a), .val (.ref x)]) (st := [(.ref a)]) (hw _ (List.mem_of_getElem? (i := 67) rfl)) (Via.of (hw _ (List.mem_of_getElem? (i := 68) rfl))) Fm (by decide +kernel)
  refine oLift st1 ?_
  refine oGo W1 [.iconst 1, .iadd] (by decide +kernel) (ls' := #[.val (.ref a), .val (.ref x)]) (st' := [(.int (mq + (1 : Int32))), (.ref a)]) rfl rfl (pc' := 7) rfl ?_
  obtain ⟨T2, h2, W2, Wr2, F2, X2, C2, st2⟩ := oPutF W1 (idx := 63) (pc := 7) (ls := #[.val (.ref a), .val (.ref x)]) (st := []) (v := (.int (mq + (1 : Int32)))) (hw _ (List.mem_of_getElem? (i := 67) rfl)) (Via.of (hw _ (List.mem_of_getElem? (i := 68) rfl))) Fm X (Or.inl (hw _ (List.mem_of_getElem? (i := 54) rfl))) (hw _ (List.mem_of_getElem? (i := 35) rfl)) (ty := .int) (by decide) rfl rfl hfr (Safe.exa W1.warm.alike X (by decide) (by decide)) (by decide +kernel)
  refine oLift st2 ?_
  refine oGo W2 [.aload_n 0, .aload_n 1, .aload_n 0] (by decide +kernel) (ls' := #[.val (.ref a), .val (.ref x)]) (st' := [(.ref a), (.ref x), (.ref a)]) rfl rfl (pc' := 13) rfl ?_
  obtain ⟨T3, W3, st3⟩ := oGetF W2 (pc := 13) (ls := #[.val (.ref a), .val (.ref x)]) (st := [(.ref x), (.ref a)]) (hw _ (List.mem_of_getElem? (i := 56) rfl)) Via.refl (Fe.other Wr2 (Or.inr (slot_ne (a0 := a0) (C := "java/util/ArrayList") (Or.inl (hw _ (List.mem_of_getElem? (i := 57) rfl))) (Or.inl (hw _ (List.mem_of_getElem? (i := 54) rfl))) (by decide) (t := (.array (.object "java/lang/Object"))) (t' := .int) (by decide) (by decide)))) (by decide +kernel)
  refine oLift st3 ?_
  refine oGo W3 [.aload_n 0] (by decide +kernel) (ls' := #[.val (.ref a), .val (.ref x)]) (st' := [(.ref a), (.ref t), (.ref x), (.ref a)]) rfl rfl (pc' := 17) rfl ?_
  obtain ⟨T4, W4, st4⟩ := oGetF W3 (pc := 17) (ls := #[.val (.ref a), .val (.ref x)]) (st := [(.ref t), (.ref x), (.ref a)]) (hw _ (List.mem_of_getElem? (i := 69) rfl)) Via.refl (Fs.other Wr2 (Or.inr (slot_ne (a0 := a0) (C := "java/util/ArrayList") (Or.inl (hw _ (List.mem_of_getElem? (i := 70) rfl))) (Or.inl (hw _ (List.mem_of_getElem? (i := 54) rfl))) (by decide) (t := .int) (t' := .int) (by decide) (by decide)))) (by decide +kernel)
  refine oLift st4 ?_
  have hA1 : LA Z h2 a t kt vs n := ⟨⟨X2, ⟨_, F2⟩, (Fe.other Wr2 (Or.inr (slot_ne (a0 := a0) (C := "java/util/ArrayList") (Or.inl (hw _ (List.mem_of_getElem? (i := 57) rfl))) (Or.inl (hw _ (List.mem_of_getElem? (i := 54) rfl))) (by decide) (t := (.array (.object "java/lang/Object"))) (t' := .int) (by decide) (by decide)))), (Fs.other Wr2 (Or.inr (slot_ne (a0 := a0) (C := "java/util/ArrayList") (Or.inl (hw _ (List.mem_of_getElem? (i := 70) rfl))) (Or.inl (hw _ (List.mem_of_getElem? (i := 54) rfl))) (by decide) (t := .int) (t' := .int) (by decide) (by decide))))⟩, (At.other Wr2 hta), Ot, hzt, hta⟩
  obtain ⟨v5, T5, L5, h5, vm5, W5, ⟨rfl, K5, A5⟩, C5, st5⟩ := oCallV W4 (idx := 131) (pc := 20) (ls := #[.val (.ref a), .val (.ref x)]) (st := []) (argsL := [(.ref x), (.ref t), (.int (Int32.ofNat n))]) X2 (c_apn K hfr hA1 hv hn (Ex.wr Wr2)) (fun x hx => nomatch hx) (hw _ (List.mem_of_getElem? (i := 71) rfl)) (own_decl (hw _ (List.mem_of_getElem? (i := 72) rfl)) (hw _ (List.mem_of_getElem? (i := 75) rfl))) (notFace_of_selects (args := #[]) (mvT W4.warm (hw _ (List.mem_of_getElem? (i := 74) rfl)))) (hw _ (List.mem_of_getElem? (i := 74) rfl)) (hw _ (List.mem_of_getElem? (i := 72) rfl)) (hw _ (List.mem_of_getElem? (i := 36) rfl)) (hw _ (List.mem_of_getElem? (i := 75) rfl)) (by decide) (na := 3) rfl (by decide +kernel) rfl (stk := [(.int (Int32.ofNat n)), (.ref t), (.ref x), (.ref a)]) rfl (by decide +kernel) (V := 0) (lb rfl) (lb rfl) (lb rfl) (lb rfl) (lb rfl)
  refine oLift st5 ?_
  show OG _ _ _ _ _ _ _ _ _ _ _ (mkF m 23 #[.val (.ref a), .val (.ref x)] [])
  refine oGo W5 [.iconst 1] (by decide +kernel) (ls' := #[.val (.ref a), .val (.ref x)]) (st' := [(.int (1 : Int32))]) rfl rfl (pc' := 24) rfl ?_
  exact oRetN (by simp) W5 rfl (by decide +kernel) (lb rfl) (lb rfl) (fun vm' hv => ⟨rfl, ((Keep.refl _ [a, t]).wr Wr2 (Or.inl (List.mem_cons_self ..))).trans K5 (fun y hy => Or.inl hy), A5⟩)
abbrev rm_c_siz : Room := { frames := 0, cells := 0, slots := 0, locals := 0 }
set_option maxRecDepth 65536 in
set_option maxHeartbeats 40000000 in
theorem c_siz {l : Launch} {Z : State} {a0 : Array Value} {nb : Bool} (K : Ctx Z a0) {a t : Addr} {n : Nat} {h0 : Heap} (hB : LB Z h0 a t n) :
    OC l Z EL nb [] (⟨"java/util/ArrayList", "size", "()I"⟩ : MethodName) jdk_38_method_8_code 1 (some .int) rm_c_siz #[(.ref a)] h0 [] (fun v _ h => v = some (.int (Int32.ofNat n)) ∧ h = h0) := by
  have hw := K.1
  have hS : ∀ a ∈ Bundle.stringAtoms, a.before a0 Z = true := K.2.2.1
  obtain ⟨X, ⟨mq, Fm⟩, Fe, Fs⟩ := hB
  refine oEnter (by decide +kernel) K.2.1.2.1 ?_
  intro _p _e _s m _below _meth _c T0 W0 S0
  refine oEq (g' := mkF m 0 #[.val (.ref a)] []) (by first | (simp [entryFrame, mkF, argsToLocals, Value.category]; done) | rfl) ?_
  refine oGo W0 [.aload_n 0] (by decide +kernel) (ls' := #[.val (.ref a)]) (st' := [(.ref a)]) rfl rfl (pc' := 1) rfl ?_
  obtain ⟨T1, W1, st1⟩ := oGetF W0 (pc := 1) (ls := #[.val (.ref a)]) (st := []) (hw _ (List.mem_of_getElem? (i := 69) rfl)) Via.refl Fs (by decide +kernel)
  refine oLift st1 ?_
  exact oRetI W1 (by decide +kernel) (lb rfl) (lb rfl) (fun vm' hv => ⟨rfl, rfl⟩)
abbrev rm_c_oci : Room := { frames := 1, cells := 0, slots := 0, locals := 14 }
set_option maxRecDepth 65536 in
set_option maxHeartbeats 40000000 in
theorem c_oci {l : Launch} {Z : State} {a0 : Array Value} {nb : Bool} (K : Ctx Z a0) {i n : Int32} {h0 : Heap} (hi : ¬ i < 0) (hn : i < n) :
    OC l Z EL nb [] (⟨"java/util/Objects", "checkIndex", "(II)I"⟩ : MethodName) jdk_31_method_17_code 2 (some .int) rm_c_oci #[(.int i), (.int n)] h0 [] (fun v _ h => v = some (.int i) ∧ h = h0) := by
  have hw := K.1
  have hS : ∀ a ∈ Bundle.stringAtoms, a.before a0 Z = true := K.2.2.1
  refine oEnter (by decide +kernel) K.2.1.2.1 ?_
  intro _p _e _s m _below _meth _c T0 W0 S0
  refine oEq (g' := mkF m 0 #[.val (.int i), .val (.int n)] []) (by first | (simp [entryFrame, mkF, argsToLocals, Value.category]; done) | rfl) ?_
  refine oGo W0 [.iload_n 0, .iload_n 1, .aconst_null] (by decide +kernel) (ls' := #[.val (.int i), .val (.int n)]) (st' := [(.null), (.int n), (.int i)]) rfl rfl (pc' := 3) rfl ?_
  obtain ⟨v1, T1, L1, h1, vm1, W1, ⟨rfl, e1⟩, C1, st1⟩ := oCallS W0 (idx := 105) (pc := 3) (ls := #[.val (.int i), .val (.int n)]) (st := []) (argsL := [(.int i), (.int n), (.null)]) (c_pci K hi hn) (fun x hx => nomatch hx) (hw _ (List.mem_of_getElem? (i := 121) rfl)) (hw _ (List.mem_of_getElem? (i := 122) rfl)) (hw _ (List.mem_of_getElem? (i := 123) rfl)) (hw _ (List.mem_of_getElem? (i := 124) rfl)) (by decide) (na := 3) rfl (by decide +kernel) rfl (stk := [(.null), (.int n), (.int i)]) rfl (by decide +kernel) (V := 0) (lb rfl) (lb rfl) (lb rfl) (lb rfl) (lb rfl)
  refine oLift st1 ?_
  rw [e1] at W1 C1
  show OG _ _ _ _ _ _ _ _ _ _ _ (mkF m 6 #[.val (.int i), .val (.int n)] [(.int i)])
  exact oRetI W1 (by decide +kernel) (lb rfl) (lb rfl) (fun vm' hv => ⟨rfl, rfl⟩)
abbrev rm_c_ed : Room := { frames := 0, cells := 0, slots := 0, locals := 0 }
set_option maxRecDepth 65536 in
set_option maxHeartbeats 40000000 in
theorem c_ed {l : Launch} {Z : State} {a0 : Array Value} {nb : Bool} (K : Ctx Z a0) {a t x : Addr} {kt : ClassId} {vs : List Value} {n i : Nat} {h0 : Heap} (hA : LA Z h0 a t kt vs n) (hn : n < 10) (hi : i < n) (hx : vs[i]? = some (.ref x)) :
    OC l Z EL nb [] (⟨"java/util/ArrayList", "elementData", "(I)Ljava/lang/Object;"⟩ : MethodName) jdk_38_method_18_code 2 (some (.object "java/lang/Object")) rm_c_ed #[(.ref a), (.int (Int32.ofNat i))] h0 [] (fun v _ h => v = some (.ref x) ∧ h = h0) := by
  have hw := K.1
  have hS : ∀ a ∈ Bundle.stringAtoms, a.before a0 Z = true := K.2.2.1
  obtain ⟨⟨X, ⟨mq, Fm⟩, Fe, Fs⟩, At, Ot, hzt, hta⟩ := hA
  refine oEnter (by decide +kernel) K.2.1.2.1 ?_
  intro _p _e _s m _below _meth _c T0 W0 S0
  refine oEq (g' := mkF m 0 #[.val (.ref a), .val (.int (Int32.ofNat i))] []) (by first | (simp [entryFrame, mkF, argsToLocals, Value.category]; done) | rfl) ?_
  refine oGo W0 [.aload_n 0] (by decide +kernel) (ls' := #[.val (.ref a), .val (.int (Int32.ofNat i))]) (st' := [(.ref a)]) rfl rfl (pc' := 1) rfl ?_
  obtain ⟨T1, W1, st1⟩ := oGetF W0 (pc := 1) (ls := #[.val (.ref a), .val (.int (Int32.ofNat i))]) (st := []) (hw _ (List.mem_of_getElem? (i := 56) rfl)) Via.refl Fe (by decide +kernel)
  refine oLift st1 ?_
  refine oGo W1 [.iload_n 1] (by decide +kernel) (ls' := #[.val (.ref a), .val (.int (Int32.ofNat i))]) (st' := [(.int (Int32.ofNat i)), (.ref t)]) rfl rfl (pc' := 5) rfl ?_
  refine oGet W1 At (v := (.ref x)) (n_nn (by omega)) (by rw [n_cl (by omega)]; exact hx) (Or.inr (Or.inr (Or.inr ⟨rfl, rfl⟩))) (by decide +kernel) ?_
  exact oRetA rfl W1 rfl rfl (by decide +kernel) (lb rfl) (lb rfl) (fun vm' hv => ⟨rfl, rfl⟩)
abbrev rm_c_get : Room := { frames := 2, cells := 0, slots := 0, locals := 27 }
set_option maxRecDepth 65536 in
set_option maxHeartbeats 40000000 in
theorem c_get {l : Launch} {Z : State} {a0 : Array Value} {nb : Bool} (K : Ctx Z a0) {a t x : Addr} {kt : ClassId} {vs : List Value} {n i : Nat} {h0 : Heap} (hA : LA Z h0 a t kt vs n) (hn : n < 10) (hi : i < n) (hx : vs[i]? = some (.ref x)) :
    OC l Z EL nb [] (⟨"java/util/ArrayList", "get", "(I)Ljava/lang/Object;"⟩ : MethodName) jdk_38_method_20_code 2 (some (.object "java/lang/Object")) rm_c_get #[(.ref a), (.int (Int32.ofNat i))] h0 [] (fun v _ h => v = some (.ref x) ∧ h = h0) := by
  have hw := K.1
  have hS : ∀ a ∈ Bundle.stringAtoms, a.before a0 Z = true := K.2.2.1
  have hA0 := hA
  obtain ⟨⟨X, ⟨mq, Fm⟩, Fe, Fs⟩, At, Ot, hzt, hta⟩ := hA
  refine oEnter (by decide +kernel) K.2.1.2.1 ?_
  intro _p _e _s m _below _meth _c T0 W0 S0
  refine oEq (g' := mkF m 0 #[.val (.ref a), .val (.int (Int32.ofNat i))] []) (by first | (simp [entryFrame, mkF, argsToLocals, Value.category]; done) | rfl) ?_
  refine oGo W0 [.iload_n 1, .aload_n 0] (by decide +kernel) (ls' := #[.val (.ref a), .val (.int (Int32.ofNat i))]) (st' := [(.ref a), (.int (Int32.ofNat i))]) rfl rfl (pc' := 2) rfl ?_
  obtain ⟨T1, W1, st1⟩ := oGetF W0 (pc := 2) (ls := #[.val (.ref a), .val (.int (Int32.ofNat i))]) (st := [(.int (Int32.ofNat i))]) (hw _ (List.mem_of_getElem? (i := 69) rfl)) Via.refl Fs (by decide +kernel)
  refine oLift st1 ?_
  obtain ⟨v2, T2, L2, h2, vm2, W2, ⟨rfl, e2⟩, C2, st2⟩ := oCallS W1 (idx := 118) (pc := 5) (ls := #[.val (.ref a), .val (.int (Int32.ofNat i))]) (st := []) (argsL := [(.int (Int32.ofNat i)), (.int (Int32.ofNat n))]) (c_oci K (n_nn (by omega)) ((n_lt (by omega) (by omega)).mpr hi)) (fun x hx => nomatch hx) (hw _ (List.mem_of_getElem? (i := 117) rfl)) (hw _ (List.mem_of_getElem? (i := 118) rfl)) (hw _ (List.mem_of_getElem? (i := 119) rfl)) (hw _ (List.mem_of_getElem? (i := 120) rfl)) (by decide) (na := 2) rfl (by decide +kernel) rfl (stk := [(.int (Int32.ofNat n)), (.int (Int32.ofNat i))]) rfl (by decide +kernel) (V := 0) (lb rfl) (lb rfl) (lb rfl) (lb rfl) (lb rfl)
  refine oLift st2 ?_
  rw [e2] at W2 C2
  show OG _ _ _ _ _ _ _ _ _ _ _ (mkF m 8 #[.val (.ref a), .val (.int (Int32.ofNat i))] [(.int (Int32.ofNat i))])
  refine oGo W2 [.pop, .aload_n 0, .iload_n 1] (by decide +kernel) (ls' := #[.val (.ref a), .val (.int (Int32.ofNat i))]) (st' := [(.int (Int32.ofNat i)), (.ref a)]) rfl rfl (pc' := 11) rfl ?_
  obtain ⟨v3, T3, L3, h3, vm3, W3, ⟨rfl, e3⟩, C3, st3⟩ := oCallV W2 (idx := 123) (pc := 11) (ls := #[.val (.ref a), .val (.int (Int32.ofNat i))]) (st := []) (argsL := [(.int (Int32.ofNat i))]) X (c_ed K hA0 hn hi hx) (fun x hx => nomatch hx) (hw _ (List.mem_of_getElem? (i := 125) rfl)) (hw _ (List.mem_of_getElem? (i := 126) rfl)) (notFace_of_selects (args := #[]) (mvT W2.warm (hw _ (List.mem_of_getElem? (i := 128) rfl)))) (hw _ (List.mem_of_getElem? (i := 128) rfl)) (hw _ (List.mem_of_getElem? (i := 127) rfl)) (hw _ (List.mem_of_getElem? (i := 36) rfl)) (hw _ (List.mem_of_getElem? (i := 129) rfl)) (by decide) (na := 1) rfl (by decide +kernel) rfl (stk := [(.int (Int32.ofNat i)), (.ref a)]) rfl (by decide +kernel) (V := 0) (lb rfl) (lb rfl) (lb rfl) (lb rfl) (lb rfl)
  refine oLift st3 ?_
  rw [e3] at W3 C3
  show OG _ _ _ _ _ _ _ _ _ _ _ (mkF m 14 #[.val (.ref a), .val (.int (Int32.ofNat i))] [(.ref x)])
  exact oRetA rfl W3 rfl rfl (by decide +kernel) (lb rfl) (lb rfl) (fun vm' hv => ⟨rfl, rfl⟩)
abbrev rm_c_val : Room := { frames := 3, cells := 0, slots := 0, locals := 40 }
set_option maxRecDepth 65536 in
set_option maxHeartbeats 40000000 in
theorem c_val {l : Launch} {Z : State} {a0 : Array Value} {nb : Bool} (K : Ctx Z a0) {a t x : Addr} {kt : ClassId} {vs : List Value} {n i : Nat} {o : Addr} {h0 : Heap} (hA : LA Z h0 a t kt vs n) (hn : n < 10) (hi : i < n) (hx : vs[i]? = some (.ref x)) (Ex : Exa Z h0 x "java/lang/String") :
    OC l Z EL nb [] (⟨"com/example/strict_split/strictsplit/cli/Arguments", "value", "(Ljava/util/List;ILjava/lang/String;)Ljava/lang/String;"⟩ : MethodName) prog_1_method_2_code 3 (some (.object "java/lang/String")) rm_c_val #[(.ref a), (.int (Int32.ofNat i)), (.ref o)] h0 [] (fun v _ h => v = some (.ref x) ∧ h = h0) := by
  have hw := K.1
  have hS : ∀ a ∈ Bundle.stringAtoms, a.before a0 Z = true := K.2.2.1
  have hA0 := hA
  obtain ⟨⟨X, ⟨mq, Fm⟩, Fe, Fs⟩, At, Ot, hzt, hta⟩ := hA
  refine oEnter (by decide +kernel) K.2.1.2.1 ?_
  intro _p _e _s m _below _meth _c T0 W0 S0
  refine oEq (g' := mkF m 0 #[.val (.ref a), .val (.int (Int32.ofNat i)), .val (.ref o)] []) (by first | (simp [entryFrame, mkF, argsToLocals, Value.category]; done) | rfl) ?_
  refine oGo W0 [.iload_n 1, .aload_n 0] (by decide +kernel) (ls' := #[.val (.ref a), .val (.int (Int32.ofNat i)), .val (.ref o)]) (st' := [(.ref a), (.int (Int32.ofNat i))]) rfl rfl (pc' := 2) rfl ?_
  obtain ⟨v1, T1, L1, h1, vm1, W1, ⟨rfl, e1⟩, C1, st1⟩ := oCallI W0 (idx := 7) (pc := 2) (ls := #[.val (.ref a), .val (.int (Int32.ofNat i)), .val (.ref o)]) (st := [(.int (Int32.ofNat i))]) (cnt := 1) (argsL := []) X (c_siz K hA0.1) (fun x hx => nomatch hx) (hw _ (List.mem_of_getElem? (i := 101) rfl)) (hw _ (List.mem_of_getElem? (i := 102) rfl)) (hw _ (List.mem_of_getElem? (i := 103) rfl)) (by decide) (hw _ (List.mem_of_getElem? (i := 104) rfl)) (hw _ (List.mem_of_getElem? (i := 105) rfl)) (hw _ (List.mem_of_getElem? (i := 106) rfl)) (hw _ (List.mem_of_getElem? (i := 107) rfl)) (hw _ (List.mem_of_getElem? (i := 65) rfl)) (hw _ (List.mem_of_getElem? (i := 36) rfl)) (hw _ (List.mem_of_getElem? (i := 108) rfl)) (by decide) (na := 0) rfl (by decide +kernel) rfl (stk := [(.ref a), (.int (Int32.ofNat i))]) rfl (by decide +kernel) (V := 1) (lb rfl) (lb rfl) (lb rfl) (lb rfl) (lb rfl)
  refine oLift st1 ?_
  rw [e1] at W1 C1
  show OG _ _ _ _ _ _ _ _ _ _ _ (mkF m 7 #[.val (.ref a), .val (.int (Int32.ofNat i)), .val (.ref o)] [(.int (Int32.ofNat n)), (.int (Int32.ofNat i))])
  refine oIcT W1 (cd := .lt) (o := 17) (by decide +kernel) (XT.ii_lt_t ((n_lt (by omega) (by omega)).mpr hi)) (pc' := 24) (by decide) (by decide) ?_
  refine oGo W1 [.aload_n 0, .iload_n 1] (by decide +kernel) (ls' := #[.val (.ref a), .val (.int (Int32.ofNat i)), .val (.ref o)]) (st' := [(.int (Int32.ofNat i)), (.ref a)]) rfl rfl (pc' := 26) rfl ?_
  obtain ⟨v2, T2, L2, h2, vm2, W2, ⟨rfl, e2⟩, C2, st2⟩ := oCallI W1 (idx := 22) (pc := 26) (ls := #[.val (.ref a), .val (.int (Int32.ofNat i)), .val (.ref o)]) (st := []) (cnt := 2) (argsL := [(.int (Int32.ofNat i))]) X (c_get K hA0 hn hi hx) (fun x hx => nomatch hx) (hw _ (List.mem_of_getElem? (i := 109) rfl)) (hw _ (List.mem_of_getElem? (i := 110) rfl)) (hw _ (List.mem_of_getElem? (i := 111) rfl)) (by decide) (hw _ (List.mem_of_getElem? (i := 112) rfl)) (hw _ (List.mem_of_getElem? (i := 113) rfl)) (hw _ (List.mem_of_getElem? (i := 114) rfl)) (hw _ (List.mem_of_getElem? (i := 115) rfl)) (hw _ (List.mem_of_getElem? (i := 65) rfl)) (hw _ (List.mem_of_getElem? (i := 36) rfl)) (hw _ (List.mem_of_getElem? (i := 116) rfl)) (by decide) (na := 1) rfl (by decide +kernel) rfl (stk := [(.int (Int32.ofNat i)), (.ref a)]) rfl (by decide +kernel) (V := 0) (lb rfl) (lb rfl) (lb rfl) (lb rfl) (lb rfl)
  refine oLift st2 ?_
  rw [e2] at W2 C2
  show OG _ _ _ _ _ _ _ _ _ _ _ (mkF m 31 #[.val (.ref a), .val (.int (Int32.ofNat i)), .val (.ref o)] [(.ref x)])
  obtain ⟨T3, W3, st3⟩ := oCast W2 (pc := 31) (ls := #[.val (.ref a), .val (.int (Int32.ofNat i)), .val (.ref o)]) (st := []) (hw _ (List.mem_of_getElem? (i := 130) rfl)) (Ins.self Ex) (by decide +kernel)
  refine oLift st3 ?_
  exact oRetA rfl W3 rfl rfl (by decide +kernel) (lb rfl) (lb rfl) (fun vm' hv => ⟨rfl, rfl⟩)
abbrev rm_c_eqs : Room := { frames := 0, cells := 0, slots := 0, locals := 0 }
set_option maxRecDepth 65536 in
set_option maxHeartbeats 40000000 in
theorem c_eqs {l : Launch} {Z : State} {a0 : Array Value} {nb : Bool} (K : Ctx Z a0) {x : Addr} {h0 : Heap} :
    OC l Z EL nb [] (⟨"java/lang/String", "equals", "(Ljava/lang/Object;)Z"⟩ : MethodName) jdk_42_method_66_code 3 (some .boolean) rm_c_eqs #[(.ref x), (.ref x)] h0 [] (fun v _ h => v = some (.int 1) ∧ h = h0) := by
  have hw := K.1
  have hS : ∀ a ∈ Bundle.stringAtoms, a.before a0 Z = true := K.2.2.1
  refine oEnter (by decide +kernel) K.2.1.2.1 ?_
  intro _p _e _s m _below _meth _c T0 W0 S0
  refine oEq (g' := mkF m 0 #[.val (.ref x), .val (.ref x), .unset] []) (by first | (simp [entryFrame, mkF, argsToLocals, Value.category]; done) | rfl) ?_
  refine oGo W0 [.aload_n 0, .aload_n 1] (by decide +kernel) (ls' := #[.val (.ref x), .val (.ref x), .unset]) (st' := [(.ref x), (.ref x)]) rfl rfl (pc' := 2) rfl ?_
  refine oAcF W0 (cd := .ne) (o := 5) (by decide +kernel) rfl rfl (by simp [XT.acmp]) (pc' := 5) rfl ?_
  refine oGo W0 [.iconst 1] (by decide +kernel) (ls' := #[.val (.ref x), .val (.ref x), .unset]) (st' := [(.int (1 : Int32))]) rfl rfl (pc' := 6) rfl ?_
  exact oRetN (by simp) W0 rfl (by decide +kernel) (lb rfl) (lb rfl) (fun vm' hv => ⟨rfl, rfl⟩)
theorem own_rem1 (x : Int32) : ((x &&& (2147483647 : Int32)) % (1 : Int32)) = 0 := by
  have h := c_and x 2147483647 (by decide)
  have e := (c_irem (x &&& 2147483647) 1 1 rfl).1 h.1
  have q : ((x &&& (2147483647 : Int32)) % (1 : Int32)).toInt = 0 := by omega
  exact Int32.toInt_inj.mp q
theorem own_rem2 (x : Int32) : ((x &&& (2147483647 : Int32)) % (2 : Int32)) = 0 ∨ ((x &&& (2147483647 : Int32)) % (2 : Int32)) = 1 := by
  have h := c_and x 2147483647 (by decide)
  have e := (c_irem (x &&& 2147483647) 2 2 rfl).1 h.1
  have q : ((x &&& (2147483647 : Int32)) % (2 : Int32)).toInt = 0 ∨ ((x &&& (2147483647 : Int32)) % (2 : Int32)).toInt = 1 := by omega
  rcases q with q | q
  · exact Or.inl (Int32.toInt_inj.mp q)
  · exact Or.inr (Int32.toInt_inj.mp q)
theorem own_rem3 (x : Int32) : ((x &&& (2147483647 : Int32)) % (3 : Int32)) = 0 ∨ ((x &&& (2147483647 : Int32)) % (3 : Int32)) = 1 ∨ ((x &&& (2147483647 : Int32)) % (3 : Int32)) = 2 := by
  have h := c_and x 2147483647 (by decide)
  have e := (c_irem (x &&& 2147483647) 3 3 rfl).1 h.1
  have q : ((x &&& (2147483647 : Int32)) % (3 : Int32)).toInt = 0 ∨ ((x &&& (2147483647 : Int32)) % (3 : Int32)).toInt = 1 ∨ ((x &&& (2147483647 : Int32)) % (3 : Int32)).toInt = 2 := by omega
  rcases q with q | q | q
  · exact Or.inl (Int32.toInt_inj.mp q)
  · exact Or.inr (Or.inl (Int32.toInt_inj.mp q))
  · exact Or.inr (Or.inr (Int32.toInt_inj.mp q))
theorem own_rem4 (x : Int32) : ((x &&& (2147483647 : Int32)) % (4 : Int32)) = 0 ∨ ((x &&& (2147483647 : Int32)) % (4 : Int32)) = 1 ∨ ((x &&& (2147483647 : Int32)) % (4 : Int32)) = 2 ∨ ((x &&& (2147483647 : Int32)) % (4 : Int32)) = 3 := by
  have h := c_and x 2147483647 (by decide)
  have e := (c_irem (x &&& 2147483647) 4 4 rfl).1 h.1
  have q : ((x &&& (2147483647 : Int32)) % (4 : Int32)).toInt = 0 ∨ ((x &&& (2147483647 : Int32)) % (4 : Int32)).toInt = 1 ∨ ((x &&& (2147483647 : Int32)) % (4 : Int32)).toInt = 2 ∨ ((x &&& (2147483647 : Int32)) % (4 : Int32)).toInt = 3 := by omega
  rcases q with q | q | q | q
  · exact Or.inl (Int32.toInt_inj.mp q)
  · exact Or.inr (Or.inl (Int32.toInt_inj.mp q))
  · exact Or.inr (Or.inr (Or.inl (Int32.toInt_inj.mp q)))
  · exact Or.inr (Or.inr (Or.inr (Int32.toInt_inj.mp q)))
theorem own_n4 (x : Int32) : (1 : Int32) + (x &&& (3 : Int32)) = 1 ∨ (1 : Int32) + (x &&& (3 : Int32)) = 2 ∨ (1 : Int32) + (x &&& (3 : Int32)) = 3 ∨ (1 : Int32) + (x &&& (3 : Int32)) = 4 := by
  have h := c_and x 3 (by decide)
  have k3 : (3 : Int32).toInt = 3 := rfl
  have q : (x &&& 3).toInt = 0 ∨ (x &&& 3).toInt = 1 ∨ (x &&& 3).toInt = 2 ∨ (x &&& 3).toInt = 3 := by omega
  rcases q with q | q | q | q
  · exact Or.inl (by rw [show (x &&& 3) = 0 from Int32.toInt_inj.mp q]; rfl)
  · exact Or.inr (Or.inl (by rw [show (x &&& 3) = 1 from Int32.toInt_inj.mp q]; rfl))
  · exact Or.inr (Or.inr (Or.inl (by rw [show (x &&& 3) = 2 from Int32.toInt_inj.mp q]; rfl)))
  · exact Or.inr (Or.inr (Or.inr (by rw [show (x &&& 3) = 3 from Int32.toInt_inj.mp q]; rfl)))
theorem LB.ext {Z : State} {h h' : Heap} {a t : Addr} {n : Nat} (F : LB Z h a t n) (E : Ext h h') : LB Z h' a t n := by
  obtain ⟨h1, ⟨q, h2⟩, h3, h4⟩ := F
  exact ⟨h1.ext E, ⟨q, h2.ext E⟩, h3.ext E, h4.ext E⟩
theorem LA.ext {Z : State} {h h' : Heap} {a t : Addr} {kt : ClassId} {vs : List Value} {n : Nat} (F : LA Z h a t kt vs n) (E : Ext h h') : LA Z h' a t kt vs n := ⟨F.1.ext E, F.2.1.ext E, F.2.2⟩
set_option maxRecDepth 65536 in
set_option maxHeartbeats 40000000 in
theorem c_law {l : Launch} {Z : State} {a0 : Array Value} (K : Ctx Z a0) (i0 i1 i2 i3 i4 i5 : Int32) (dc : Addr) (kd : ClassId) (G : DX Z dc kd) (h0 : Heap) :
    OC l Z EL false tables_1 x code maxLocals ret room_1 #[(.int i0), (.int i1), (.int i2), (.int i3), (.int i4), (.int i5)] h0 [] (fun v _ h => v = some (.int 1)) := by
  have hw := K.1
  have hS : ∀ a ∈ Bundle.stringAtoms, a.before a0 Z = true := K.2.2.1
  refine oEnter (by decide +kernel) K.2.1.2.1 ?_
  intro _p _e _s m _below _meth _c T0 W0 S0
  refine oEq (g' := mkF m 0 #[.val (.int i0), .val (.int i1), .val (.int i2), .val (.int i3), .val (.int i4), .val (.int i5), .unset, .unset, .unset, .unset, .unset, .unset, .unset, .unset, .unset] []) (by first | (simp [entryFrame, mkF, argsToLocals, Value.category, maxLocals]; done) | rfl) ?_
  refine oGo W0 [.iload_n 0] (by decide +kernel) (ls' := #[.val (.int i0), .val (.int i1), .val (.int i2), .val (.int i3), .val (.int i4), .val (.int i5), .unset, .unset, .unset, .unset, .unset, .unset, .unset, .unset, .unset]) (st' := [(.int i0)]) rfl rfl (pc' := 1) rfl ?_
  obtain ⟨v1, T1, L1, h1, vm1, W1, ⟨⟨x0, rfl, X1⟩, E1⟩, C1, st1⟩ := oCallS W0 (idx := 7) (pc := 1) (ls := #[.val (.int i0), .val (.int i1), .val (.int i2), .val (.int i3), .val (.int i4), .val (.int i5), .unset, .unset, .unset, .unset, .unset, .unset, .unset, .unset, .unset]) (st := []) (argsL := [(.int i0)]) (c_word K) (fun x hx => nomatch hx) (hw _ (List.mem_of_getElem? (i := 0) rfl)) (hw _ (List.mem_of_getElem? (i := 1) rfl)) (hw _ (List.mem_of_getElem? (i := 2) rfl)) (hw _ (List.mem_of_getElem? (i := 3) rfl)) (by decide) (na := 1) rfl (by decide +kernel) rfl (stk := [(.int i0)]) rfl (by decide +kernel) (V := 0) (lb rfl) (lb rfl) (lb rfl) (lb rfl) (lb rfl)
  refine oLift st1 ?_
  show OG _ _ _ _ _ _ _ _ _ _ _ (mkF m 4 #[.val (.int i0), .val (.int i1), .val (.int i2), .val (.int i3), .val (.int i4), .val (.int i5), .unset, .unset, .unset, .unset, .unset, .unset, .unset, .unset, .unset] [(.ref x0)])
  refine oGo W1 [.astore 6, .iload_n 1] (by decide +kernel) (ls' := #[.val (.int i0), .val (.int i1), .val (.int i2), .val (.int i3), .val (.int i4), .val (.int i5), .val (.ref x0), .unset, .unset, .unset, .unset, .unset, .unset, .unset, .unset]) (st' := [(.int i1)]) rfl rfl (pc' := 7) rfl ?_
  obtain ⟨v2, T2, L2, h2, vm2, W2, ⟨⟨x1, rfl, X2⟩, E2⟩, C2, st2⟩ := oCallS W1 (idx := 7) (pc := 7) (ls := #[.val (.int i0), .val (.int i1), .val (.int i2), .val (.int i3), .val (.int i4), .val (.int i5), .val (.ref x0), .unset, .unset, .unset, .unset, .unset, .unset, .unset, .unset]) (st := []) (argsL := [(.int i1)]) (c_word K) (fun x hx => nomatch hx) (hw _ (List.mem_of_getElem? (i := 0) rfl)) (hw _ (List.mem_of_getElem? (i := 1) rfl)) (hw _ (List.mem_of_getElem? (i := 2) rfl)) (hw _ (List.mem_of_getElem? (i := 3) rfl)) (by decide) (na := 1) rfl (by decide +kernel) rfl (stk := [(.int i1)]) rfl (by decide +kernel) (V := 0) (lb rfl) (lb rfl) (lb rfl) (lb rfl) (lb rfl)
  refine oLift st2 ?_
  show OG _ _ _ _ _ _ _ _ _ _ _ (mkF m 10 #[.val (.int i0), .val (.int i1), .val (.int i2), .val (.int i3), .val (.int i4), .val (.int i5), .val (.ref x0), .unset, .unset, .unset, .unset, .unset, .unset, .unset, .unset] [(.ref x1)])
  refine oGo W2 [.astore 7, .iload_n 2] (by decide +kernel) (ls' := #[.val (.int i0), .val (.int i1), .val (.int i2), .val (.int i3), .val (.int i4), .val (.int i5), .val (.ref x0), .val (.ref x1), .unset, .unset, .unset, .unset, .unset, .unset, .unset]) (st' := [(.int i2)]) rfl rfl (pc' := 13) rfl ?_
  obtain ⟨v3, T3, L3, h3, vm3, W3, ⟨⟨x2, rfl, X3⟩, E3⟩, C3, st3⟩ := oCallS W2 (idx := 7) (pc := 13) (ls := #[.val (.int i0), .val (.int i1), .val (.int i2), .val (.int i3), .val (.int i4), .val (.int i5), .val (.ref x0), .val (.ref x1), .unset, .unset, .unset, .unset, .unset, .unset, .unset]) (st := []) (argsL := [(.int i2)]) (c_word K) (fun x hx => nomatch hx) (hw _ (List.mem_of_getElem? (i := 0) rfl)) (hw _ (List.mem_of_getElem? (i := 1) rfl)) (hw _ (List.mem_of_getElem? (i := 2) rfl)) (hw _ (List.mem_of_getElem? (i := 3) rfl)) (by decide) (na := 1) rfl (by decide +kernel) rfl (stk := [(.int i2)]) rfl (by decide +kernel) (V := 0) (lb rfl) (lb rfl) (lb rfl) (lb rfl) (lb rfl)
  refine oLift st3 ?_
  show OG _ _ _ _ _ _ _ _ _ _ _ (mkF m 16 #[.val (.int i0), .val (.int i1), .val (.int i2), .val (.int i3), .val (.int i4), .val (.int i5), .val (.ref x0), .val (.ref x1), .unset, .unset, .unset, .unset, .unset, .unset, .unset] [(.ref x2)])
  refine oGo W3 [.astore 8, .iload_n 3] (by decide +kernel) (ls' := #[.val (.int i0), .val (.int i1), .val (.int i2), .val (.int i3), .val (.int i4), .val (.int i5), .val (.ref x0), .val (.ref x1), .val (.ref x2), .unset, .unset, .unset, .unset, .unset, .unset]) (st' := [(.int i3)]) rfl rfl (pc' := 19) rfl ?_
  obtain ⟨v4, T4, L4, h4, vm4, W4, ⟨⟨x3, rfl, X4⟩, E4⟩, C4, st4⟩ := oCallS W3 (idx := 7) (pc := 19) (ls := #[.val (.int i0), .val (.int i1), .val (.int i2), .val (.int i3), .val (.int i4), .val (.int i5), .val (.ref x0), .val (.ref x1), .val (.ref x2), .unset, .unset, .unset, .unset, .unset, .unset]) (st := []) (argsL := [(.int i3)]) (c_word K) (fun x hx => nomatch hx) (hw _ (List.mem_of_getElem? (i := 0) rfl)) (hw _ (List.mem_of_getElem? (i := 1) rfl)) (hw _ (List.mem_of_getElem? (i := 2) rfl)) (hw _ (List.mem_of_getElem? (i := 3) rfl)) (by decide) (na := 1) rfl (by decide +kernel) rfl (stk := [(.int i3)]) rfl (by decide +kernel) (V := 0) (lb rfl) (lb rfl) (lb rfl) (lb rfl) (lb rfl)
  refine oLift st4 ?_
  show OG _ _ _ _ _ _ _ _ _ _ _ (mkF m 22 #[.val (.int i0), .val (.int i1), .val (.int i2), .val (.int i3), .val (.int i4), .val (.int i5), .val (.ref x0), .val (.ref x1), .val (.ref x2), .unset, .unset, .unset, .unset, .unset, .unset] [(.ref x3)])
  refine oGo W4 [.astore 9, .iconst 1, .iload 4, .iconst 3, .iand, .iadd, .istore 10] (by decide +kernel) (ls' := #[.val (.int i0), .val (.int i1), .val (.int i2), .val (.int i3), .val (.int i4), .val (.int i5), .val (.ref x0), .val (.ref x1), .val (.ref x2), .val (.ref x3), .val (.int ((1 : Int32) + (i4 &&& (3 : Int32)))), .unset, .unset, .unset, .unset]) (st' := []) rfl rfl (pc' := 32) rfl ?_
  obtain ⟨T5, h5, a, W5, g5, E5, A5, D5, S5, C5, st5⟩ := oNew W4 (pc := 32) (ls := #[.val (.int i0), .val (.int i1), .val (.int i2), .val (.int i3), .val (.int i4), .val (.int i5), .val (.ref x0), .val (.ref x1), .val (.ref x2), .val (.ref x3), .val (.int ((1 : Int32) + (i4 &&& (3 : Int32)))), .unset, .unset, .unset, .unset]) (st := []) (hw _ (List.mem_of_getElem? (i := 34) rfl)) (hw _ (List.mem_of_getElem? (i := 35) rfl)) (hw _ (List.mem_of_getElem? (i := 36) rfl)) (by decide +kernel) (lb rfl) (lb rfl)
  refine oLift st5 ?_
  refine oGo W5 [.dup] (by decide +kernel) (ls' := #[.val (.int i0), .val (.int i1), .val (.int i2), .val (.int i3), .val (.int i4), .val (.int i5), .val (.ref x0), .val (.ref x1), .val (.ref x2), .val (.ref x3), .val (.int ((1 : Int32) + (i4 &&& (3 : Int32)))), .unset, .unset, .unset, .unset]) (st' := [(.ref a), (.ref a)]) rfl rfl (pc' := 36) rfl ?_
  obtain ⟨v6, T6, L6, h6, vm6, W6, ⟨rfl, K6, B6⟩, C6, st6⟩ := oCallN W5 (idx := 15) (pc := 36) (ls := #[.val (.int i0), .val (.int i1), .val (.int i2), .val (.int i3), .val (.int i4), .val (.int i5), .val (.ref x0), .val (.ref x1), .val (.ref x2), .val (.ref x3), .val (.int ((1 : Int32) + (i4 &&& (3 : Int32)))), .unset, .unset, .unset, .unset]) (st := [(.ref a)]) (a := a) (argsL := []) (c_ali K G (Nat.le_trans W4.ext.1 g5) A5 (D5 (Or.inl (hw _ (List.mem_of_getElem? (i := 54) rfl))) (ty := .int) (by decide)) (D5 (Or.inl (hw _ (List.mem_of_getElem? (i := 57) rfl))) (ty := (.array (.object "java/lang/Object"))) (by decide)) (D5 (Or.inl (hw _ (List.mem_of_getElem? (i := 70) rfl))) (ty := .int) (by decide))) (fun x hx => nomatch hx) rfl (hw _ (List.mem_of_getElem? (i := 37) rfl)) (hw _ (List.mem_of_getElem? (i := 38) rfl)) (hw _ (List.mem_of_getElem? (i := 36) rfl)) (hw _ (List.mem_of_getElem? (i := 39) rfl)) (by decide) (na := 0) rfl (by decide +kernel) rfl (stk := [(.ref a), (.ref a)]) rfl (by decide +kernel) (V := 1) (lb rfl) (lb rfl) (lb rfl) (lb rfl) (lb rfl)
  refine oLift st6 ?_
  show OG _ _ _ _ _ _ _ _ _ _ _ (mkF m 39 #[.val (.int i0), .val (.int i1), .val (.int i2), .val (.int i3), .val (.int i4), .val (.int i5), .val (.ref x0), .val (.ref x1), .val (.ref x2), .val (.ref x3), .val (.int ((1 : Int32) + (i4 &&& (3 : Int32)))), .unset, .unset, .unset, .unset] [(.ref a)])
  refine oGo W6 [.astore 11, .aload 11, .aload 6] (by decide +kernel) (ls' := #[.val (.int i0), .val (.int i1), .val (.int i2), .val (.int i3), .val (.int i4), .val (.int i5), .val (.ref x0), .val (.ref x1), .val (.ref x2), .val (.ref x3), .val (.int ((1 : Int32) + (i4 &&& (3 : Int32)))), .val (.ref a), .unset, .unset, .unset]) (st' := [(.ref x0), (.ref a)]) rfl rfl (pc' := 45) rfl ?_
  obtain ⟨v7, T7, L7, h7, vm7, W7, ⟨rfl, t, kt, g7, K7, A7⟩, C7, st7⟩ := oCallI W6 (idx := 16) (pc := 45) (ls := #[.val (.int i0), .val (.int i1), .val (.int i2), .val (.int i3), .val (.int i4), .val (.int i5), .val (.ref x0), .val (.ref x1), .val (.ref x2), .val (.ref x3), .val (.int ((1 : Int32) + (i4 &&& (3 : Int32)))), .val (.ref a), .unset, .unset, .unset]) (st := []) (cnt := 2) (argsL := [(.ref x0)]) B6.1 (c_ad0 K G (Nat.le_trans W4.ext.1 g5) B6 ((((X1.ext E2).ext E3).ext E4).ext (exK E5 K6 (fun y hy => by cases List.mem_singleton.mp hy; exact g5)))) (fun x hx => nomatch hx) (hw _ (List.mem_of_getElem? (i := 58) rfl)) (hw _ (List.mem_of_getElem? (i := 59) rfl)) (hw _ (List.mem_of_getElem? (i := 60) rfl)) (by decide) (hw _ (List.mem_of_getElem? (i := 61) rfl)) (hw _ (List.mem_of_getElem? (i := 62) rfl)) (hw _ (List.mem_of_getElem? (i := 63) rfl)) (hw _ (List.mem_of_getElem? (i := 64) rfl)) (hw _ (List.mem_of_getElem? (i := 65) rfl)) (hw _ (List.mem_of_getElem? (i := 36) rfl)) (hw _ (List.mem_of_getElem? (i := 66) rfl)) (by decide) (na := 1) rfl (by decide +kernel) rfl (stk := [(.ref x0), (.ref a)]) rfl (by decide +kernel) (V := 0) (lb rfl) (lb rfl) (lb rfl) (lb rfl) (lb rfl)
  refine oLift st7 ?_
  show OG _ _ _ _ _ _ _ _ _ _ _ (mkF m 50 #[.val (.int i0), .val (.int i1), .val (.int i2), .val (.int i3), .val (.int i4), .val (.int i5), .val (.ref x0), .val (.ref x1), .val (.ref x2), .val (.ref x3), .val (.int ((1 : Int32) + (i4 &&& (3 : Int32)))), .val (.ref a), .unset, .unset, .unset] [(.int (1 : Int32))])
  refine oGo W7 [.pop, .iload 10, .iconst 1] (by decide +kernel) (ls' := #[.val (.int i0), .val (.int i1), .val (.int i2), .val (.int i3), .val (.int i4), .val (.int i5), .val (.ref x0), .val (.ref x1), .val (.ref x2), .val (.ref x3), .val (.int ((1 : Int32) + (i4 &&& (3 : Int32)))), .val (.ref a), .unset, .unset, .unset]) (st' := [(.int (1 : Int32)), (.int ((1 : Int32) + (i4 &&& (3 : Int32))))]) rfl rfl (pc' := 54) rfl ?_
  rcases own_n4 i4 with hL | hL | hL | hL
  · rw [hL]
    refine oIcT W7 (cd := .le) (o := 13) (by decide +kernel) (XT.ii_le_t (by decide)) (pc' := 67) (by decide) (by decide) ?_
    refine oGo W7 [.iload 10, .iconst 2] (by decide +kernel) (ls' := #[.val (.int i0), .val (.int i1), .val (.int i2), .val (.int i3), .val (.int i4), .val (.int i5), .val (.ref x0), .val (.ref x1), .val (.ref x2), .val (.ref x3), .val (.int (1 : Int32)), .val (.ref a), .unset, .unset, .unset]) (st' := [(.int (2 : Int32)), (.int (1 : Int32))]) rfl rfl (pc' := 70) rfl ?_
    refine oIcT W7 (cd := .le) (o := 13) (by decide +kernel) (XT.ii_le_t (by decide)) (pc' := 83) (by decide) (by decide) ?_
    refine oGo W7 [.iload 10, .iconst 3] (by decide +kernel) (ls' := #[.val (.int i0), .val (.int i1), .val (.int i2), .val (.int i3), .val (.int i4), .val (.int i5), .val (.ref x0), .val (.ref x1), .val (.ref x2), .val (.ref x3), .val (.int (1 : Int32)), .val (.ref a), .unset, .unset, .unset]) (st' := [(.int (3 : Int32)), (.int (1 : Int32))]) rfl rfl (pc' := 86) rfl ?_
    refine oIcT W7 (cd := .le) (o := 13) (by decide +kernel) (XT.ii_le_t (by decide)) (pc' := 99) (by decide) (by decide) ?_
    refine oGo W7 [.iload 5] (by decide +kernel) (ls' := #[.val (.int i0), .val (.int i1), .val (.int i2), .val (.int i3), .val (.int i4), .val (.int i5), .val (.ref x0), .val (.ref x1), .val (.ref x2), .val (.ref x3), .val (.int (1 : Int32)), .val (.ref a), .unset, .unset, .unset]) (st' := [(.int i5)]) rfl rfl (pc' := 101) rfl ?_
    refine oLdcI W7 (hw _ (List.mem_of_getElem? (i := 93) rfl)) (by decide +kernel) ?_
    refine oGo W7 [.iand, .iload 10, .irem, .istore 12, .iload 12] (by decide +kernel) (ls' := #[.val (.int i0), .val (.int i1), .val (.int i2), .val (.int i3), .val (.int i4), .val (.int i5), .val (.ref x0), .val (.ref x1), .val (.ref x2), .val (.ref x3), .val (.int (1 : Int32)), .val (.ref a), .val (.int ((i5 &&& (2147483647 : Int32)) % (1 : Int32))), .unset, .unset]) (st' := [(.int ((i5 &&& (2147483647 : Int32)) % (1 : Int32)))]) rfl rfl (pc' := 111) rfl ?_
    rcases own_rem1 i5 with hR
    · rw [hR]
      refine oIfF W7 (cd := .ne) (o := 10) (by decide +kernel) (XT.i0_ne_f (by decide)) (pc' := 114) rfl ?_
      refine oGo W7 [.aload 6, .astore 13, .goto 33, .aload 11, .iload 12] (by decide +kernel) (ls' := #[.val (.int i0), .val (.int i1), .val (.int i2), .val (.int i3), .val (.int i4), .val (.int i5), .val (.ref x0), .val (.ref x1), .val (.ref x2), .val (.ref x3), .val (.int (1 : Int32)), .val (.ref a), .val (.int (0 : Int32)), .val (.ref x0), .unset]) (st' := [(.int (0 : Int32)), (.ref a)]) rfl rfl (pc' := 155) rfl ?_
      obtain ⟨a8, T8, h8, vm8, W8, E8, C8, st8⟩ := oLdc W7 (pc := 155) (ls := #[.val (.int i0), .val (.int i1), .val (.int i2), .val (.int i3), .val (.int i4), .val (.int i5), .val (.ref x0), .val (.ref x1), .val (.ref x2), .val (.ref x3), .val (.int (1 : Int32)), .val (.ref a), .val (.int (0 : Int32)), .val (.ref x0), .unset]) (st := [(.int (0 : Int32)), (.ref a)]) (hw _ (List.mem_of_getElem? (i := 94) rfl)) hS (by decide +kernel) (n := 20) (lb rfl) (lb rfl) (lb rfl) (lb rfl)
      refine oLift st8 ?_
      obtain ⟨v9, T9, L9, h9, vm9, W9, ⟨rfl, e9⟩, C9, st9⟩ := oCallS W8 (idx := 25) (pc := 157) (ls := #[.val (.int i0), .val (.int i1), .val (.int i2), .val (.int i3), .val (.int i4), .val (.int i5), .val (.ref x0), .val (.ref x1), .val (.ref x2), .val (.ref x3), .val (.int (1 : Int32)), .val (.ref a), .val (.int (0 : Int32)), .val (.ref x0), .unset]) (st := []) (argsL := [(.ref a), (.int (0 : Int32)), (.ref a8)]) (c_val K (vs := ((List.replicate 10 Value.null).set 0 (.ref x0))) (n := 1) (i := 0) (x := x0) (A7.ext E8) (by decide) (by decide) rfl ((((((X1.ext E2).ext E3).ext E4).ext (exK E5 K6 (fun y hy => by cases List.mem_singleton.mp hy; exact g5))).keep K7).ext E8)) (fun x hx => nomatch hx) (hw _ (List.mem_of_getElem? (i := 97) rfl)) (hw _ (List.mem_of_getElem? (i := 98) rfl)) (hw _ (List.mem_of_getElem? (i := 99) rfl)) (hw _ (List.mem_of_getElem? (i := 100) rfl)) (by decide) (na := 3) rfl (by decide +kernel) rfl (stk := [(.ref a8), (.int (0 : Int32)), (.ref a)]) rfl (by decide +kernel) (V := 0) (lb rfl) (lb rfl) (lb rfl) (lb rfl) (lb rfl)
      refine oLift st9 ?_
      rw [e9] at W9 C9
      show OG _ _ _ _ _ _ _ _ _ _ _ (mkF m 160 #[.val (.int i0), .val (.int i1), .val (.int i2), .val (.int i3), .val (.int i4), .val (.int i5), .val (.ref x0), .val (.ref x1), .val (.ref x2), .val (.ref x3), .val (.int (1 : Int32)), .val (.ref a), .val (.int (0 : Int32)), .val (.ref x0), .unset] [(.ref x0)])
      refine oGo W9 [.astore 14, .aload 14] (by decide +kernel) (ls' := #[.val (.int i0), .val (.int i1), .val (.int i2), .val (.int i3), .val (.int i4), .val (.int i5), .val (.ref x0), .val (.ref x1), .val (.ref x2), .val (.ref x3), .val (.int (1 : Int32)), .val (.ref a), .val (.int (0 : Int32)), .val (.ref x0), .val (.ref x0)]) (st' := [(.ref x0)]) rfl rfl (pc' := 164) rfl ?_
      refine oNuF W9 (o := 29) (by decide +kernel) (pc' := 167) rfl ?_
      refine oGo W9 [.aload 14, .aload 13] (by decide +kernel) (ls' := #[.val (.int i0), .val (.int i1), .val (.int i2), .val (.int i3), .val (.int i4), .val (.int i5), .val (.ref x0), .val (.ref x1), .val (.ref x2), .val (.ref x3), .val (.int (1 : Int32)), .val (.ref a), .val (.int (0 : Int32)), .val (.ref x0), .val (.ref x0)]) (st' := [(.ref x0), (.ref x0)]) rfl rfl (pc' := 171) rfl ?_
      obtain ⟨v10, T10, L10, h10, vm10, W10, ⟨rfl, e10⟩, C10, st10⟩ := oCallV W9 (idx := 31) (pc := 171) (ls := #[.val (.int i0), .val (.int i1), .val (.int i2), .val (.int i3), .val (.int i4), .val (.int i5), .val (.ref x0), .val (.ref x1), .val (.ref x2), .val (.ref x3), .val (.int (1 : Int32)), .val (.ref a), .val (.int (0 : Int32)), .val (.ref x0), .val (.ref x0)]) (st := []) (argsL := [(.ref x0)]) ((((((X1.ext E2).ext E3).ext E4).ext (exK E5 K6 (fun y hy => by cases List.mem_singleton.mp hy; exact g5))).keep K7).ext E8) (c_eqs K) (fun x hx => nomatch hx) (hw _ (List.mem_of_getElem? (i := 131) rfl)) (hw _ (List.mem_of_getElem? (i := 132) rfl)) (notFace_of_selects (args := #[]) (mvT W9.warm (hw _ (List.mem_of_getElem? (i := 134) rfl)))) (hw _ (List.mem_of_getElem? (i := 134) rfl)) (hw _ (List.mem_of_getElem? (i := 133) rfl)) (hw _ (List.mem_of_getElem? (i := 7) rfl)) (hw _ (List.mem_of_getElem? (i := 135) rfl)) (by decide) (na := 1) rfl (by decide +kernel) rfl (stk := [(.ref x0), (.ref x0)]) rfl (by decide +kernel) (V := 0) (lb rfl) (lb rfl) (lb rfl) (lb rfl) (lb rfl)
      refine oLift st10 ?_
      rw [e10] at W10 C10
      show OG _ _ _ _ _ _ _ _ _ _ _ (mkF m 174 #[.val (.int i0), .val (.int i1), .val (.int i2), .val (.int i3), .val (.int i4), .val (.int i5), .val (.ref x0), .val (.ref x1), .val (.ref x2), .val (.ref x3), .val (.int (1 : Int32)), .val (.ref a), .val (.int (0 : Int32)), .val (.ref x0), .val (.ref x0)] [(.int (1 : Int32))])
      refine oIfF W10 (cd := .eq) (o := 19) (by decide +kernel) (XT.i0_eq_f (by decide)) (pc' := 177) rfl ?_
      refine oGo W10 [.aload 11] (by decide +kernel) (ls' := #[.val (.int i0), .val (.int i1), .val (.int i2), .val (.int i3), .val (.int i4), .val (.int i5), .val (.ref x0), .val (.ref x1), .val (.ref x2), .val (.ref x3), .val (.int (1 : Int32)), .val (.ref a), .val (.int (0 : Int32)), .val (.ref x0), .val (.ref x0)]) (st' := [(.ref a)]) rfl rfl (pc' := 179) rfl ?_
      obtain ⟨v11, T11, L11, h11, vm11, W11, ⟨rfl, e11⟩, C11, st11⟩ := oCallI W10 (idx := 36) (pc := 179) (ls := #[.val (.int i0), .val (.int i1), .val (.int i2), .val (.int i3), .val (.int i4), .val (.int i5), .val (.ref x0), .val (.ref x1), .val (.ref x2), .val (.ref x3), .val (.int (1 : Int32)), .val (.ref a), .val (.int (0 : Int32)), .val (.ref x0), .val (.ref x0)]) (st := []) (cnt := 1) (argsL := []) (A7.1.1.ext E8) (c_siz K (n := 1) (A7.ext E8).1) (fun x hx => nomatch hx) (hw _ (List.mem_of_getElem? (i := 136) rfl)) (hw _ (List.mem_of_getElem? (i := 102) rfl)) (hw _ (List.mem_of_getElem? (i := 103) rfl)) (by decide) (hw _ (List.mem_of_getElem? (i := 104) rfl)) (hw _ (List.mem_of_getElem? (i := 105) rfl)) (hw _ (List.mem_of_getElem? (i := 106) rfl)) (hw _ (List.mem_of_getElem? (i := 107) rfl)) (hw _ (List.mem_of_getElem? (i := 65) rfl)) (hw _ (List.mem_of_getElem? (i := 36) rfl)) (hw _ (List.mem_of_getElem? (i := 108) rfl)) (by decide) (na := 0) rfl (by decide +kernel) rfl (stk := [(.ref a)]) rfl (by decide +kernel) (V := 0) (lb rfl) (lb rfl) (lb rfl) (lb rfl) (lb rfl)
      refine oLift st11 ?_
      rw [e11] at W11 C11
      show OG _ _ _ _ _ _ _ _ _ _ _ (mkF m 184 #[.val (.int i0), .val (.int i1), .val (.int i2), .val (.int i3), .val (.int i4), .val (.int i5), .val (.ref x0), .val (.ref x1), .val (.ref x2), .val (.ref x3), .val (.int (1 : Int32)), .val (.ref a), .val (.int (0 : Int32)), .val (.ref x0), .val (.ref x0)] [(.int (Int32.ofNat 1))])
      refine oGo W11 [.iload 10] (by decide +kernel) (ls' := #[.val (.int i0), .val (.int i1), .val (.int i2), .val (.int i3), .val (.int i4), .val (.int i5), .val (.ref x0), .val (.ref x1), .val (.ref x2), .val (.ref x3), .val (.int (1 : Int32)), .val (.ref a), .val (.int (0 : Int32)), .val (.ref x0), .val (.ref x0)]) (st' := [(.int (1 : Int32)), (.int (Int32.ofNat 1))]) rfl rfl (pc' := 186) rfl ?_
      refine oIcF W11 (cd := .ne) (o := 7) (by decide +kernel) (XT.ii_ne_f rfl) (pc' := 189) rfl ?_
      refine oGo W11 [.iconst 1, .goto 4] (by decide +kernel) (ls' := #[.val (.int i0), .val (.int i1), .val (.int i2), .val (.int i3), .val (.int i4), .val (.int i5), .val (.ref x0), .val (.ref x1), .val (.ref x2), .val (.ref x3), .val (.int (1 : Int32)), .val (.ref a), .val (.int (0 : Int32)), .val (.ref x0), .val (.ref x0)]) (st' := [(.int (1 : Int32))]) rfl rfl (pc' := 194) rfl ?_
      exact oRetN (by simp) W11 rfl (by decide +kernel) (lb rfl) (lb rfl) (fun vm' hv => rfl)
  · rw [hL]
    refine oIcF W7 (cd := .le) (o := 13) (by decide +kernel) (XT.ii_le_f (by decide)) (pc' := 57) rfl ?_
    refine oGo W7 [.aload 11, .aload 7] (by decide +kernel) (ls' := #[.val (.int i0), .val (.int i1), .val (.int i2), .val (.int i3), .val (.int i4), .val (.int i5), .val (.ref x0), .val (.ref x1), .val (.ref x2), .val (.ref x3), .val (.int (2 : Int32)), .val (.ref a), .unset, .unset, .unset]) (st' := [(.ref x1), (.ref a)]) rfl rfl (pc' := 61) rfl ?_
    obtain ⟨v12, T12, L12, h12, vm12, W12, ⟨rfl, K12, A12⟩, C12, st12⟩ := oCallI W7 (idx := 16) (pc := 61) (ls := #[.val (.int i0), .val (.int i1), .val (.int i2), .val (.int i3), .val (.int i4), .val (.int i5), .val (.ref x0), .val (.ref x1), .val (.ref x2), .val (.ref x3), .val (.int (2 : Int32)), .val (.ref a), .unset, .unset, .unset]) (st := []) (cnt := 2) (argsL := [(.ref x1)]) A7.1.1 (c_adn K (Nat.le_trans W4.ext.1 g5) (vs := ((List.replicate 10 Value.null).set 0 (.ref x0))) (n := 1) A7 (by simp) (by decide) ((((X2.ext E3).ext E4).ext (exK E5 K6 (fun y hy => by cases List.mem_singleton.mp hy; exact g5))).keep K7)) (fun x hx => nomatch hx) (hw _ (List.mem_of_getElem? (i := 58) rfl)) (hw _ (List.mem_of_getElem? (i := 59) rfl)) (hw _ (List.mem_of_getElem? (i := 60) rfl)) (by decide) (hw _ (List.mem_of_getElem? (i := 61) rfl)) (hw _ (List.mem_of_getElem? (i := 62) rfl)) (hw _ (List.mem_of_getElem? (i := 63) rfl)) (hw _ (List.mem_of_getElem? (i := 64) rfl)) (hw _ (List.mem_of_getElem? (i := 65) rfl)) (hw _ (List.mem_of_getElem? (i := 36) rfl)) (hw _ (List.mem_of_getElem? (i := 66) rfl)) (by decide) (na := 1) rfl (by decide +kernel) rfl (stk := [(.ref x1), (.ref a)]) rfl (by decide +kernel) (V := 0) (lb rfl) (lb rfl) (lb rfl) (lb rfl) (lb rfl)
    refine oLift st12 ?_
    show OG _ _ _ _ _ _ _ _ _ _ _ (mkF m 66 #[.val (.int i0), .val (.int i1), .val (.int i2), .val (.int i3), .val (.int i4), .val (.int i5), .val (.ref x0), .val (.ref x1), .val (.ref x2), .val (.ref x3), .val (.int (2 : Int32)), .val (.ref a), .unset, .unset, .unset] [(.int (1 : Int32))])
    refine oGo W12 [.pop, .iload 10, .iconst 2] (by decide +kernel) (ls' := #[.val (.int i0), .val (.int i1), .val (.int i2), .val (.int i3), .val (.int i4), .val (.int i5), .val (.ref x0), .val (.ref x1), .val (.ref x2), .val (.ref x3), .val (.int (2 : Int32)), .val (.ref a), .unset, .unset, .unset]) (st' := [(.int (2 : Int32)), (.int (2 : Int32))]) rfl rfl (pc' := 70) rfl ?_
    refine oIcT W12 (cd := .le) (o := 13) (by decide +kernel) (XT.ii_le_t (by decide)) (pc' := 83) (by decide) (by decide) ?_
    refine oGo W12 [.iload 10, .iconst 3] (by decide +kernel) (ls' := #[.val (.int i0), .val (.int i1), .val (.int i2), .val (.int i3), .val (.int i4), .val (.int i5), .val (.ref x0), .val (.ref x1), .val (.ref x2), .val (.ref x3), .val (.int (2 : Int32)), .val (.ref a), .unset, .unset, .unset]) (st' := [(.int (3 : Int32)), (.int (2 : Int32))]) rfl rfl (pc' := 86) rfl ?_
    refine oIcT W12 (cd := .le) (o := 13) (by decide +kernel) (XT.ii_le_t (by decide)) (pc' := 99) (by decide) (by decide) ?_
    refine oGo W12 [.iload 5] (by decide +kernel) (ls' := #[.val (.int i0), .val (.int i1), .val (.int i2), .val (.int i3), .val (.int i4), .val (.int i5), .val (.ref x0), .val (.ref x1), .val (.ref x2), .val (.ref x3), .val (.int (2 : Int32)), .val (.ref a), .unset, .unset, .unset]) (st' := [(.int i5)]) rfl rfl (pc' := 101) rfl ?_
    refine oLdcI W12 (hw _ (List.mem_of_getElem? (i := 93) rfl)) (by decide +kernel) ?_
    refine oGo W12 [.iand, .iload 10, .irem, .istore 12, .iload 12] (by decide +kernel) (ls' := #[.val (.int i0), .val (.int i1), .val (.int i2), .val (.int i3), .val (.int i4), .val (.int i5), .val (.ref x0), .val (.ref x1), .val (.ref x2), .val (.ref x3), .val (.int (2 : Int32)), .val (.ref a), .val (.int ((i5 &&& (2147483647 : Int32)) % (2 : Int32))), .unset, .unset]) (st' := [(.int ((i5 &&& (2147483647 : Int32)) % (2 : Int32)))]) rfl rfl (pc' := 111) rfl ?_
    rcases own_rem2 i5 with hR | hR
    · rw [hR]
      refine oIfF W12 (cd := .ne) (o := 10) (by decide +kernel) (XT.i0_ne_f (by decide)) (pc' := 114) rfl ?_
      refine oGo W12 [.aload 6, .astore 13, .goto 33, .aload 11, .iload 12] (by decide +kernel) (ls' := #[.val (.int i0), .val (.int i1), .val (.int i2), .val (.int i3), .val (.int i4), .val (.int i5), .val (.ref x0), .val (.ref x1), .val (.ref x2), .val (.ref x3), .val (.int (2 : Int32)), .val (.ref a), .val (.int (0 : Int32)), .val (.ref x0), .unset]) (st' := [(.int (0 : Int32)), (.ref a)]) rfl rfl (pc' := 155) rfl ?_
      obtain ⟨a13, T13, h13, vm13, W13, E13, C13, st13⟩ := oLdc W12 (pc := 155) (ls := #[.val (.int i0), .val (.int i1), .val (.int i2), .val (.int i3), .val (.int i4), .val (.int i5), .val (.ref x0), .val (.ref x1), .val (.ref x2), .val (.ref x3), .val (.int (2 : Int32)), .val (.ref a), .val (.int (0 : Int32)), .val (.ref x0), .unset]) (st := [(.int (0 : Int32)), (.ref a)]) (hw _ (List.mem_of_getElem? (i := 94) rfl)) hS (by decide +kernel) (n := 20) (lb rfl) (lb rfl) (lb rfl) (lb rfl)
      refine oLift st13 ?_
      obtain ⟨v14, T14, L14, h14, vm14, W14, ⟨rfl, e14⟩, C14, st14⟩ := oCallS W13 (idx := 25) (pc := 157) (ls := #[.val (.int i0), .val (.int i1), .val (.int i2), .val (.int i3), .val (.int i4), .val (.int i5), .val (.ref x0), .val (.ref x1), .val (.ref x2), .val (.ref x3), .val (.int (2 : Int32)), .val (.ref a), .val (.int (0 : Int32)), .val (.ref x0), .unset]) (st := []) (argsL := [(.ref a), (.int (0 : Int32)), (.ref a13)]) (c_val K (vs := (((List.replicate 10 Value.null).set 0 (.ref x0)).set 1 (.ref x1))) (n := 2) (i := 0) (x := x0) (A12.ext E13) (by decide) (by decide) rfl (((((((X1.ext E2).ext E3).ext E4).ext (exK E5 K6 (fun y hy => by cases List.mem_singleton.mp hy; exact g5))).keep K7).keep K12).ext E13)) (fun x hx => nomatch hx) (hw _ (List.mem_of_getElem? (i := 97) rfl)) (hw _ (List.mem_of_getElem? (i := 98) rfl)) (hw _ (List.mem_of_getElem? (i := 99) rfl)) (hw _ (List.mem_of_getElem? (i := 100) rfl)) (by decide) (na := 3) rfl (by decide +kernel) rfl (stk := [(.ref a13), (.int (0 : Int32)), (.ref a)]) rfl (by decide +kernel) (V := 0) (lb rfl) (lb rfl) (lb rfl) (lb rfl) (lb rfl)
      refine oLift st14 ?_
      rw [e14] at W14 C14
      show OG _ _ _ _ _ _ _ _ _ _ _ (mkF m 160 #[.val (.int i0), .val (.int i1), .val (.int i2), .val (.int i3), .val (.int i4), .val (.int i5), .val (.ref x0), .val (.ref x1), .val (.ref x2), .val (.ref x3), .val (.int (2 : Int32)), .val (.ref a), .val (.int (0 : Int32)), .val (.ref x0), .unset] [(.ref x0)])
      refine oGo W14 [.astore 14, .aload 14] (by decide +kernel) (ls' := #[.val (.int i0), .val (.int i1), .val (.int i2), .val (.int i3), .val (.int i4), .val (.int i5), .val (.ref x0), .val (.ref x1), .val (.ref x2), .val (.ref x3), .val (.int (2 : Int32)), .val (.ref a), .val (.int (0 : Int32)), .val (.ref x0), .val (.ref x0)]) (st' := [(.ref x0)]) rfl rfl (pc' := 164) rfl ?_
      refine oNuF W14 (o := 29) (by decide +kernel) (pc' := 167) rfl ?_
      refine oGo W14 [.aload 14, .aload 13] (by decide +kernel) (ls' := #[.val (.int i0), .val (.int i1), .val (.int i2), .val (.int i3), .val (.int i4), .val (.int i5), .val (.ref x0), .val (.ref x1), .val (.ref x2), .val (.ref x3), .val (.int (2 : Int32)), .val (.ref a), .val (.int (0 : Int32)), .val (.ref x0), .val (.ref x0)]) (st' := [(.ref x0), (.ref x0)]) rfl rfl (pc' := 171) rfl ?_
      obtain ⟨v15, T15, L15, h15, vm15, W15, ⟨rfl, e15⟩, C15, st15⟩ := oCallV W14 (idx := 31) (pc := 171) (ls := #[.val (.int i0), .val (.int i1), .val (.int i2), .val (.int i3), .val (.int i4), .val (.int i5), .val (.ref x0), .val (.ref x1), .val (.ref x2), .val (.ref x3), .val (.int (2 : Int32)), .val (.ref a), .val (.int (0 : Int32)), .val (.ref x0), .val (.ref x0)]) (st := []) (argsL := [(.ref x0)]) (((((((X1.ext E2).ext E3).ext E4).ext (exK E5 K6 (fun y hy => by cases List.mem_singleton.mp hy; exact g5))).keep K7).keep K12).ext E13) (c_eqs K) (fun x hx => nomatch hx) (hw _ (List.mem_of_getElem? (i := 131) rfl)) (hw _ (List.mem_of_getElem? (i := 132) rfl)) (notFace_of_selects (args := #[]) (mvT W14.warm (hw _ (List.mem_of_getElem? (i := 134) rfl)))) (hw _ (List.mem_of_getElem? (i := 134) rfl)) (hw _ (List.mem_of_getElem? (i := 133) rfl)) (hw _ (List.mem_of_getElem? (i := 7) rfl)) (hw _ (List.mem_of_getElem? (i := 135) rfl)) (by decide) (na := 1) rfl (by decide +kernel) rfl (stk := [(.ref x0), (.ref x0)]) rfl (by decide +kernel) (V := 0) (lb rfl) (lb rfl) (lb rfl) (lb rfl) (lb rfl)
      refine oLift st15 ?_
      rw [e15] at W15 C15
      show OG _ _ _ _ _ _ _ _ _ _ _ (mkF m 174 #[.val (.int i0), .val (.int i1), .val (.int i2), .val (.int i3), .val (.int i4), .val (.int i5), .val (.ref x0), .val (.ref x1), .val (.ref x2), .val (.ref x3), .val (.int (2 : Int32)), .val (.ref a), .val (.int (0 : Int32)), .val (.ref x0), .val (.ref x0)] [(.int (1 : Int32))])
      refine oIfF W15 (cd := .eq) (o := 19) (by decide +kernel) (XT.i0_eq_f (by decide)) (pc' := 177) rfl ?_
      refine oGo W15 [.aload 11] (by decide +kernel) (ls' := #[.val (.int i0), .val (.int i1), .val (.int i2), .val (.int i3), .val (.int i4), .val (.int i5), .val (.ref x0), .val (.ref x1), .val (.ref x2), .val (.ref x3), .val (.int (2 : Int32)), .val (.ref a), .val (.int (0 : Int32)), .val (.ref x0), .val (.ref x0)]) (st' := [(.ref a)]) rfl rfl (pc' := 179) rfl ?_
      obtain ⟨v16, T16, L16, h16, vm16, W16, ⟨rfl, e16⟩, C16, st16⟩ := oCallI W15 (idx := 36) (pc := 179) (ls := #[.val (.int i0), .val (.int i1), .val (.int i2), .val (.int i3), .val (.int i4), .val (.int i5), .val (.ref x0), .val (.ref x1), .val (.ref x2), .val (.ref x3), .val (.int (2 : Int32)), .val (.ref a), .val (.int (0 : Int32)), .val (.ref x0), .val (.ref x0)]) (st := []) (cnt := 1) (argsL := []) (A12.1.1.ext E13) (c_siz K (n := 2) (A12.ext E13).1) (fun x hx => nomatch hx) (hw _ (List.mem_of_getElem? (i := 136) rfl)) (hw _ (List.mem_of_getElem? (i := 102) rfl)) (hw _ (List.mem_of_getElem? (i := 103) rfl)) (by decide) (hw _ (List.mem_of_getElem? (i := 104) rfl)) (hw _ (List.mem_of_getElem? (i := 105) rfl)) (hw _ (List.mem_of_getElem? (i := 106) rfl)) (hw _ (List.mem_of_getElem? (i := 107) rfl)) (hw _ (List.mem_of_getElem? (i := 65) rfl)) (hw _ (List.mem_of_getElem? (i := 36) rfl)) (hw _ (List.mem_of_getElem? (i := 108) rfl)) (by decide) (na := 0) rfl (by decide +kernel) rfl (stk := [(.ref a)]) rfl (by decide +kernel) (V := 0) (lb rfl) (lb rfl) (lb rfl) (lb rfl) (lb rfl)
      refine oLift st16 ?_
      rw [e16] at W16 C16
      show OG _ _ _ _ _ _ _ _ _ _ _ (mkF m 184 #[.val (.int i0), .val (.int i1), .val (.int i2), .val (.int i3), .val (.int i4), .val (.int i5), .val (.ref x0), .val (.ref x1), .val (.ref x2), .val (.ref x3), .val (.int (2 : Int32)), .val (.ref a), .val (.int (0 : Int32)), .val (.ref x0), .val (.ref x0)] [(.int (Int32.ofNat 2))])
      refine oGo W16 [.iload 10] (by decide +kernel) (ls' := #[.val (.int i0), .val (.int i1), .val (.int i2), .val (.int i3), .val (.int i4), .val (.int i5), .val (.ref x0), .val (.ref x1), .val (.ref x2), .val (.ref x3), .val (.int (2 : Int32)), .val (.ref a), .val (.int (0 : Int32)), .val (.ref x0), .val (.ref x0)]) (st' := [(.int (2 : Int32)), (.int (Int32.ofNat 2))]) rfl rfl (pc' := 186) rfl ?_
      refine oIcF W16 (cd := .ne) (o := 7) (by decide +kernel) (XT.ii_ne_f rfl) (pc' := 189) rfl ?_
      refine oGo W16 [.iconst 1, .goto 4] (by decide +kernel) (ls' := #[.val (.int i0), .val (.int i1), .val (.int i2), .val (.int i3), .val (.int i4), .val (.int i5), .val (.ref x0), .val (.ref x1), .val (.ref x2), .val (.ref x3), .val (.int (2 : Int32)), .val (.ref a), .val (.int (0 : Int32)), .val (.ref x0), .val (.ref x0)]) (st' := [(.int (1 : Int32))]) rfl rfl (pc' := 194) rfl ?_
      exact oRetN (by simp) W16 rfl (by decide +kernel) (lb rfl) (lb rfl) (fun vm' hv => rfl)
    · rw [hR]
      refine oIfT W12 (cd := .ne) (o := 10) (by decide +kernel) (XT.i0_ne_t (by decide)) (pc' := 121) (by decide) (by decide) ?_
      refine oGo W12 [.iload 12, .iconst 1] (by decide +kernel) (ls' := #[.val (.int i0), .val (.int i1), .val (.int i2), .val (.int i3), .val (.int i4), .val (.int i5), .val (.ref x0), .val (.ref x1), .val (.ref x2), .val (.ref x3), .val (.int (2 : Int32)), .val (.ref a), .val (.int (1 : Int32)), .unset, .unset]) (st' := [(.int (1 : Int32)), (.int (1 : Int32))]) rfl rfl (pc' := 124) rfl ?_
      refine oIcF W12 (cd := .ne) (o := 10) (by decide +kernel) (XT.ii_ne_f (by decide)) (pc' := 127) rfl ?_
      refine oGo W12 [.aload 7, .astore 13, .goto 20, .aload 11, .iload 12] (by decide +kernel) (ls' := #[.val (.int i0), .val (.int i1), .val (.int i2), .val (.int i3), .val (.int i4), .val (.int i5), .val (.ref x0), .val (.ref x1), .val (.ref x2), .val (.ref x3), .val (.int (2 : Int32)), .val (.ref a), .val (.int (1 : Int32)), .val (.ref x1), .unset]) (st' := [(.int (1 : Int32)), (.ref a)]) rfl rfl (pc' := 155) rfl ?_
      obtain ⟨a17, T17, h17, vm17, W17, E17, C17, st17⟩ := oLdc W12 (pc := 155) (ls := #[.val (.int i0), .val (.int i1), .val (.int i2), .val (.int i3), .val (.int i4), .val (.int i5), .val (.ref x0), .val (.ref x1), .val (.ref x2), .val (.ref x3), .val (.int (2 : Int32)), .val (.ref a), .val (.int (1 : Int32)), .val (.ref x1), .unset]) (st := [(.int (1 : Int32)), (.ref a)]) (hw _ (List.mem_of_getElem? (i := 94) rfl)) hS (by decide +kernel) (n := 20) (lb rfl) (lb rfl) (lb rfl) (lb rfl)
      refine oLift st17 ?_
      obtain ⟨v18, T18, L18, h18, vm18, W18, ⟨rfl, e18⟩, C18, st18⟩ := oCallS W17 (idx := 25) (pc := 157) (ls := #[.val (.int i0), .val (.int i1), .val (.int i2), .val (.int i3), .val (.int i4), .val (.int i5), .val (.ref x0), .val (.ref x1), .val (.ref x2), .val (.ref x3), .val (.int (2 : Int32)), .val (.ref a), .val (.int (1 : Int32)), .val (.ref x1), .unset]) (st := []) (argsL := [(.ref a), (.int (1 : Int32)), (.ref a17)]) (c_val K (vs := (((List.replicate 10 Value.null).set 0 (.ref x0)).set 1 (.ref x1))) (n := 2) (i := 1) (x := x1) (A12.ext E17) (by decide) (by decide) rfl ((((((X2.ext E3).ext E4).ext (exK E5 K6 (fun y hy => by cases List.mem_singleton.mp hy; exact g5))).keep K7).keep K12).ext E17)) (fun x hx => nomatch hx) (hw _ (List.mem_of_getElem? (i := 97) rfl)) (hw _ (List.mem_of_getElem? (i := 98) rfl)) (hw _ (List.mem_of_getElem? (i := 99) rfl)) (hw _ (List.mem_of_getElem? (i := 100) rfl)) (by decide) (na := 3) rfl (by decide +kernel) rfl (stk := [(.ref a17), (.int (1 : Int32)), (.ref a)]) rfl (by decide +kernel) (V := 0) (lb rfl) (lb rfl) (lb rfl) (lb rfl) (lb rfl)
      refine oLift st18 ?_
      rw [e18] at W18 C18
      show OG _ _ _ _ _ _ _ _ _ _ _ (mkF m 160 #[.val (.int i0), .val (.int i1), .val (.int i2), .val (.int i3), .val (.int i4), .val (.int i5), .val (.ref x0), .val (.ref x1), .val (.ref x2), .val (.ref x3), .val (.int (2 : Int32)), .val (.ref a), .val (.int (1 : Int32)), .val (.ref x1), .unset] [(.ref x1)])
      refine oGo W18 [.astore 14, .aload 14] (by decide +kernel) (ls' := #[.val (.int i0), .val (.int i1), .val (.int i2), .val (.int i3), .val (.int i4), .val (.int i5), .val (.ref x0), .val (.ref x1), .val (.ref x2), .val (.ref x3), .val (.int (2 : Int32)), .val (.ref a), .val (.int (1 : Int32)), .val (.ref x1), .val (.ref x1)]) (st' := [(.ref x1)]) rfl rfl (pc' := 164) rfl ?_
      refine oNuF W18 (o := 29) (by decide +kernel) (pc' := 167) rfl ?_
      refine oGo W18 [.aload 14, .aload 13] (by decide +kernel) (ls' := #[.val (.int i0), .val (.int i1), .val (.int i2), .val (.int i3), .val (.int i4), .val (.int i5), .val (.ref x0), .val (.ref x1), .val (.ref x2), .val (.ref x3), .val (.int (2 : Int32)), .val (.ref a), .val (.int (1 : Int32)), .val (.ref x1), .val (.ref x1)]) (st' := [(.ref x1), (.ref x1)]) rfl rfl (pc' := 171) rfl ?_
      obtain ⟨v19, T19, L19, h19, vm19, W19, ⟨rfl, e19⟩, C19, st19⟩ := oCallV W18 (idx := 31) (pc := 171) (ls := #[.val (.int i0), .val (.int i1), .val (.int i2), .val (.int i3), .val (.int i4), .val (.int i5), .val (.ref x0), .val (.ref x1), .val (.ref x2), .val (.ref x3), .val (.int (2 : Int32)), .val (.ref a), .val (.int (1 : Int32)), .val (.ref x1), .val (.ref x1)]) (st := []) (argsL := [(.ref x1)]) ((((((X2.ext E3).ext E4).ext (exK E5 K6 (fun y hy => by cases List.mem_singleton.mp hy; exact g5))).keep K7).keep K12).ext E17) (c_eqs K) (fun x hx => nomatch hx) (hw _ (List.mem_of_getElem? (i := 131) rfl)) (hw _ (List.mem_of_getElem? (i := 132) rfl)) (notFace_of_selects (args := #[]) (mvT W18.warm (hw _ (List.mem_of_getElem? (i := 134) rfl)))) (hw _ (List.mem_of_getElem? (i := 134) rfl)) (hw _ (List.mem_of_getElem? (i := 133) rfl)) (hw _ (List.mem_of_getElem? (i := 7) rfl)) (hw _ (List.mem_of_getElem? (i := 135) rfl)) (by decide) (na := 1) rfl (by decide +kernel) rfl (stk := [(.ref x1), (.ref x1)]) rfl (by decide +kernel) (V := 0) (lb rfl) (lb rfl) (lb rfl) (lb rfl) (lb rfl)
      refine oLift st19 ?_
      rw [e19] at W19 C19
      show OG _ _ _ _ _ _ _ _ _ _ _ (mkF m 174 #[.val (.int i0), .val (.int i1), .val (.int i2), .val (.int i3), .val (.int i4), .val (.int i5), .val (.ref x0), .val (.ref x1), .val (.ref x2), .val (.ref x3), .val (.int (2 : Int32)), .val (.ref a), .val (.int (1 : Int32)), .val (.ref x1), .val (.ref x1)] [(.int (1 : Int32))])
      refine oIfF W19 (cd := .eq) (o := 19) (by decide +kernel) (XT.i0_eq_f (by decide)) (pc' := 177) rfl ?_
      refine oGo W19 [.aload 11] (by decide +kernel) (ls' := #[.val (.int i0), .val (.int i1), .val (.int i2), .val (.int i3), .val (.int i4), .val (.int i5), .val (.ref x0), .val (.ref x1), .val (.ref x2), .val (.ref x3), .val (.int (2 : Int32)), .val (.ref a), .val (.int (1 : Int32)), .val (.ref x1), .val (.ref x1)]) (st' := [(.ref a)]) rfl rfl (pc' := 179) rfl ?_
      obtain ⟨v20, T20, L20, h20, vm20, W20, ⟨rfl, e20⟩, C20, st20⟩ := oCallI W19 (idx := 36) (pc := 179) (ls := #[.val (.int i0), .val (.int i1), .val (.int i2), .val (.int i3), .val (.int i4), .val (.int i5), .val (.ref x0), .val (.ref x1), .val (.ref x2), .val (.ref x3), .val (.int (2 : Int32)), .val (.ref a), .val (.int (1 : Int32)), .val (.ref x1), .val (.ref x1)]) (st := []) (cnt := 1) (argsL := []) (A12.1.1.ext E17) (c_siz K (n := 2) (A12.ext E17).1) (fun x hx => nomatch hx) (hw _ (List.mem_of_getElem? (i := 136) rfl)) (hw _ (List.mem_of_getElem? (i := 102) rfl)) (hw _ (List.mem_of_getElem? (i := 103) rfl)) (by decide) (hw _ (List.mem_of_getElem? (i := 104) rfl)) (hw _ (List.mem_of_getElem? (i := 105) rfl)) (hw _ (List.mem_of_getElem? (i := 106) rfl)) (hw _ (List.mem_of_getElem? (i := 107) rfl)) (hw _ (List.mem_of_getElem? (i := 65) rfl)) (hw _ (List.mem_of_getElem? (i := 36) rfl)) (hw _ (List.mem_of_getElem? (i := 108) rfl)) (by decide) (na := 0) rfl (by decide +kernel) rfl (stk := [(.ref a)]) rfl (by decide +kernel) (V := 0) (lb rfl) (lb rfl) (lb rfl) (lb rfl) (lb rfl)
      refine oLift st20 ?_
      rw [e20] at W20 C20
      show OG _ _ _ _ _ _ _ _ _ _ _ (mkF m 184 #[.val (.int i0), .val (.int i1), .val (.int i2), .val (.int i3), .val (.int i4), .val (.int i5), .val (.ref x0), .val (.ref x1), .val (.ref x2), .val (.ref x3), .val (.int (2 : Int32)), .val (.ref a), .val (.int (1 : Int32)), .val (.ref x1), .val (.ref x1)] [(.int (Int32.ofNat 2))])
      refine oGo W20 [.iload 10] (by decide +kernel) (ls' := #[.val (.int i0), .val (.int i1), .val (.int i2), .val (.int i3), .val (.int i4), .val (.int i5), .val (.ref x0), .val (.ref x1), .val (.ref x2), .val (.ref x3), .val (.int (2 : Int32)), .val (.ref a), .val (.int (1 : Int32)), .val (.ref x1), .val (.ref x1)]) (st' := [(.int (2 : Int32)), (.int (Int32.ofNat 2))]) rfl rfl (pc' := 186) rfl ?_
      refine oIcF W20 (cd := .ne) (o := 7) (by decide +kernel) (XT.ii_ne_f rfl) (pc' := 189) rfl ?_
      refine oGo W20 [.iconst 1, .goto 4] (by decide +kernel) (ls' := #[.val (.int i0), .val (.int i1), .val (.int i2), .val (.int i3), .val (.int i4), .val (.int i5), .val (.ref x0), .val (.ref x1), .val (.ref x2), .val (.ref x3), .val (.int (2 : Int32)), .val (.ref a), .val (.int (1 : Int32)), .val (.ref x1), .val (.ref x1)]) (st' := [(.int (1 : Int32))]) rfl rfl (pc' := 194) rfl ?_
      exact oRetN (by simp) W20 rfl (by decide +kernel) (lb rfl) (lb rfl) (fun vm' hv => rfl)
  · rw [hL]
    refine oIcF W7 (cd := .le) (o := 13) (by decide +kernel) (XT.ii_le_f (by decide)) (pc' := 57) rfl ?_
    refine oGo W7 [.aload 11, .aload 7] (by decide +kernel) (ls' := #[.val (.int i0), .val (.int i1), .val (.int i2), .val (.int i3), .val (.int i4), .val (.int i5), .val (.ref x0), .val (.ref x1), .val (.ref x2), .val (.ref x3), .val (.int (3 : Int32)), .val (.ref a), .unset, .unset, .unset]) (st' := [(.ref x1), (.ref a)]) rfl rfl (pc' := 61) rfl ?_
    obtain ⟨v21, T21, L21, h21, vm21, W21, ⟨rfl, K21, A21⟩, C21, st21⟩ := oCallI W7 (idx := 16) (pc := 61) (ls := #[.val (.int i0), .val (.int i1), .val (.int i2), .val (.int i3), .val (.int i4), .val (.int i5), .val (.ref x0), .val (.ref x1), .val (.ref x2), .val (.ref x3), .val (.int (3 : Int32)), .val (.ref a), .unset, .unset, .unset]) (st := []) (cnt := 2) (argsL := [(.ref x1)]) A7.1.1 (c_adn K (Nat.le_trans W4.ext.1 g5) (vs := ((List.replicate 10 Value.null).set 0 (.ref x0))) (n := 1) A7 (by simp) (by decide) ((((X2.ext E3).ext E4).ext (exK E5 K6 (fun y hy => by cases List.mem_singleton.mp hy; exact g5))).keep K7)) (fun x hx => nomatch hx) (hw _ (List.mem_of_getElem? (i := 58) rfl)) (hw _ (List.mem_of_getElem? (i := 59) rfl)) (hw _ (List.mem_of_getElem? (i := 60) rfl)) (by decide) (hw _ (List.mem_of_getElem? (i := 61) rfl)) (hw _ (List.mem_of_getElem? (i := 62) rfl)) (hw _ (List.mem_of_getElem? (i := 63) rfl)) (hw _ (List.mem_of_getElem? (i := 64) rfl)) (hw _ (List.mem_of_getElem? (i := 65) rfl)) (hw _ (List.mem_of_getElem? (i := 36) rfl)) (hw _ (List.mem_of_getElem? (i := 66) rfl)) (by decide) (na := 1) rfl (by decide +kernel) rfl (stk := [(.ref x1), (.ref a)]) rfl (by decide +kernel) (V := 0) (lb rfl) (lb rfl) (lb rfl) (lb rfl) (lb rfl)
    refine oLift st21 ?_
    show OG _ _ _ _ _ _ _ _ _ _ _ (mkF m 66 #[.val (.int i0), .val (.int i1), .val (.int i2), .val (.int i3), .val (.int i4), .val (.int i5), .val (.ref x0), .val (.ref x1), .val (.ref x2), .val (.ref x3), .val (.int (3 : Int32)), .val (.ref a), .unset, .unset, .unset] [(.int (1 : Int32))])
    refine oGo W21 [.pop, .iload 10, .iconst 2] (by decide +kernel) (ls' := #[.val (.int i0), .val (.int i1), .val (.int i2), .val (.int i3), .val (.int i4), .val (.int i5), .val (.ref x0), .val (.ref x1), .val (.ref x2), .val (.ref x3), .val (.int (3 : Int32)), .val (.ref a), .unset, .unset, .unset]) (st' := [(.int (2 : Int32)), (.int (3 : Int32))]) rfl rfl (pc' := 70) rfl ?_
    refine oIcF W21 (cd := .le) (o := 13) (by decide +kernel) (XT.ii_le_f (by decide)) (pc' := 73) rfl ?_
    refine oGo W21 [.aload 11, .aload 8] (by decide +kernel) (ls' := #[.val (.int i0), .val (.int i1), .val (.int i2), .val (.int i3), .val (.int i4), .val (.int i5), .val (.ref x0), .val (.ref x1), .val (.ref x2), .val (.ref x3), .val (.int (3 : Int32)), .val (.ref a), .unset, .unset, .unset]) (st' := [(.ref x2), (.ref a)]) rfl rfl (pc' := 77) rfl ?_
    obtain ⟨v22, T22, L22, h22, vm22, W22, ⟨rfl, K22, A22⟩, C22, st22⟩ := oCallI W21 (idx := 16) (pc := 77) (ls := #[.val (.int i0), .val (.int i1), .val (.int i2), .val (.int i3), .val (.int i4), .val (.int i5), .val (.ref x0), .val (.ref x1), .val (.ref x2), .val (.ref x3), .val (.int (3 : Int32)), .val (.ref a), .unset, .unset, .unset]) (st := []) (cnt := 2) (argsL := [(.ref x2)]) A21.1.1 (c_adn K (Nat.le_trans W4.ext.1 g5) (vs := (((List.replicate 10 Value.null).set 0 (.ref x0)).set 1 (.ref x1))) (n := 2) A21 (by simp) (by decide) ((((X3.ext E4).ext (exK E5 K6 (fun y hy => by cases List.mem_singleton.mp hy; exact g5))).keep K7).keep K21)) (fun x hx => nomatch hx) (hw _ (List.mem_of_getElem? (i := 58) rfl)) (hw _ (List.mem_of_getElem? (i := 59) rfl)) (hw _ (List.mem_of_getElem? (i := 60) rfl)) (by decide) (hw _ (List.mem_of_getElem? (i := 61) rfl)) (hw _ (List.mem_of_getElem? (i := 62) rfl)) (hw _ (List.mem_of_getElem? (i := 63) rfl)) (hw _ (List.mem_of_getElem? (i := 64) rfl)) (hw _ (List.mem_of_getElem? (i := 65) rfl)) (hw _ (List.mem_of_getElem? (i := 36) rfl)) (hw _ (List.mem_of_getElem? (i := 66) rfl)) (by decide) (na := 1) rfl (by decide +kernel) rfl (stk := [(.ref x2), (.ref a)]) rfl (by decide +kernel) (V := 0) (lb rfl) (lb rfl) (lb rfl) (lb rfl) (lb rfl)
    refine oLift st22 ?_
    show OG _ _ _ _ _ _ _ _ _ _ _ (mkF m 82 #[.val (.int i0), .val (.int i1), .val (.int i2), .val (.int i3), .val (.int i4), .val (.int i5), .val (.ref x0), .val (.ref x1), .val (.ref x2), .val (.ref x3), .val (.int (3 : Int32)), .val (.ref a), .unset, .unset, .unset] [(.int (1 : Int32))])
    refine oGo W22 [.pop, .iload 10, .iconst 3] (by decide +kernel) (ls' := #[.val (.int i0), .val (.int i1), .val (.int i2), .val (.int i3), .val (.int i4), .val (.int i5), .val (.ref x0), .val (.ref x1), .val (.ref x2), .val (.ref x3), .val (.int (3 : Int32)), .val (.ref a), .unset, .unset, .unset]) (st' := [(.int (3 : Int32)), (.int (3 : Int32))]) rfl rfl (pc' := 86) rfl ?_
    refine oIcT W22 (cd := .le) (o := 13) (by decide +kernel) (XT.ii_le_t (by decide)) (pc' := 99) (by decide) (by decide) ?_
    refine oGo W22 [.iload 5] (by decide +kernel) (ls' := #[.val (.int i0), .val (.int i1), .val (.int i2), .val (.int i3), .val (.int i4), .val (.int i5), .val (.ref x0), .val (.ref x1), .val (.ref x2), .val (.ref x3), .val (.int (3 : Int32)), .val (.ref a), .unset, .unset, .unset]) (st' := [(.int i5)]) rfl rfl (pc' := 101) rfl ?_
    refine oLdcI W22 (hw _ (List.mem_of_getElem? (i := 93) rfl)) (by decide +kernel) ?_
    refine oGo W22 [.iand, .iload 10, .irem, .istore 12, .iload 12] (by decide +kernel) (ls' := #[.val (.int i0), .val (.int i1), .val (.int i2), .val (.int i3), .val (.int i4), .val (.int i5), .val (.ref x0), .val (.ref x1), .val (.ref x2), .val (.ref x3), .val (.int (3 : Int32)), .val (.ref a), .val (.int ((i5 &&& (2147483647 : Int32)) % (3 : Int32))), .unset, .unset]) (st' := [(.int ((i5 &&& (2147483647 : Int32)) % (3 : Int32)))]) rfl rfl (pc' := 111) rfl ?_
    rcases own_rem3 i5 with hR | hR | hR
    · rw [hR]
      refine oIfF W22 (cd := .ne) (o := 10) (by decide +kernel) (XT.i0_ne_f (by decide)) (pc' := 114) rfl ?_
      refine oGo W22 [.aload 6, .astore 13, .goto 33, .aload 11, .iload 12] (by decide +kernel) (ls' := #[.val (.int i0), .val (.int i1), .val (.int i2), .val (.int i3), .val (.int i4), .val (.int i5), .val (.ref x0), .val (.ref x1), .val (.ref x2), .val (.ref x3), .val (.int (3 : Int32)), .val (.ref a), .val (.int (0 : Int32)), .val (.ref x0), .unset]) (st' := [(.int (0 : Int32)), (.ref a)]) rfl rfl (pc' := 155) rfl ?_
      obtain ⟨a23, T23, h23, vm23, W23, E23, C23, st23⟩ := oLdc W22 (pc := 155) (ls := #[.val (.int i0), .val (.int i1), .val (.int i2), .val (.int i3), .val (.int i4), .val (.int i5), .val (.ref x0), .val (.ref x1), .val (.ref x2), .val (.ref x3), .val (.int (3 : Int32)), .val (.ref a), .val (.int (0 : Int32)), .val (.ref x0), .unset]) (st := [(.int (0 : Int32)), (.ref a)]) (hw _ (List.mem_of_getElem? (i := 94) rfl)) hS (by decide +kernel) (n := 20) (lb rfl) (lb rfl) (lb rfl) (lb rfl)
      refine oLift st23 ?_
      obtain ⟨v24, T24, L24, h24, vm24, W24, ⟨rfl, e24⟩, C24, st24⟩ := oCallS W23 (idx := 25) (pc := 157) (ls := #[.val (.int i0), .val (.int i1), .val (.int i2), .val (.int i3), .val (.int i4), .val (.int i5), .val (.ref x0), .val (.ref x1), .val (.ref x2), .val (.ref x3), .val (.int (3 : Int32)), .val (.ref a), .val (.int (0 : Int32)), .val (.ref x0), .unset]) (st := []) (argsL := [(.ref a), (.int (0 : Int32)), (.ref a23)]) (c_val K (vs := ((((List.replicate 10 Value.null).set 0 (.ref x0)).set 1 (.ref x1)).set 2 (.ref x2))) (n := 3) (i := 0) (x := x0) (A22.ext E23) (by decide) (by decide) rfl ((((((((X1.ext E2).ext E3).ext E4).ext (exK E5 K6 (fun y hy => by cases List.mem_singleton.mp hy; exact g5))).keep K7).keep K21).keep K22).ext E23)) (fun x hx => nomatch hx) (hw _ (List.mem_of_getElem? (i := 97) rfl)) (hw _ (List.mem_of_getElem? (i := 98) rfl)) (hw _ (List.mem_of_getElem? (i := 99) rfl)) (hw _ (List.mem_of_getElem? (i := 100) rfl)) (by decide) (na := 3) rfl (by decide +kernel) rfl (stk := [(.ref a23), (.int (0 : Int32)), (.ref a)]) rfl (by decide +kernel) (V := 0) (lb rfl) (lb rfl) (lb rfl) (lb rfl) (lb rfl)
      refine oLift st24 ?_
      rw [e24] at W24 C24
      show OG _ _ _ _ _ _ _ _ _ _ _ (mkF m 160 #[.val (.int i0), .val (.int i1), .val (.int i2), .val (.int i3), .val (.int i4), .val (.int i5), .val (.ref x0), .val (.ref x1), .val (.ref x2), .val (.ref x3), .val (.int (3 : Int32)), .val (.ref a), .val (.int (0 : Int32)), .val (.ref x0), .unset] [(.ref x0)])
      refine oGo W24 [.astore 14, .aload 14] (by decide +kernel) (ls' := #[.val (.int i0), .val (.int i1), .val (.int i2), .val (.int i3), .val (.int i4), .val (.int i5), .val (.ref x0), .val (.ref x1), .val (.ref x2), .val (.ref x3), .val (.int (3 : Int32)), .val (.ref a), .val (.int (0 : Int32)), .val (.ref x0), .val (.ref x0)]) (st' := [(.ref x0)]) rfl rfl (pc' := 164) rfl ?_
      refine oNuF W24 (o := 29) (by decide +kernel) (pc' := 167) rfl ?_
      refine oGo W24 [.aload 14, .aload 13] (by decide +kernel) (ls' := #[.val (.int i0), .val (.int i1), .val (.int i2), .val (.int i3), .val (.int i4), .val (.int i5), .val (.ref x0), .val (.ref x1), .val (.ref x2), .val (.ref x3), .val (.int (3 : Int32)), .val (.ref a), .val (.int (0 : Int32)), .val (.ref x0), .val (.ref x0)]) (st' := [(.ref x0), (.ref x0)]) rfl rfl (pc' := 171) rfl ?_
      obtain ⟨v25, T25, L25, h25, vm25, W25, ⟨rfl, e25⟩, C25, st25⟩ := oCallV W24 (idx := 31) (pc := 171) (ls := #[.val (.int i0), .val (.int i1), .val (.int i2), .val (.int i3), .val (.int i4), .val (.int i5), .val (.ref x0), .val (.ref x1), .val (.ref x2), .val (.ref x3), .val (.int (3 : Int32)), .val (.ref a), .val (.int (0 : Int32)), .val (.ref x0), .val (.ref x0)]) (st := []) (argsL := [(.ref x0)]) ((((((((X1.ext E2).ext E3).ext E4).ext (exK E5 K6 (fun y hy => by cases List.mem_singleton.mp hy; exact g5))).keep K7).keep K21).keep K22).ext E23) (c_eqs K) (fun x hx => nomatch hx) (hw _ (List.mem_of_getElem? (i := 131) rfl)) (hw _ (List.mem_of_getElem? (i := 132) rfl)) (notFace_of_selects (args := #[]) (mvT W24.warm (hw _ (List.mem_of_getElem? (i := 134) rfl)))) (hw _ (List.mem_of_getElem? (i := 134) rfl)) (hw _ (List.mem_of_getElem? (i := 133) rfl)) (hw _ (List.mem_of_getElem? (i := 7) rfl)) (hw _ (List.mem_of_getElem? (i := 135) rfl)) (by decide) (na := 1) rfl (by decide +kernel) rfl (stk := [(.ref x0), (.ref x0)]) rfl (by decide +kernel) (V := 0) (lb rfl) (lb rfl) (lb rfl) (lb rfl) (lb rfl)
      refine oLift st25 ?_
      rw [e25] at W25 C25
      show OG _ _ _ _ _ _ _ _ _ _ _ (mkF m 174 #[.val (.int i0), .val (.int i1), .val (.int i2), .val (.int i3), .val (.int i4), .val (.int i5), .val (.ref x0), .val (.ref x1), .val (.ref x2), .val (.ref x3), .val (.int (3 : Int32)), .val (.ref a), .val (.int (0 : Int32)), .val (.ref x0), .val (.ref x0)] [(.int (1 : Int32))])
      refine oIfF W25 (cd := .eq) (o := 19) (by decide +kernel) (XT.i0_eq_f (by decide)) (pc' := 177) rfl ?_
      refine oGo W25 [.aload 11] (by decide +kernel) (ls' := #[.val (.int i0), .val (.int i1), .val (.int i2), .val (.int i3), .val (.int i4), .val (.int i5), .val (.ref x0), .val (.ref x1), .val (.ref x2), .val (.ref x3), .val (.int (3 : Int32)), .val (.ref a), .val (.int (0 : Int32)), .val (.ref x0), .val (.ref x0)]) (st' := [(.ref a)]) rfl rfl (pc' := 179) rfl ?_
      obtain ⟨v26, T26, L26, h26, vm26, W26, ⟨rfl, e26⟩, C26, st26⟩ := oCallI W25 (idx := 36) (pc := 179) (ls := #[.val (.int i0), .val (.int i1), .val (.int i2), .val (.int i3), .val (.int i4), .val (.int i5), .val (.ref x0), .val (.ref x1), .val (.ref x2), .val (.ref x3), .val (.int (3 : Int32)), .val (.ref a), .val (.int (0 : Int32)), .val (.ref x0), .val (.ref x0)]) (st := []) (cnt := 1) (argsL := []) (A22.1.1.ext E23) (c_siz K (n := 3) (A22.ext E23).1) (fun x hx => nomatch hx) (hw _ (List.mem_of_getElem? (i := 136) rfl)) (hw _ (List.mem_of_getElem? (i := 102) rfl)) (hw _ (List.mem_of_getElem? (i := 103) rfl)) (by decide) (hw _ (List.mem_of_getElem? (i := 104) rfl)) (hw _ (List.mem_of_getElem? (i := 105) rfl)) (hw _ (List.mem_of_getElem? (i := 106) rfl)) (hw _ (List.mem_of_getElem? (i := 107) rfl)) (hw _ (List.mem_of_getElem? (i := 65) rfl)) (hw _ (List.mem_of_getElem? (i := 36) rfl)) (hw _ (List.mem_of_getElem? (i := 108) rfl)) (by decide) (na := 0) rfl (by decide +kernel) rfl (stk := [(.ref a)]) rfl (by decide +kernel) (V := 0) (lb rfl) (lb rfl) (lb rfl) (lb rfl) (lb rfl)
      refine oLift st26 ?_
      rw [e26] at W26 C26
      show OG _ _ _ _ _ _ _ _ _ _ _ (mkF m 184 #[.val (.int i0), .val (.int i1), .val (.int i2), .val (.int i3), .val (.int i4), .val (.int i5), .val (.ref x0), .val (.ref x1), .val (.ref x2), .val (.ref x3), .val (.int (3 : Int32)), .val (.ref a), .val (.int (0 : Int32)), .val (.ref x0), .val (.ref x0)] [(.int (Int32.ofNat 3))])
      refine oGo W26 [.iload 10] (by decide +kernel) (ls' := #[.val (.int i0), .val (.int i1), .val (.int i2), .val (.int i3), .val (.int i4), .val (.int i5), .val (.ref x0), .val (.ref x1), .val (.ref x2), .val (.ref x3), .val (.int (3 : Int32)), .val (.ref a), .val (.int (0 : Int32)), .val (.ref x0), .val (.ref x0)]) (st' := [(.int (3 : Int32)), (.int (Int32.ofNat 3))]) rfl rfl (pc' := 186) rfl ?_
      refine oIcF W26 (cd := .ne) (o := 7) (by decide +kernel) (XT.ii_ne_f rfl) (pc' := 189) rfl ?_
      refine oGo W26 [.iconst 1, .goto 4] (by decide +kernel) (ls' := #[.val (.int i0), .val (.int i1), .val (.int i2), .val (.int i3), .val (.int i4), .val (.int i5), .val (.ref x0), .val (.ref x1), .val (.ref x2), .val (.ref x3), .val (.int (3 : Int32)), .val (.ref a), .val (.int (0 : Int32)), .val (.ref x0), .val (.ref x0)]) (st' := [(.int (1 : Int32))]) rfl rfl (pc' := 194) rfl ?_
      exact oRetN (by simp) W26 rfl (by decide +kernel) (lb rfl) (lb rfl) (fun vm' hv => rfl)
    · rw [hR]
      refine oIfT W22 (cd := .ne) (o := 10) (by decide +kernel) (XT.i0_ne_t (by decide)) (pc' := 121) (by decide) (by decide) ?_
      refine oGo W22 [.iload 12, .iconst 1] (by decide +kernel) (ls' := #[.val (.int i0), .val (.int i1), .val (.int i2), .val (.int i3), .val (.int i4), .val (.int i5), .val (.ref x0), .val (.ref x1), .val (.ref x2), .val (.ref x3), .val (.int (3 : Int32)), .val (.ref a), .val (.int (1 : Int32)), .unset, .unset]) (st' := [(.int (1 : Int32)), (.int (1 : Int32))]) rfl rfl (pc' := 124) rfl ?_
      refine oIcF W22 (cd := .ne) (o := 10) (by decide +kernel) (XT.ii_ne_f (by decide)) (pc' := 127) rfl ?_
      refine oGo W22 [.aload 7, .astore 13, .goto 20, .aload 11, .iload 12] (by decide +kernel) (ls' := #[.val (.int i0), .val (.int i1), .val (.int i2), .val (.int i3), .val (.int i4), .val (.int i5), .val (.ref x0), .val (.ref x1), .val (.ref x2), .val (.ref x3), .val (.int (3 : Int32)), .val (.ref a), .val (.int (1 : Int32)), .val (.ref x1), .unset]) (st' := [(.int (1 : Int32)), (.ref a)]) rfl rfl (pc' := 155) rfl ?_
      obtain ⟨a27, T27, h27, vm27, W27, E27, C27, st27⟩ := oLdc W22 (pc := 155) (ls := #[.val (.int i0), .val (.int i1), .val (.int i2), .val (.int i3), .val (.int i4), .val (.int i5), .val (.ref x0), .val (.ref x1), .val (.ref x2), .val (.ref x3), .val (.int (3 : Int32)), .val (.ref a), .val (.int (1 : Int32)), .val (.ref x1), .unset]) (st := [(.int (1 : Int32)), (.ref a)]) (hw _ (List.mem_of_getElem? (i := 94) rfl)) hS (by decide +kernel) (n := 20) (lb rfl) (lb rfl) (lb rfl) (lb rfl)
      refine oLift st27 ?_
      obtain ⟨v28, T28, L28, h28, vm28, W28, ⟨rfl, e28⟩, C28, st28⟩ := oCallS W27 (idx := 25) (pc := 157) (ls := #[.val (.int i0), .val (.int i1), .val (.int i2), .val (.int i3), .val (.int i4), .val (.int i5), .val (.ref x0), .val (.ref x1), .val (.ref x2), .val (.ref x3), .val (.int (3 : Int32)), .val (.ref a), .val (.int (1 : Int32)), .val (.ref x1), .unset]) (st := []) (argsL := [(.ref a), (.int (1 : Int32)), (.ref a27)]) (c_val K (vs := ((((List.replicate 10 Value.null).set 0 (.ref x0)).set 1 (.ref x1)).set 2 (.ref x2))) (n := 3) (i := 1) (x := x1) (A22.ext E27) (by decide) (by decide) rfl (((((((X2.ext E3).ext E4).ext (exK E5 K6 (fun y hy => by cases List.mem_singleton.mp hy; exact g5))).keep K7).keep K21).keep K22).ext E27)) (fun x hx => nomatch hx) (hw _ (List.mem_of_getElem? (i := 97) rfl)) (hw _ (List.mem_of_getElem? (i := 98) rfl)) (hw _ (List.mem_of_getElem? (i := 99) rfl)) (hw _ (List.mem_of_getElem? (i := 100) rfl)) (by decide) (na := 3) rfl (by decide +kernel) rfl (stk := [(.ref a27), (.int (1 : Int32)), (.ref a)]) rfl (by decide +kernel) (V := 0) (lb rfl) (lb rfl) (lb rfl) (lb rfl) (lb rfl)
      refine oLift st28 ?_
      rw [e28] at W28 C28
      show OG _ _ _ _ _ _ _ _ _ _ _ (mkF m 160 #[.val (.int i0), .val (.int i1), .val (.int i2), .val (.int i3), .val (.int i4), .val (.int i5), .val (.ref x0), .val (.ref x1), .val (.ref x2), .val (.ref x3), .val (.int (3 : Int32)), .val (.ref a), .val (.int (1 : Int32)), .val (.ref x1), .unset] [(.ref x1)])
      refine oGo W28 [.astore 14, .aload 14] (by decide +kernel) (ls' := #[.val (.int i0), .val (.int i1), .val (.int i2), .val (.int i3), .val (.int i4), .val (.int i5), .val (.ref x0), .val (.ref x1), .val (.ref x2), .val (.ref x3), .val (.int (3 : Int32)), .val (.ref a), .val (.int (1 : Int32)), .val (.ref x1), .val (.ref x1)]) (st' := [(.ref x1)]) rfl rfl (pc' := 164) rfl ?_
      refine oNuF W28 (o := 29) (by decide +kernel) (pc' := 167) rfl ?_
      refine oGo W28 [.aload 14, .aload 13] (by decide +kernel) (ls' := #[.val (.int i0), .val (.int i1), .val (.int i2), .val (.int i3), .val (.int i4), .val (.int i5), .val (.ref x0), .val (.ref x1), .val (.ref x2), .val (.ref x3), .val (.int (3 : Int32)), .val (.ref a), .val (.int (1 : Int32)), .val (.ref x1), .val (.ref x1)]) (st' := [(.ref x1), (.ref x1)]) rfl rfl (pc' := 171) rfl ?_
      obtain ⟨v29, T29, L29, h29, vm29, W29, ⟨rfl, e29⟩, C29, st29⟩ := oCallV W28 (idx := 31) (pc := 171) (ls := #[.val (.int i0), .val (.int i1), .val (.int i2), .val (.int i3), .val (.int i4), .val (.int i5), .val (.ref x0), .val (.ref x1), .val (.ref x2), .val (.ref x3), .val (.int (3 : Int32)), .val (.ref a), .val (.int (1 : Int32)), .val (.ref x1), .val (.ref x1)]) (st := []) (argsL := [(.ref x1)]) (((((((X2.ext E3).ext E4).ext (exK E5 K6 (fun y hy => by cases List.mem_singleton.mp hy; exact g5))).keep K7).keep K21).keep K22).ext E27) (c_eqs K) (fun x hx => nomatch hx) (hw _ (List.mem_of_getElem? (i := 131) rfl)) (hw _ (List.mem_of_getElem? (i := 132) rfl)) (notFace_of_selects (args := #[]) (mvT W28.warm (hw _ (List.mem_of_getElem? (i := 134) rfl)))) (hw _ (List.mem_of_getElem? (i := 134) rfl)) (hw _ (List.mem_of_getElem? (i := 133) rfl)) (hw _ (List.mem_of_getElem? (i := 7) rfl)) (hw _ (List.mem_of_getElem? (i := 135) rfl)) (by decide) (na := 1) rfl (by decide +kernel) rfl (stk := [(.ref x1), (.ref x1)]) rfl (by decide +kernel) (V := 0) (lb rfl) (lb rfl) (lb rfl) (lb rfl) (lb rfl)
      refine oLift st29 ?_
      rw [e29] at W29 C29
      show OG _ _ _ _ _ _ _ _ _ _ _ (mkF m 174 #[.val (.int i0), .val (.int i1), .val (.int i2), .val (.int i3), .val (.int i4), .val (.int i5), .val (.ref x0), .val (.ref x1), .val (.ref x2), .val (.ref x3), .val (.int (3 : Int32)), .val (.ref a), .val (.int (1 : Int32)), .val (.ref x1), .val (.ref x1)] [(.int (1 : Int32))])
      refine oIfF W29 (cd := .eq) (o := 19) (by decide +kernel) (XT.i0_eq_f (by decide)) (pc' := 177) rfl ?_
      refine oGo W29 [.aload 11] (by decide +kernel) (ls' := #[.val (.int i0), .val (.int i1), .val (.int i2), .val (.int i3), .val (.int i4), .val (.int i5), .val (.ref x0), .val (.ref x1), .val (.ref x2), .val (.ref x3), .val (.int (3 : Int32)), .val (.ref a), .val (.int (1 : Int32)), .val (.ref x1), .val (.ref x1)]) (st' := [(.ref a)]) rfl rfl (pc' := 179) rfl ?_
      obtain ⟨v30, T30, L30, h30, vm30, W30, ⟨rfl, e30⟩, C30, st30⟩ := oCallI W29 (idx := 36) (pc := 179) (ls := #[.val (.int i0), .val (.int i1), .val (.int i2), .val (.int i3), .val (.int i4), .val (.int i5), .val (.ref x0), .val (.ref x1), .val (.ref x2), .val (.ref x3), .val (.int (3 : Int32)), .val (.ref a), .val (.int (1 : Int32)), .val (.ref x1), .val (.ref x1)]) (st := []) (cnt := 1) (argsL := []) (A22.1.1.ext E27) (c_siz K (n := 3) (A22.ext E27).1) (fun x hx => nomatch hx) (hw _ (List.mem_of_getElem? (i := 136) rfl)) (hw _ (List.mem_of_getElem? (i := 102) rfl)) (hw _ (List.mem_of_getElem? (i := 103) rfl)) (by decide) (hw _ (List.mem_of_getElem? (i := 104) rfl)) (hw _ (List.mem_of_getElem? (i := 105) rfl)) (hw _ (List.mem_of_getElem? (i := 106) rfl)) (hw _ (List.mem_of_getElem? (i := 107) rfl)) (hw _ (List.mem_of_getElem? (i := 65) rfl)) (hw _ (List.mem_of_getElem? (i := 36) rfl)) (hw _ (List.mem_of_getElem? (i := 108) rfl)) (by decide) (na := 0) rfl (by decide +kernel) rfl (stk := [(.ref a)]) rfl (by decide +kernel) (V := 0) (lb rfl) (lb rfl) (lb rfl) (lb rfl) (lb rfl)
      refine oLift st30 ?_
      rw [e30] at W30 C30
      show OG _ _ _ _ _ _ _ _ _ _ _ (mkF m 184 #[.val (.int i0), .val (.int i1), .val (.int i2), .val (.int i3), .val (.int i4), .val (.int i5), .val (.ref x0), .val (.ref x1), .val (.ref x2), .val (.ref x3), .val (.int (3 : Int32)), .val (.ref a), .val (.int (1 : Int32)), .val (.ref x1), .val (.ref x1)] [(.int (Int32.ofNat 3))])
      refine oGo W30 [.iload 10] (by decide +kernel) (ls' := #[.val (.int i0), .val (.int i1), .val (.int i2), .val (.int i3), .val (.int i4), .val (.int i5), .val (.ref x0), .val (.ref x1), .val (.ref x2), .val (.ref x3), .val (.int (3 : Int32)), .val (.ref a), .val (.int (1 : Int32)), .val (.ref x1), .val (.ref x1)]) (st' := [(.int (3 : Int32)), (.int (Int32.ofNat 3))]) rfl rfl (pc' := 186) rfl ?_
      refine oIcF W30 (cd := .ne) (o := 7) (by decide +kernel) (XT.ii_ne_f rfl) (pc' := 189) rfl ?_
      refine oGo W30 [.iconst 1, .goto 4] (by decide +kernel) (ls' := #[.val (.int i0), .val (.int i1), .val (.int i2), .val (.int i3), .val (.int i4), .val (.int i5), .val (.ref x0), .val (.ref x1), .val (.ref x2), .val (.ref x3), .val (.int (3 : Int32)), .val (.ref a), .val (.int (1 : Int32)), .val (.ref x1), .val (.ref x1)]) (st' := [(.int (1 : Int32))]) rfl rfl (pc' := 194) rfl ?_
      exact oRetN (by simp) W30 rfl (by decide +kernel) (lb rfl) (lb rfl) (fun vm' hv => rfl)
    · rw [hR]
      refine oIfT W22 (cd := .ne) (o := 10) (by decide +kernel) (XT.i0_ne_t (by decide)) (pc' := 121) (by decide) (by decide) ?_
      refine oGo W22 [.iload 12, .iconst 1] (by decide +kernel) (ls' := #[.val (.int i0), .val (.int i1), .val (.int i2), .val (.int i3), .val (.int i4), .val (.int i5), .val (.ref x0), .val (.ref x1), .val (.ref x2), .val (.ref x3), .val (.int (3 : Int32)), .val (.ref a), .val (.int (2 : Int32)), .unset, .unset]) (st' := [(.int (1 : Int32)), (.int (2 : Int32))]) rfl rfl (pc' := 124) rfl ?_
      refine oIcT W22 (cd := .ne) (o := 10) (by decide +kernel) (XT.ii_ne_t (by decide)) (pc' := 134) (by decide) (by decide) ?_
      refine oGo W22 [.iload 12, .iconst 2] (by decide +kernel) (ls' := #[.val (.int i0), .val (.int i1), .val (.int i2), .val (.int i3), .val (.int i4), .val (.int i5), .val (.ref x0), .val (.ref x1), .val (.ref x2), .val (.ref x3), .val (.int (3 : Int32)), .val (.ref a), .val (.int (2 : Int32)), .unset, .unset]) (st' := [(.int (2 : Int32)), (.int (2 : Int32))]) rfl rfl (pc' := 137) rfl ?_
      refine oIcF W22 (cd := .ne) (o := 10) (by decide +kernel) (XT.ii_ne_f (by decide)) (pc' := 140) rfl ?_
      refine oGo W22 [.aload 8, .astore 13, .goto 7, .aload 11, .iload 12] (by decide +kernel) (ls' := #[.val (.int i0), .val (.int i1), .val (.int i2), .val (.int i3), .val (.int i4), .val (.int i5), .val (.ref x0), .val (.ref x1), .val (.ref x2), .val (.ref x3), .val (.int (3 : Int32)), .val (.ref a), .val (.int (2 : Int32)), .val (.ref x2), .unset]) (st' := [(.int (2 : Int32)), (.ref a)]) rfl rfl (pc' := 155) rfl ?_
      obtain ⟨a31, T31, h31, vm31, W31, E31, C31, st31⟩ := oLdc W22 (pc := 155) (ls := #[.val (.int i0), .val (.int i1), .val (.int i2), .val (.int i3), .val (.int i4), .val (.int i5), .val (.ref x0), .val (.ref x1), .val (.ref x2), .val (.ref x3), .val (.int (3 : Int32)), .val (.ref a), .val (.int (2 : Int32)), .val (.ref x2), .unset]) (st := [(.int (2 : Int32)), (.ref a)]) (hw _ (List.mem_of_getElem? (i := 94) rfl)) hS (by decide +kernel) (n := 20) (lb rfl) (lb rfl) (lb rfl) (lb rfl)
      refine oLift st31 ?_
      obtain ⟨v32, T32, L32, h32, vm32, W32, ⟨rfl, e32⟩, C32, st32⟩ := oCallS W31 (idx := 25) (pc := 157) (ls := #[.val (.int i0), .val (.int i1), .val (.int i2), .val (.int i3), .val (.int i4), .val (.int i5), .val (.ref x0), .val (.ref x1), .val (.ref x2), .val (.ref x3), .val (.int (3 : Int32)), .val (.ref a), .val (.int (2 : Int32)), .val (.ref x2), .unset]) (st := []) (argsL := [(.ref a), (.int (2 : Int32)), (.ref a31)]) (c_val K (vs := ((((List.replicate 10 Value.null).set 0 (.ref x0)).set 1 (.ref x1)).set 2 (.ref x2))) (n := 3) (i := 2) (x := x2) (A22.ext E31) (by decide) (by decide) rfl ((((((X3.ext E4).ext (exK E5 K6 (fun y hy => by cases List.mem_singleton.mp hy; exact g5))).keep K7).keep K21).keep K22).ext E31)) (fun x hx => nomatch hx) (hw _ (List.mem_of_getElem? (i := 97) rfl)) (hw _ (List.mem_of_getElem? (i := 98) rfl)) (hw _ (List.mem_of_getElem? (i := 99) rfl)) (hw _ (List.mem_of_getElem? (i := 100) rfl)) (by decide) (na := 3) rfl (by decide +kernel) rfl (stk := [(.ref a31), (.int (2 : Int32)), (.ref a)]) rfl (by decide +kernel) (V := 0) (lb rfl) (lb rfl) (lb rfl) (lb rfl) (lb rfl)
      refine oLift st32 ?_
      rw [e32] at W32 C32
      show OG _ _ _ _ _ _ _ _ _ _ _ (mkF m 160 #[.val (.int i0), .val (.int i1), .val (.int i2), .val (.int i3), .val (.int i4), .val (.int i5), .val (.ref x0), .val (.ref x1), .val (.ref x2), .val (.ref x3), .val (.int (3 : Int32)), .val (.ref a), .val (.int (2 : Int32)), .val (.ref x2), .unset] [(.ref x2)])
      refine oGo W32 [.astore 14, .aload 14] (by decide +kernel) (ls' := #[.val (.int i0), .val (.int i1), .val (.int i2), .val (.int i3), .val (.int i4), .val (.int i5), .val (.ref x0), .val (.ref x1), .val (.ref x2), .val (.ref x3), .val (.int (3 : Int32)), .val (.ref a), .val (.int (2 : Int32)), .val (.ref x2), .val (.ref x2)]) (st' := [(.ref x2)]) rfl rfl (pc' := 164) rfl ?_
      refine oNuF W32 (o := 29) (by decide +kernel) (pc' := 167) rfl ?_
      refine oGo W32 [.aload 14, .aload 13] (by decide +kernel) (ls' := #[.val (.int i0), .val (.int i1), .val (.int i2), .val (.int i3), .val (.int i4), .val (.int i5), .val (.ref x0), .val (.ref x1), .val (.ref x2), .val (.ref x3), .val (.int (3 : Int32)), .val (.ref a), .val (.int (2 : Int32)), .val (.ref x2), .val (.ref x2)]) (st' := [(.ref x2), (.ref x2)]) rfl rfl (pc' := 171) rfl ?_
      obtain ⟨v33, T33, L33, h33, vm33, W33, ⟨rfl, e33⟩, C33, st33⟩ := oCallV W32 (idx := 31) (pc := 171) (ls := #[.val (.int i0), .val (.int i1), .val (.int i2), .val (.int i3), .val (.int i4), .val (.int i5), .val (.ref x0), .val (.ref x1), .val (.ref x2), .val (.ref x3), .val (.int (3 : Int32)), .val (.ref a), .val (.int (2 : Int32)), .val (.ref x2), .val (.ref x2)]) (st := []) (argsL := [(.ref x2)]) ((((((X3.ext E4).ext (exK E5 K6 (fun y hy => by cases List.mem_singleton.mp hy; exact g5))).keep K7).keep K21).keep K22).ext E31) (c_eqs K) (fun x hx => nomatch hx) (hw _ (List.mem_of_getElem? (i := 131) rfl)) (hw _ (List.mem_of_getElem? (i := 132) rfl)) (notFace_of_selects (args := #[]) (mvT W32.warm (hw _ (List.mem_of_getElem? (i := 134) rfl)))) (hw _ (List.mem_of_getElem? (i := 134) rfl)) (hw _ (List.mem_of_getElem? (i := 133) rfl)) (hw _ (List.mem_of_getElem? (i := 7) rfl)) (hw _ (List.mem_of_getElem? (i := 135) rfl)) (by decide) (na := 1) rfl (by decide +kernel) rfl (stk := [(.ref x2), (.ref x2)]) rfl (by decide +kernel) (V := 0) (lb rfl) (lb rfl) (lb rfl) (lb rfl) (lb rfl)
      refine oLift st33 ?_
      rw [e33] at W33 C33
      show OG _ _ _ _ _ _ _ _ _ _ _ (mkF m 174 #[.val (.int i0), .val (.int i1), .val (.int i2), .val (.int i3), .val (.int i4), .val (.int i5), .val (.ref x0), .val (.ref x1), .val (.ref x2), .val (.ref x3), .val (.int (3 : Int32)), .val (.ref a), .val (.int (2 : Int32)), .val (.ref x2), .val (.ref x2)] [(.int (1 : Int32))])
      refine oIfF W33 (cd := .eq) (o := 19) (by decide +kernel) (XT.i0_eq_f (by decide)) (pc' := 177) rfl ?_
      refine oGo W33 [.aload 11] (by decide +kernel) (ls' := #[.val (.int i0), .val (.int i1), .val (.int i2), .val (.int i3), .val (.int i4), .val (.int i5), .val (.ref x0), .val (.ref x1), .val (.ref x2), .val (.ref x3), .val (.int (3 : Int32)), .val (.ref a), .val (.int (2 : Int32)), .val (.ref x2), .val (.ref x2)]) (st' := [(.ref a)]) rfl rfl (pc' := 179) rfl ?_
      obtain ⟨v34, T34, L34, h34, vm34, W34, ⟨rfl, e34⟩, C34, st34⟩ := oCallI W33 (idx := 36) (pc := 179) (ls := #[.val (.int i0), .val (.int i1), .val (.int i2), .val (.int i3), .val (.int i4), .val (.int i5), .val (.ref x0), .val (.ref x1), .val (.ref x2), .val (.ref x3), .val (.int (3 : Int32)), .val (.ref a), .val (.int (2 : Int32)), .val (.ref x2), .val (.ref x2)]) (st := []) (cnt := 1) (argsL := []) (A22.1.1.ext E31) (c_siz K (n := 3) (A22.ext E31).1) (fun x hx => nomatch hx) (hw _ (List.mem_of_getElem? (i := 136) rfl)) (hw _ (List.mem_of_getElem? (i := 102) rfl)) (hw _ (List.mem_of_getElem? (i := 103) rfl)) (by decide) (hw _ (List.mem_of_getElem? (i := 104) rfl)) (hw _ (List.mem_of_getElem? (i := 105) rfl)) (hw _ (List.mem_of_getElem? (i := 106) rfl)) (hw _ (List.mem_of_getElem? (i := 107) rfl)) (hw _ (List.mem_of_getElem? (i := 65) rfl)) (hw _ (List.mem_of_getElem? (i := 36) rfl)) (hw _ (List.mem_of_getElem? (i := 108) rfl)) (by decide) (na := 0) rfl (by decide +kernel) rfl (stk := [(.ref a)]) rfl (by decide +kernel) (V := 0) (lb rfl) (lb rfl) (lb rfl) (lb rfl) (lb rfl)
      refine oLift st34 ?_
      rw [e34] at W34 C34
      show OG _ _ _ _ _ _ _ _ _ _ _ (mkF m 184 #[.val (.int i0), .val (.int i1), .val (.int i2), .val (.int i3), .val (.int i4), .val (.int i5), .val (.ref x0), .val (.ref x1), .val (.ref x2), .val (.ref x3), .val (.int (3 : Int32)), .val (.ref a), .val (.int (2 : Int32)), .val (.ref x2), .val (.ref x2)] [(.int (Int32.ofNat 3))])
      refine oGo W34 [.iload 10] (by decide +kernel) (ls' := #[.val (.int i0), .val (.int i1), .val (.int i2), .val (.int i3), .val (.int i4), .val (.int i5), .val (.ref x0), .val (.ref x1), .val (.ref x2), .val (.ref x3), .val (.int (3 : Int32)), .val (.ref a), .val (.int (2 : Int32)), .val (.ref x2), .val (.ref x2)]) (st' := [(.int (3 : Int32)), (.int (Int32.ofNat 3))]) rfl rfl (pc' := 186) rfl ?_
      refine oIcF W34 (cd := .ne) (o := 7) (by decide +kernel) (XT.ii_ne_f rfl) (pc' := 189) rfl ?_
      refine oGo W34 [.iconst 1, .goto 4] (by decide +kernel) (ls' := #[.val (.int i0), .val (.int i1), .val (.int i2), .val (.int i3), .val (.int i4), .val (.int i5), .val (.ref x0), .val (.ref x1), .val (.ref x2), .val (.ref x3), .val (.int (3 : Int32)), .val (.ref a), .val (.int (2 : Int32)), .val (.ref x2), .val (.ref x2)]) (st' := [(.int (1 : Int32))]) rfl rfl (pc' := 194) rfl ?_
      exact oRetN (by simp) W34 rfl (by decide +kernel) (lb rfl) (lb rfl) (fun vm' hv => rfl)
  · rw [hL]
    refine oIcF W7 (cd := .le) (o := 13) (by decide +kernel) (XT.ii_le_f (by decide)) (pc' := 57) rfl ?_
    refine oGo W7 [.aload 11, .aload 7] (by decide +kernel) (ls' := #[.val (.int i0), .val (.int i1), .val (.int i2), .val (.int i3), .val (.int i4), .val (.int i5), .val (.ref x0), .val (.ref x1), .val (.ref x2), .val (.ref x3), .val (.int (4 : Int32)), .val (.ref a), .unset, .unset, .unset]) (st' := [(.ref x1), (.ref a)]) rfl rfl (pc' := 61) rfl ?_
    obtain ⟨v35, T35, L35, h35, vm35, W35, ⟨rfl, K35, A35⟩, C35, st35⟩ := oCallI W7 (idx := 16) (pc := 61) (ls := #[.val (.int i0), .val (.int i1), .val (.int i2), .val (.int i3), .val (.int i4), .val (.int i5), .val (.ref x0), .val (.ref x1), .val (.ref x2), .val (.ref x3), .val (.int (4 : Int32)), .val (.ref a), .unset, .unset, .unset]) (st := []) (cnt := 2) (argsL := [(.ref x1)]) A7.1.1 (c_adn K (Nat.le_trans W4.ext.1 g5) (vs := ((List.replicate 10 Value.null).set 0 (.ref x0))) (n := 1) A7 (by simp) (by decide) ((((X2.ext E3).ext E4).ext (exK E5 K6 (fun y hy => by cases List.mem_singleton.mp hy; exact g5))).keep K7)) (fun x hx => nomatch hx) (hw _ (List.mem_of_getElem? (i := 58) rfl)) (hw _ (List.mem_of_getElem? (i := 59) rfl)) (hw _ (List.mem_of_getElem? (i := 60) rfl)) (by decide) (hw _ (List.mem_of_getElem? (i := 61) rfl)) (hw _ (List.mem_of_getElem? (i := 62) rfl)) (hw _ (List.mem_of_getElem? (i := 63) rfl)) (hw _ (List.mem_of_getElem? (i := 64) rfl)) (hw _ (List.mem_of_getElem? (i := 65) rfl)) (hw _ (List.mem_of_getElem? (i := 36) rfl)) (hw _ (List.mem_of_getElem? (i := 66) rfl)) (by decide) (na := 1) rfl (by decide +kernel) rfl (stk := [(.ref x1), (.ref a)]) rfl (by decide +kernel) (V := 0) (lb rfl) (lb rfl) (lb rfl) (lb rfl) (lb rfl)
    refine oLift st35 ?_
    show OG _ _ _ _ _ _ _ _ _ _ _ (mkF m 66 #[.val (.int i0), .val (.int i1), .val (.int i2), .val (.int i3), .val (.int i4), .val (.int i5), .val (.ref x0), .val (.ref x1), .val (.ref x2), .val (.ref x3), .val (.int (4 : Int32)), .val (.ref a), .unset, .unset, .unset] [(.int (1 : Int32))])
    refine oGo W35 [.pop, .iload 10, .iconst 2] (by decide +kernel) (ls' := #[.val (.int i0), .val (.int i1), .val (.int i2), .val (.int i3), .val (.int i4), .val (.int i5), .val (.ref x0), .val (.ref x1), .val (.ref x2), .val (.ref x3), .val (.int (4 : Int32)), .val (.ref a), .unset, .unset, .unset]) (st' := [(.int (2 : Int32)), (.int (4 : Int32))]) rfl rfl (pc' := 70) rfl ?_
    refine oIcF W35 (cd := .le) (o := 13) (by decide +kernel) (XT.ii_le_f (by decide)) (pc' := 73) rfl ?_
    refine oGo W35 [.aload 11, .aload 8] (by decide +kernel) (ls' := #[.val (.int i0), .val (.int i1), .val (.int i2), .val (.int i3), .val (.int i4), .val (.int i5), .val (.ref x0), .val (.ref x1), .val (.ref x2), .val (.ref x3), .val (.int (4 : Int32)), .val (.ref a), .unset, .unset, .unset]) (st' := [(.ref x2), (.ref a)]) rfl rfl (pc' := 77) rfl ?_
    obtain ⟨v36, T36, L36, h36, vm36, W36, ⟨rfl, K36, A36⟩, C36, st36⟩ := oCallI W35 (idx := 16) (pc := 77) (ls := #[.val (.int i0), .val (.int i1), .val (.int i2), .val (.int i3), .val (.int i4), .val (.int i5), .val (.ref x0), .val (.ref x1), .val (.ref x2), .val (.ref x3), .val (.int (4 : Int32)), .val (.ref a), .unset, .unset, .unset]) (st := []) (cnt := 2) (argsL := [(.ref x2)]) A35.1.1 (c_adn K (Nat.le_trans W4.ext.1 g5) (vs := (((List.replicate 10 Value.null).set 0 (.ref x0)).set 1 (.ref x1))) (n := 2) A35 (by simp) (by decide) ((((X3.ext E4).ext (exK E5 K6 (fun y hy => by cases List.mem_singleton.mp hy; exact g5))).keep K7).keep K35)) (fun x hx => nomatch hx) (hw _ (List.mem_of_getElem? (i := 58) rfl)) (hw _ (List.mem_of_getElem? (i := 59) rfl)) (hw _ (List.mem_of_getElem? (i := 60) rfl)) (by decide) (hw _ (List.mem_of_getElem? (i := 61) rfl)) (hw _ (List.mem_of_getElem? (i := 62) rfl)) (hw _ (List.mem_of_getElem? (i := 63) rfl)) (hw _ (List.mem_of_getElem? (i := 64) rfl)) (hw _ (List.mem_of_getElem? (i := 65) rfl)) (hw _ (List.mem_of_getElem? (i := 36) rfl)) (hw _ (List.mem_of_getElem? (i := 66) rfl)) (by decide) (na := 1) rfl (by decide +kernel) rfl (stk := [(.ref x2), (.ref a)]) rfl (by decide +kernel) (V := 0) (lb rfl) (lb rfl) (lb rfl) (lb rfl) (lb rfl)
    refine oLift st36 ?_
    show OG _ _ _ _ _ _ _ _ _ _ _ (mkF m 82 #[.val (.int i0), .val (.int i1), .val (.int i2), .val (.int i3), .val (.int i4), .val (.int i5), .val (.ref x0), .val (.ref x1), .val (.ref x2), .val (.ref x3), .val (.int (4 : Int32)), .val (.ref a), .unset, .unset, .unset] [(.int (1 : Int32))])
    refine oGo W36 [.pop, .iload 10, .iconst 3] (by decide +kernel) (ls' := #[.val (.int i0), .val (.int i1), .val (.int i2), .val (.int i3), .val (.int i4), .val (.int i5), .val (.ref x0), .val (.ref x1), .val (.ref x2), .val (.ref x3), .val (.int (4 : Int32)), .val (.ref a), .unset, .unset, .unset]) (st' := [(.int (3 : Int32)), (.int (4 : Int32))]) rfl rfl (pc' := 86) rfl ?_
    refine oIcF W36 (cd := .le) (o := 13) (by decide +kernel) (XT.ii_le_f (by decide)) (pc' := 89) rfl ?_
    refine oGo W36 [.aload 11, .aload 9] (by decide +kernel) (ls' := #[.val (.int i0), .val (.int i1), .val (.int i2), .val (.int i3), .val (.int i4), .val (.int i5), .val (.ref x0), .val (.ref x1), .val (.ref x2), .val (.ref x3), .val (.int (4 : Int32)), .val (.ref a), .unset, .unset, .unset]) (st' := [(.ref x3), (.ref a)]) rfl rfl (pc' := 93) rfl ?_
    obtain ⟨v37, T37, L37, h37, vm37, W37, ⟨rfl, K37, A37⟩, C37, st37⟩ := oCallI W36 (idx := 16) (pc := 93) (ls := #[.val (.int i0), .val (.int i1), .val (.int i2), .val (.int i3), .val (.int i4), .val (.int i5), .val (.ref x0), .val (.ref x1), .val (.ref x2), .val (.ref x3), .val (.int (4 : Int32)), .val (.ref a), .unset, .unset, .unset]) (st := []) (cnt := 2) (argsL := [(.ref x3)]) A36.1.1 (c_adn K (Nat.le_trans W4.ext.1 g5) (vs := ((((List.replicate 10 Value.null).set 0 (.ref x0)).set 1 (.ref x1)).set 2 (.ref x2))) (n := 3) A36 (by simp) (by decide) ((((X4.ext (exK E5 K6 (fun y hy => by cases List.mem_singleton.mp hy; exact g5))).keep K7).keep K35).keep K36)) (fun x hx => nomatch hx) (hw _ (List.mem_of_getElem? (i := 58) rfl)) (hw _ (List.mem_of_getElem? (i := 59) rfl)) (hw _ (List.mem_of_getElem? (i := 60) rfl)) (by decide) (hw _ (List.mem_of_getElem? (i := 61) rfl)) (hw _ (List.mem_of_getElem? (i := 62) rfl)) (hw _ (List.mem_of_getElem? (i := 63) rfl)) (hw _ (List.mem_of_getElem? (i := 64) rfl)) (hw _ (List.mem_of_getElem? (i := 65) rfl)) (hw _ (List.mem_of_getElem? (i := 36) rfl)) (hw _ (List.mem_of_getElem? (i := 66) rfl)) (by decide) (na := 1) rfl (by decide +kernel) rfl (stk := [(.ref x3), (.ref a)]) rfl (by decide +kernel) (V := 0) (lb rfl) (lb rfl) (lb rfl) (lb rfl) (lb rfl)
    refine oLift st37 ?_
    show OG _ _ _ _ _ _ _ _ _ _ _ (mkF m 98 #[.val (.int i0), .val (.int i1), .val (.int i2), .val (.int i3), .val (.int i4), .val (.int i5), .val (.ref x0), .val (.ref x1), .val (.ref x2), .val (.ref x3), .val (.int (4 : Int32)), .val (.ref a), .unset, .unset, .unset] [(.int (1 : Int32))])
    refine oGo W37 [.pop, .iload 5] (by decide +kernel) (ls' := #[.val (.int i0), .val (.int i1), .val (.int i2), .val (.int i3), .val (.int i4), .val (.int i5), .val (.ref x0), .val (.ref x1), .val (.ref x2), .val (.ref x3), .val (.int (4 : Int32)), .val (.ref a), .unset, .unset, .unset]) (st' := [(.int i5)]) rfl rfl (pc' := 101) rfl ?_
    refine oLdcI W37 (hw _ (List.mem_of_getElem? (i := 93) rfl)) (by decide +kernel) ?_
    refine oGo W37 [.iand, .iload 10, .irem, .istore 12, .iload 12] (by decide +kernel) (ls' := #[.val (.int i0), .val (.int i1), .val (.int i2), .val (.int i3), .val (.int i4), .val (.int i5), .val (.ref x0), .val (.ref x1), .val (.ref x2), .val (.ref x3), .val (.int (4 : Int32)), .val (.ref a), .val (.int ((i5 &&& (2147483647 : Int32)) % (4 : Int32))), .unset, .unset]) (st' := [(.int ((i5 &&& (2147483647 : Int32)) % (4 : Int32)))]) rfl rfl (pc' := 111) rfl ?_
    rcases own_rem4 i5 with hR | hR | hR | hR
    · rw [hR]
      refine oIfF W37 (cd := .ne) (o := 10) (by decide +kernel) (XT.i0_ne_f (by decide)) (pc' := 114) rfl ?_
      refine oGo W37 [.aload 6, .astore 13, .goto 33, .aload 11, .iload 12] (by decide +kernel) (ls' := #[.val (.int i0), .val (.int i1), .val (.int i2), .val (.int i3), .val (.int i4), .val (.int i5), .val (.ref x0), .val (.ref x1), .val (.ref x2), .val (.ref x3), .val (.int (4 : Int32)), .val (.ref a), .val (.int (0 : Int32)), .val (.ref x0), .unset]) (st' := [(.int (0 : Int32)), (.ref a)]) rfl rfl (pc' := 155) rfl ?_
      obtain ⟨a38, T38, h38, vm38, W38, E38, C38, st38⟩ := oLdc W37 (pc := 155) (ls := #[.val (.int i0), .val (.int i1), .val (.int i2), .val (.int i3), .val (.int i4), .val (.int i5), .val (.ref x0), .val (.ref x1), .val (.ref x2), .val (.ref x3), .val (.int (4 : Int32)), .val (.ref a), .val (.int (0 : Int32)), .val (.ref x0), .unset]) (st := [(.int (0 : Int32)), (.ref a)]) (hw _ (List.mem_of_getElem? (i := 94) rfl)) hS (by decide +kernel) (n := 20) (lb rfl) (lb rfl) (lb rfl) (lb rfl)
      refine oLift st38 ?_
      obtain ⟨v39, T39, L39, h39, vm39, W39, ⟨rfl, e39⟩, C39, st39⟩ := oCallS W38 (idx := 25) (pc := 157) (ls := #[.val (.int i0), .val (.int i1), .val (.int i2), .val (.int i3), .val (.int i4), .val (.int i5), .val (.ref x0), .val (.ref x1), .val (.ref x2), .val (.ref x3), .val (.int (4 : Int32)), .val (.ref a), .val (.int (0 : Int32)), .val (.ref x0), .unset]) (st := []) (argsL := [(.ref a), (.int (0 : Int32)), (.ref a38)]) (c_val K (vs := (((((List.replicate 10 Value.null).set 0 (.ref x0)).set 1 (.ref x1)).set 2 (.ref x2)).set 3 (.ref x3))) (n := 4) (i := 0) (x := x0) (A37.ext E38) (by decide) (by decide) rfl (((((((((X1.ext E2).ext E3).ext E4).ext (exK E5 K6 (fun y hy => by cases List.mem_singleton.mp hy; exact g5))).keep K7).keep K35).keep K36).keep K37).ext E38)) (fun x hx => nomatch hx) (hw _ (List.mem_of_getElem? (i := 97) rfl)) (hw _ (List.mem_of_getElem? (i := 98) rfl)) (hw _ (List.mem_of_getElem? (i := 99) rfl)) (hw _ (List.mem_of_getElem? (i := 100) rfl)) (by decide) (na := 3) rfl (by decide +kernel) rfl (stk := [(.ref a38), (.int (0 : Int32)), (.ref a)]) rfl (by decide +kernel) (V := 0) (lb rfl) (lb rfl) (lb rfl) (lb rfl) (lb rfl)
      refine oLift st39 ?_
      rw [e39] at W39 C39
      show OG _ _ _ _ _ _ _ _ _ _ _ (mkF m 160 #[.val (.int i0), .val (.int i1), .val (.int i2), .val (.int i3), .val (.int i4), .val (.int i5), .val (.ref x0), .val (.ref x1), .val (.ref x2), .val (.ref x3), .val (.int (4 : Int32)), .val (.ref a), .val (.int (0 : Int32)), .val (.ref x0), .unset] [(.ref x0)])
      refine oGo W39 [.astore 14, .aload 14] (by decide +kernel) (ls' := #[.val (.int i0), .val (.int i1), .val (.int i2), .val (.int i3), .val (.int i4), .val (.int i5), .val (.ref x0), .val (.ref x1), .val (.ref x2), .val (.ref x3), .val (.int (4 : Int32)), .val (.ref a), .val (.int (0 : Int32)), .val (.ref x0), .val (.ref x0)]) (st' := [(.ref x0)]) rfl rfl (pc' := 164) rfl ?_
      refine oNuF W39 (o := 29) (by decide +kernel) (pc' := 167) rfl ?_
      refine oGo W39 [.aload 14, .aload 13] (by decide +kernel) (ls' := #[.val (.int i0), .val (.int i1), .val (.int i2), .val (.int i3), .val (.int i4), .val (.int i5), .val (.ref x0), .val (.ref x1), .val (.ref x2), .val (.ref x3), .val (.int (4 : Int32)), .val (.ref a), .val (.int (0 : Int32)), .val (.ref x0), .val (.ref x0)]) (st' := [(.ref x0), (.ref x0)]) rfl rfl (pc' := 171) rfl ?_
      obtain ⟨v40, T40, L40, h40, vm40, W40, ⟨rfl, e40⟩, C40, st40⟩ := oCallV W39 (idx := 31) (pc := 171) (ls := #[.val (.int i0), .val (.int i1), .val (.int i2), .val (.int i3), .val (.int i4), .val (.int i5), .val (.ref x0), .val (.ref x1), .val (.ref x2), .val (.ref x3), .val (.int (4 : Int32)), .val (.ref a), .val (.int (0 : Int32)), .val (.ref x0), .val (.ref x0)]) (st := []) (argsL := [(.ref x0)]) (((((((((X1.ext E2).ext E3).ext E4).ext (exK E5 K6 (fun y hy => by cases List.mem_singleton.mp hy; exact g5))).keep K7).keep K35).keep K36).keep K37).ext E38) (c_eqs K) (fun x hx => nomatch hx) (hw _ (List.mem_of_getElem? (i := 131) rfl)) (hw _ (List.mem_of_getElem? (i := 132) rfl)) (notFace_of_selects (args := #[]) (mvT W39.warm (hw _ (List.mem_of_getElem? (i := 134) rfl)))) (hw _ (List.mem_of_getElem? (i := 134) rfl)) (hw _ (List.mem_of_getElem? (i := 133) rfl)) (hw _ (List.mem_of_getElem? (i := 7) rfl)) (hw _ (List.mem_of_getElem? (i := 135) rfl)) (by decide) (na := 1) rfl (by decide +kernel) rfl (stk := [(.ref x0), (.ref x0)]) rfl (by decide +kernel) (V := 0) (lb rfl) (lb rfl) (lb rfl) (lb rfl) (lb rfl)
      refine oLift st40 ?_
      rw [e40] at W40 C40
      show OG _ _ _ _ _ _ _ _ _ _ _ (mkF m 174 #[.val (.int i0), .val (.int i1), .val (.int i2), .val (.int i3), .val (.int i4), .val (.int i5), .val (.ref x0), .val (.ref x1), .val (.ref x2), .val (.ref x3), .val (.int (4 : Int32)), .val (.ref a), .val (.int (0 : Int32)), .val (.ref x0), .val (.ref x0)] [(.int (1 : Int32))])
      refine oIfF W40 (cd := .eq) (o := 19) (by decide +kernel) (XT.i0_eq_f (by decide)) (pc' := 177) rfl ?_
      refine oGo W40 [.aload 11] (by decide +kernel) (ls' := #[.val (.int i0), .val (.int i1), .val (.int i2), .val (.int i3), .val (.int i4), .val (.int i5), .val (.ref x0), .val (.ref x1), .val (.ref x2), .val (.ref x3), .val (.int (4 : Int32)), .val (.ref a), .val (.int (0 : Int32)), .val (.ref x0), .val (.ref x0)]) (st' := [(.ref a)]) rfl rfl (pc' := 179) rfl ?_
      obtain ⟨v41, T41, L41, h41, vm41, W41, ⟨rfl, e41⟩, C41, st41⟩ := oCallI W40 (idx := 36) (pc := 179) (ls := #[.val (.int i0), .val (.int i1), .val (.int i2), .val (.int i3), .val (.int i4), .val (.int i5), .val (.ref x0), .val (.ref x1), .val (.ref x2), .val (.ref x3), .val (.int (4 : Int32)), .val (.ref a), .val (.int (0 : Int32)), .val (.ref x0), .val (.ref x0)]) (st := []) (cnt := 1) (argsL := []) (A37.1.1.ext E38) (c_siz K (n := 4) (A37.ext E38).1) (fun x hx => nomatch hx) (hw _ (List.mem_of_getElem? (i := 136) rfl)) (hw _ (List.mem_of_getElem? (i := 102) rfl)) (hw _ (List.mem_of_getElem? (i := 103) rfl)) (by decide) (hw _ (List.mem_of_getElem? (i := 104) rfl)) (hw _ (List.mem_of_getElem? (i := 105) rfl)) (hw _ (List.mem_of_getElem? (i := 106) rfl)) (hw _ (List.mem_of_getElem? (i := 107) rfl)) (hw _ (List.mem_of_getElem? (i := 65) rfl)) (hw _ (List.mem_of_getElem? (i := 36) rfl)) (hw _ (List.mem_of_getElem? (i := 108) rfl)) (by decide) (na := 0) rfl (by decide +kernel) rfl (stk := [(.ref a)]) rfl (by decide +kernel) (V := 0) (lb rfl) (lb rfl) (lb rfl) (lb rfl) (lb rfl)
      refine oLift st41 ?_
      rw [e41] at W41 C41
      show OG _ _ _ _ _ _ _ _ _ _ _ (mkF m 184 #[.val (.int i0), .val (.int i1), .val (.int i2), .val (.int i3), .val (.int i4), .val (.int i5), .val (.ref x0), .val (.ref x1), .val (.ref x2), .val (.ref x3), .val (.int (4 : Int32)), .val (.ref a), .val (.int (0 : Int32)), .val (.ref x0), .val (.ref x0)] [(.int (Int32.ofNat 4))])
      refine oGo W41 [.iload 10] (by decide +kernel) (ls' := #[.val (.int i0), .val (.int i1), .val (.int i2), .val (.int i3), .val (.int i4), .val (.int i5), .val (.ref x0), .val (.ref x1), .val (.ref x2), .val (.ref x3), .val (.int (4 : Int32)), .val (.ref a), .val (.int (0 : Int32)), .val (.ref x0), .val (.ref x0)]) (st' := [(.int (4 : Int32)), (.int (Int32.ofNat 4))]) rfl rfl (pc' := 186) rfl ?_
      refine oIcF W41 (cd := .ne) (o := 7) (by decide +kernel) (XT.ii_ne_f rfl) (pc' := 189) rfl ?_
      refine oGo W41 [.iconst 1, .goto 4] (by decide +kernel) (ls' := #[.val (.int i0), .val (.int i1), .val (.int i2), .val (.int i3), .val (.int i4), .val (.int i5), .val (.ref x0), .val (.ref x1), .val (.ref x2), .val (.ref x3), .val (.int (4 : Int32)), .val (.ref a), .val (.int (0 : Int32)), .val (.ref x0), .val (.ref x0)]) (st' := [(.int (1 : Int32))]) rfl rfl (pc' := 194) rfl ?_
      exact oRetN (by simp) W41 rfl (by decide +kernel) (lb rfl) (lb rfl) (fun vm' hv => rfl)
    · rw [hR]
      refine oIfT W37 (cd := .ne) (o := 10) (by decide +kernel) (XT.i0_ne_t (by decide)) (pc' := 121) (by decide) (by decide) ?_
      refine oGo W37 [.iload 12, .iconst 1] (by decide +kernel) (ls' := #[.val (.int i0), .val (.int i1), .val (.int i2), .val (.int i3), .val (.int i4), .val (.int i5), .val (.ref x0), .val (.ref x1), .val (.ref x2), .val (.ref x3), .val (.int (4 : Int32)), .val (.ref a), .val (.int (1 : Int32)), .unset, .unset]) (st' := [(.int (1 : Int32)), (.int (1 : Int32))]) rfl rfl (pc' := 124) rfl ?_
      refine oIcF W37 (cd := .ne) (o := 10) (by decide +kernel) (XT.ii_ne_f (by decide)) (pc' := 127) rfl ?_
      refine oGo W37 [.aload 7, .astore 13, .goto 20, .aload 11, .iload 12] (by decide +kernel) (ls' := #[.val (.int i0), .val (.int i1), .val (.int i2), .val (.int i3), .val (.int i4), .val (.int i5), .val (.ref x0), .val (.ref x1), .val (.ref x2), .val (.ref x3), .val (.int (4 : Int32)), .val (.ref a), .val (.int (1 : Int32)), .val (.ref x1), .unset]) (st' := [(.int (1 : Int32)), (.ref a)]) rfl rfl (pc' := 155) rfl ?_
      obtain ⟨a42, T42, h42, vm42, W42, E42, C42, st42⟩ := oLdc W37 (pc := 155) (ls := #[.val (.int i0), .val (.int i1), .val (.int i2), .val (.int i3), .val (.int i4), .val (.int i5), .val (.ref x0), .val (.ref x1), .val (.ref x2), .val (.ref x3), .val (.int (4 : Int32)), .val (.ref a), .val (.int (1 : Int32)), .val (.ref x1), .unset]) (st := [(.int (1 : Int32)), (.ref a)]) (hw _ (List.mem_of_getElem? (i := 94) rfl)) hS (by decide +kernel) (n := 20) (lb rfl) (lb rfl) (lb rfl) (lb rfl)
      refine oLift st42 ?_
      obtain ⟨v43, T43, L43, h43, vm43, W43, ⟨rfl, e43⟩, C43, st43⟩ := oCallS W42 (idx := 25) (pc := 157) (ls := #[.val (.int i0), .val (.int i1), .val (.int i2), .val (.int i3), .val (.int i4), .val (.int i5), .val (.ref x0), .val (.ref x1), .val (.ref x2), .val (.ref x3), .val (.int (4 : Int32)), .val (.ref a), .val (.int (1 : Int32)), .val (.ref x1), .unset]) (st := []) (argsL := [(.ref a), (.int (1 : Int32)), (.ref a42)]) (c_val K (vs := (((((List.replicate 10 Value.null).set 0 (.ref x0)).set 1 (.ref x1)).set 2 (.ref x2)).set 3 (.ref x3))) (n := 4) (i := 1) (x := x1) (A37.ext E42) (by decide) (by decide) rfl ((((((((X2.ext E3).ext E4).ext (exK E5 K6 (fun y hy => by cases List.mem_singleton.mp hy; exact g5))).keep K7).keep K35).keep K36).keep K37).ext E42)) (fun x hx => nomatch hx) (hw _ (List.mem_of_getElem? (i := 97) rfl)) (hw _ (List.mem_of_getElem? (i := 98) rfl)) (hw _ (List.mem_of_getElem? (i := 99) rfl)) (hw _ (List.mem_of_getElem? (i := 100) rfl)) (by decide) (na := 3) rfl (by decide +kernel) rfl (stk := [(.ref a42), (.int (1 : Int32)), (.ref a)]) rfl (by decide +kernel) (V := 0) (lb rfl) (lb rfl) (lb rfl) (lb rfl) (lb rfl)
      refine oLift st43 ?_
      rw [e43] at W43 C43
      show OG _ _ _ _ _ _ _ _ _ _ _ (mkF m 160 #[.val (.int i0), .val (.int i1), .val (.int i2), .val (.int i3), .val (.int i4), .val (.int i5), .val (.ref x0), .val (.ref x1), .val (.ref x2), .val (.ref x3), .val (.int (4 : Int32)), .val (.ref a), .val (.int (1 : Int32)), .val (.ref x1), .unset] [(.ref x1)])
      refine oGo W43 [.astore 14, .aload 14] (by decide +kernel) (ls' := #[.val (.int i0), .val (.int i1), .val (.int i2), .val (.int i3), .val (.int i4), .val (.int i5), .val (.ref x0), .val (.ref x1), .val (.ref x2), .val (.ref x3), .val (.int (4 : Int32)), .val (.ref a), .val (.int (1 : Int32)), .val (.ref x1), .val (.ref x1)]) (st' := [(.ref x1)]) rfl rfl (pc' := 164) rfl ?_
      refine oNuF W43 (o := 29) (by decide +kernel) (pc' := 167) rfl ?_
      refine oGo W43 [.aload 14, .aload 13] (by decide +kernel) (ls' := #[.val (.int i0), .val (.int i1), .val (.int i2), .val (.int i3), .val (.int i4), .val (.int i5), .val (.ref x0), .val (.ref x1), .val (.ref x2), .val (.ref x3), .val (.int (4 : Int32)), .val (.ref a), .val (.int (1 : Int32)), .val (.ref x1), .val (.ref x1)]) (st' := [(.ref x1), (.ref x1)]) rfl rfl (pc' := 171) rfl ?_
      obtain ⟨v44, T44, L44, h44, vm44, W44, ⟨rfl, e44⟩, C44, st44⟩ := oCallV W43 (idx := 31) (pc := 171) (ls := #[.val (.int i0), .val (.int i1), .val (.int i2), .val (.int i3), .val (.int i4), .val (.int i5), .val (.ref x0), .val (.ref x1), .val (.ref x2), .val (.ref x3), .val (.int (4 : Int32)), .val (.ref a), .val (.int (1 : Int32)), .val (.ref x1), .val (.ref x1)]) (st := []) (argsL := [(.ref x1)]) ((((((((X2.ext E3).ext E4).ext (exK E5 K6 (fun y hy => by cases List.mem_singleton.mp hy; exact g5))).keep K7).keep K35).keep K36).keep K37).ext E42) (c_eqs K) (fun x hx => nomatch hx) (hw _ (List.mem_of_getElem? (i := 131) rfl)) (hw _ (List.mem_of_getElem? (i := 132) rfl)) (notFace_of_selects (args := #[]) (mvT W43.warm (hw _ (List.mem_of_getElem? (i := 134) rfl)))) (hw _ (List.mem_of_getElem? (i := 134) rfl)) (hw _ (List.mem_of_getElem? (i := 133) rfl)) (hw _ (List.mem_of_getElem? (i := 7) rfl)) (hw _ (List.mem_of_getElem? (i := 135) rfl)) (by decide) (na := 1) rfl (by decide +kernel) rfl (stk := [(.ref x1), (.ref x1)]) rfl (by decide +kernel) (V := 0) (lb rfl) (lb rfl) (lb rfl) (lb rfl) (lb rfl)
      refine oLift st44 ?_
      rw [e44] at W44 C44
      show OG _ _ _ _ _ _ _ _ _ _ _ (mkF m 174 #[.val (.int i0), .val (.int i1), .val (.int i2), .val (.int i3), .val (.int i4), .val (.int i5), .val (.ref x0), .val (.ref x1), .val (.ref x2), .val (.ref x3), .val (.int (4 : Int32)), .val (.ref a), .val (.int (1 : Int32)), .val (.ref x1), .val (.ref x1)] [(.int (1 : Int32))])
      refine oIfF W44 (cd := .eq) (o := 19) (by decide +kernel) (XT.i0_eq_f (by decide)) (pc' := 177) rfl ?_
      refine oGo W44 [.aload 11] (by decide +kernel) (ls' := #[.val (.int i0), .val (.int i1), .val (.int i2), .val (.int i3), .val (.int i4), .val (.int i5), .val (.ref x0), .val (.ref x1), .val (.ref x2), .val (.ref x3), .val (.int (4 : Int32)), .val (.ref a), .val (.int (1 : Int32)), .val (.ref x1), .val (.ref x1)]) (st' := [(.ref a)]) rfl rfl (pc' := 179) rfl ?_
      obtain ⟨v45, T45, L45, h45, vm45, W45, ⟨rfl, e45⟩, C45, st45⟩ := oCallI W44 (idx := 36) (pc := 179) (ls := #[.val (.int i0), .val (.int i1), .val (.int i2), .val (.int i3), .val (.int i4), .val (.int i5), .val (.ref x0), .val (.ref x1), .val (.ref x2), .val (.ref x3), .val (.int (4 : Int32)), .val (.ref a), .val (.int (1 : Int32)), .val (.ref x1), .val (.ref x1)]) (st := []) (cnt := 1) (argsL := []) (A37.1.1.ext E42) (c_siz K (n := 4) (A37.ext E42).1) (fun x hx => nomatch hx) (hw _ (List.mem_of_getElem? (i := 136) rfl)) (hw _ (List.mem_of_getElem? (i := 102) rfl)) (hw _ (List.mem_of_getElem? (i := 103) rfl)) (by decide) (hw _ (List.mem_of_getElem? (i := 104) rfl)) (hw _ (List.mem_of_getElem? (i := 105) rfl)) (hw _ (List.mem_of_getElem? (i := 106) rfl)) (hw _ (List.mem_of_getElem? (i := 107) rfl)) (hw _ (List.mem_of_getElem? (i := 65) rfl)) (hw _ (List.mem_of_getElem? (i := 36) rfl)) (hw _ (List.mem_of_getElem? (i := 108) rfl)) (by decide) (na := 0) rfl (by decide +kernel) rfl (stk := [(.ref a)]) rfl (by decide +kernel) (V := 0) (lb rfl) (lb rfl) (lb rfl) (lb rfl) (lb rfl)
      refine oLift st45 ?_
      rw [e45] at W45 C45
      show OG _ _ _ _ _ _ _ _ _ _ _ (mkF m 184 #[.val (.int i0), .val (.int i1), .val (.int i2), .val (.int i3), .val (.int i4), .val (.int i5), .val (.ref x0), .val (.ref x1), .val (.ref x2), .val (.ref x3), .val (.int (4 : Int32)), .val (.ref a), .val (.int (1 : Int32)), .val (.ref x1), .val (.ref x1)] [(.int (Int32.ofNat 4))])
      refine oGo W45 [.iload 10] (by decide +kernel) (ls' := #[.val (.int i0), .val (.int i1), .val (.int i2), .val (.int i3), .val (.int i4), .val (.int i5), .val (.ref x0), .val (.ref x1), .val (.ref x2), .val (.ref x3), .val (.int (4 : Int32)), .val (.ref a), .val (.int (1 : Int32)), .val (.ref x1), .val (.ref x1)]) (st' := [(.int (4 : Int32)), (.int (Int32.ofNat 4))]) rfl rfl (pc' := 186) rfl ?_
      refine oIcF W45 (cd := .ne) (o := 7) (by decide +kernel) (XT.ii_ne_f rfl) (pc' := 189) rfl ?_
      refine oGo W45 [.iconst 1, .goto 4] (by decide +kernel) (ls' := #[.val (.int i0), .val (.int i1), .val (.int i2), .val (.int i3), .val (.int i4), .val (.int i5), .val (.ref x0), .val (.ref x1), .val (.ref x2), .val (.ref x3), .val (.int (4 : Int32)), .val (.ref a), .val (.int (1 : Int32)), .val (.ref x1), .val (.ref x1)]) (st' := [(.int (1 : Int32))]) rfl rfl (pc' := 194) rfl ?_
      exact oRetN (by simp) W45 rfl (by decide +kernel) (lb rfl) (lb rfl) (fun vm' hv => rfl)
    · rw [hR]
      refine oIfT W37 (cd := .ne) (o := 10) (by decide +kernel) (XT.i0_ne_t (by decide)) (pc' := 121) (by decide) (by decide) ?_
      refine oGo W37 [.iload 12, .iconst 1] (by decide +kernel) (ls' := #[.val (.int i0), .val (.int i1), .val (.int i2), .val (.int i3), .val (.int i4), .val (.int i5), .val (.ref x0), .val (.ref x1), .val (.ref x2), .val (.ref x3), .val (.int (4 : Int32)), .val (.ref a), .val (.int (2 : Int32)), .unset, .unset]) (st' := [(.int (1 : Int32)), (.int (2 : Int32))]) rfl rfl (pc' := 124) rfl ?_
      refine oIcT W37 (cd := .ne) (o := 10) (by decide +kernel) (XT.ii_ne_t (by decide)) (pc' := 134) (by decide) (by decide) ?_
      refine oGo W37 [.iload 12, .iconst 2] (by decide +kernel) (ls' := #[.val (.int i0), .val (.int i1), .val (.int i2), .val (.int i3), .val (.int i4), .val (.int i5), .val (.ref x0), .val (.ref x1), .val (.ref x2), .val (.ref x3), .val (.int (4 : Int32)), .val (.ref a), .val (.int (2 : Int32)), .unset, .unset]) (st' := [(.int (2 : Int32)), (.int (2 : Int32))]) rfl rfl (pc' := 137) rfl ?_
      refine oIcF W37 (cd := .ne) (o := 10) (by decide +kernel) (XT.ii_ne_f (by decide)) (pc' := 140) rfl ?_
      refine oGo W37 [.aload 8, .astore 13, .goto 7, .aload 11, .iload 12] (by decide +kernel) (ls' := #[.val (.int i0), .val (.int i1), .val (.int i2), .val (.int i3), .val (.int i4), .val (.int i5), .val (.ref x0), .val (.ref x1), .val (.ref x2), .val (.ref x3), .val (.int (4 : Int32)), .val (.ref a), .val (.int (2 : Int32)), .val (.ref x2), .unset]) (st' := [(.int (2 : Int32)), (.ref a)]) rfl rfl (pc' := 155) rfl ?_
      obtain ⟨a46, T46, h46, vm46, W46, E46, C46, st46⟩ := oLdc W37 (pc := 155) (ls := #[.val (.int i0), .val (.int i1), .val (.int i2), .val (.int i3), .val (.int i4), .val (.int i5), .val (.ref x0), .val (.ref x1), .val (.ref x2), .val (.ref x3), .val (.int (4 : Int32)), .val (.ref a), .val (.int (2 : Int32)), .val (.ref x2), .unset]) (st := [(.int (2 : Int32)), (.ref a)]) (hw _ (List.mem_of_getElem? (i := 94) rfl)) hS (by decide +kernel) (n := 20) (lb rfl) (lb rfl) (lb rfl) (lb rfl)
      refine oLift st46 ?_
      obtain ⟨v47, T47, L47, h47, vm47, W47, ⟨rfl, e47⟩, C47, st47⟩ := oCallS W46 (idx := 25) (pc := 157) (ls := #[.val (.int i0), .val (.int i1), .val (.int i2), .val (.int i3), .val (.int i4), .val (.int i5), .val (.ref x0), .val (.ref x1), .val (.ref x2), .val (.ref x3), .val (.int (4 : Int32)), .val (.ref a), .val (.int (2 : Int32)), .val (.ref x2), .unset]) (st := []) (argsL := [(.ref a), (.int (2 : Int32)), (.ref a46)]) (c_val K (vs := (((((List.replicate 10 Value.null).set 0 (.ref x0)).set 1 (.ref x1)).set 2 (.ref x2)).set 3 (.ref x3))) (n := 4) (i := 2) (x := x2) (A37.ext E46) (by decide) (by decide) rfl (((((((X3.ext E4).ext (exK E5 K6 (fun y hy => by cases List.mem_singleton.mp hy; exact g5))).keep K7).keep K35).keep K36).keep K37).ext E46)) (fun x hx => nomatch hx) (hw _ (List.mem_of_getElem? (i := 97) rfl)) (hw _ (List.mem_of_getElem? (i := 98) rfl)) (hw _ (List.mem_of_getElem? (i := 99) rfl)) (hw _ (List.mem_of_getElem? (i := 100) rfl)) (by decide) (na := 3) rfl (by decide +kernel) rfl (stk := [(.ref a46), (.int (2 : Int32)), (.ref a)]) rfl (by decide +kernel) (V := 0) (lb rfl) (lb rfl) (lb rfl) (lb rfl) (lb rfl)
      refine oLift st47 ?_
      rw [e47] at W47 C47
      show OG _ _ _ _ _ _ _ _ _ _ _ (mkF m 160 #[.val (.int i0), .val (.int i1), .val (.int i2), .val (.int i3), .val (.int i4), .val (.int i5), .val (.ref x0), .val (.ref x1), .val (.ref x2), .val (.ref x3), .val (.int (4 : Int32)), .val (.ref a), .val (.int (2 : Int32)), .val (.ref x2), .unset] [(.ref x2)])
      refine oGo W47 [.astore 14, .aload 14] (by decide +kernel) (ls' := #[.val (.int i0), .val (.int i1), .val (.int i2), .val (.int i3), .val (.int i4), .val (.int i5), .val (.ref x0), .val (.ref x1), .val (.ref x2), .val (.ref x3), .val (.int (4 : Int32)), .val (.ref a), .val (.int (2 : Int32)), .val (.ref x2), .val (.ref x2)]) (st' := [(.ref x2)]) rfl rfl (pc' := 164) rfl ?_
      refine oNuF W47 (o := 29) (by decide +kernel) (pc' := 167) rfl ?_
      refine oGo W47 [.aload 14, .aload 13] (by decide +kernel) (ls' := #[.val (.int i0), .val (.int i1), .val (.int i2), .val (.int i3), .val (.int i4), .val (.int i5), .val (.ref x0), .val (.ref x1), .val (.ref x2), .val (.ref x3), .val (.int (4 : Int32)), .val (.ref a), .val (.int (2 : Int32)), .val (.ref x2), .val (.ref x2)]) (st' := [(.ref x2), (.ref x2)]) rfl rfl (pc' := 171) rfl ?_
      obtain ⟨v48, T48, L48, h48, vm48, W48, ⟨rfl, e48⟩, C48, st48⟩ := oCallV W47 (idx := 31) (pc := 171) (ls := #[.val (.int i0), .val (.int i1), .val (.int i2), .val (.int i3), .val (.int i4), .val (.int i5), .val (.ref x0), .val (.ref x1), .val (.ref x2), .val (.ref x3), .val (.int (4 : Int32)), .val (.ref a), .val (.int (2 : Int32)), .val (.ref x2), .val (.ref x2)]) (st := []) (argsL := [(.ref x2)]) (((((((X3.ext E4).ext (exK E5 K6 (fun y hy => by cases List.mem_singleton.mp hy; exact g5))).keep K7).keep K35).keep K36).keep K37).ext E46) (c_eqs K) (fun x hx => nomatch hx) (hw _ (List.mem_of_getElem? (i := 131) rfl)) (hw _ (List.mem_of_getElem? (i := 132) rfl)) (notFace_of_selects (args := #[]) (mvT W47.warm (hw _ (List.mem_of_getElem? (i := 134) rfl)))) (hw _ (List.mem_of_getElem? (i := 134) rfl)) (hw _ (List.mem_of_getElem? (i := 133) rfl)) (hw _ (List.mem_of_getElem? (i := 7) rfl)) (hw _ (List.mem_of_getElem? (i := 135) rfl)) (by decide) (na := 1) rfl (by decide +kernel) rfl (stk := [(.ref x2), (.ref x2)]) rfl (by decide +kernel) (V := 0) (lb rfl) (lb rfl) (lb rfl) (lb rfl) (lb rfl)
      refine oLift st48 ?_
      rw [e48] at W48 C48
      show OG _ _ _ _ _ _ _ _ _ _ _ (mkF m 174 #[.val (.int i0), .val (.int i1), .val (.int i2), .val (.int i3), .val (.int i4), .val (.int i5), .val (.ref x0), .val (.ref x1), .val (.ref x2), .val (.ref x3), .val (.int (4 : Int32)), .val (.ref a), .val (.int (2 : Int32)), .val (.ref x2), .val (.ref x2)] [(.int (1 : Int32))])
      refine oIfF W48 (cd := .eq) (o := 19) (by decide +kernel) (XT.i0_eq_f (by decide)) (pc' := 177) rfl ?_
      refine oGo W48 [.aload 11] (by decide +kernel) (ls' := #[.val (.int i0), .val (.int i1), .val (.int i2), .val (.int i3), .val (.int i4), .val (.int i5), .val (.ref x0), .val (.ref x1), .val (.ref x2), .val (.ref x3), .val (.int (4 : Int32)), .val (.ref a), .val (.int (2 : Int32)), .val (.ref x2), .val (.ref x2)]) (st' := [(.ref a)]) rfl rfl (pc' := 179) rfl ?_
      obtain ⟨v49, T49, L49, h49, vm49, W49, ⟨rfl, e49⟩, C49, st49⟩ := oCallI W48 (idx := 36) (pc := 179) (ls := #[.val (.int i0), .val (.int i1), .val (.int i2), .val (.int i3), .val (.int i4), .val (.int i5), .val (.ref x0), .val (.ref x1), .val (.ref x2), .val (.ref x3), .val (.int (4 : Int32)), .val (.ref a), .val (.int (2 : Int32)), .val (.ref x2), .val (.ref x2)]) (st := []) (cnt := 1) (argsL := []) (A37.1.1.ext E46) (c_siz K (n := 4) (A37.ext E46).1) (fun x hx => nomatch hx) (hw _ (List.mem_of_getElem? (i := 136) rfl)) (hw _ (List.mem_of_getElem? (i := 102) rfl)) (hw _ (List.mem_of_getElem? (i := 103) rfl)) (by decide) (hw _ (List.mem_of_getElem? (i := 104) rfl)) (hw _ (List.mem_of_getElem? (i := 105) rfl)) (hw _ (List.mem_of_getElem? (i := 106) rfl)) (hw _ (List.mem_of_getElem? (i := 107) rfl)) (hw _ (List.mem_of_getElem? (i := 65) rfl)) (hw _ (List.mem_of_getElem? (i := 36) rfl)) (hw _ (List.mem_of_getElem? (i := 108) rfl)) (by decide) (na := 0) rfl (by decide +kernel) rfl (stk := [(.ref a)]) rfl (by decide +kernel) (V := 0) (lb rfl) (lb rfl) (lb rfl) (lb rfl) (lb rfl)
      refine oLift st49 ?_
      rw [e49] at W49 C49
      show OG _ _ _ _ _ _ _ _ _ _ _ (mkF m 184 #[.val (.int i0), .val (.int i1), .val (.int i2), .val (.int i3), .val (.int i4), .val (.int i5), .val (.ref x0), .val (.ref x1), .val (.ref x2), .val (.ref x3), .val (.int (4 : Int32)), .val (.ref a), .val (.int (2 : Int32)), .val (.ref x2), .val (.ref x2)] [(.int (Int32.ofNat 4))])
      refine oGo W49 [.iload 10] (by decide +kernel) (ls' := #[.val (.int i0), .val (.int i1), .val (.int i2), .val (.int i3), .val (.int i4), .val (.int i5), .val (.ref x0), .val (.ref x1), .val (.ref x2), .val (.ref x3), .val (.int (4 : Int32)), .val (.ref a), .val (.int (2 : Int32)), .val (.ref x2), .val (.ref x2)]) (st' := [(.int (4 : Int32)), (.int (Int32.ofNat 4))]) rfl rfl (pc' := 186) rfl ?_
      refine oIcF W49 (cd := .ne) (o := 7) (by decide +kernel) (XT.ii_ne_f rfl) (pc' := 189) rfl ?_
      refine oGo W49 [.iconst 1, .goto 4] (by decide +kernel) (ls' := #[.val (.int i0), .val (.int i1), .val (.int i2), .val (.int i3), .val (.int i4), .val (.int i5), .val (.ref x0), .val (.ref x1), .val (.ref x2), .val (.ref x3), .val (.int (4 : Int32)), .val (.ref a), .val (.int (2 : Int32)), .val (.ref x2), .val (.ref x2)]) (st' := [(.int (1 : Int32))]) rfl rfl (pc' := 194) rfl ?_
      exact oRetN (by simp) W49 rfl (by decide +kernel) (lb rfl) (lb rfl) (fun vm' hv => rfl)
    · rw [hR]
      refine oIfT W37 (cd := .ne) (o := 10) (by decide +kernel) (XT.i0_ne_t (by decide)) (pc' := 121) (by decide) (by decide) ?_
      refine oGo W37 [.iload 12, .iconst 1] (by decide +kernel) (ls' := #[.val (.int i0), .val (.int i1), .val (.int i2), .val (.int i3), .val (.int i4), .val (.int i5), .val (.ref x0), .val (.ref x1), .val (.ref x2), .val (.ref x3), .val (.int (4 : Int32)), .val (.ref a), .val (.int (3 : Int32)), .unset, .unset]) (st' := [(.int (1 : Int32)), (.int (3 : Int32))]) rfl rfl (pc' := 124) rfl ?_
      refine oIcT W37 (cd := .ne) (o := 10) (by decide +kernel) (XT.ii_ne_t (by decide)) (pc' := 134) (by decide) (by decide) ?_
      refine oGo W37 [.iload 12, .iconst 2] (by decide +kernel) (ls' := #[.val (.int i0), .val (.int i1), .val (.int i2), .val (.int i3), .val (.int i4), .val (.int i5), .val (.ref x0), .val (.ref x1), .val (.ref x2), .val (.ref x3), .val (.int (4 : Int32)), .val (.ref a), .val (.int (3 : Int32)), .unset, .unset]) (st' := [(.int (2 : Int32)), (.int (3 : Int32))]) rfl rfl (pc' := 137) rfl ?_
      refine oIcT W37 (cd := .ne) (o := 10) (by decide +kernel) (XT.ii_ne_t (by decide)) (pc' := 147) (by decide) (by decide) ?_
      refine oGo W37 [.aload 9, .astore 13, .aload 11, .iload 12] (by decide +kernel) (ls' := #[.val (.int i0), .val (.int i1), .val (.int i2), .val (.int i3), .val (.int i4), .val (.int i5), .val (.ref x0), .val (.ref x1), .val (.ref x2), .val (.ref x3), .val (.int (4 : Int32)), .val (.ref a), .val (.int (3 : Int32)), .val (.ref x3), .unset]) (st' := [(.int (3 : Int32)), (.ref a)]) rfl rfl (pc' := 155) rfl ?_
      obtain ⟨a50, T50, h50, vm50, W50, E50, C50, st50⟩ := oLdc W37 (pc := 155) (ls := #[.val (.int i0), .val (.int i1), .val (.int i2), .val (.int i3), .val (.int i4), .val (.int i5), .val (.ref x0), .val (.ref x1), .val (.ref x2), .val (.ref x3), .val (.int (4 : Int32)), .val (.ref a), .val (.int (3 : Int32)), .val (.ref x3), .unset]) (st := [(.int (3 : Int32)), (.ref a)]) (hw _ (List.mem_of_getElem? (i := 94) rfl)) hS (by decide +kernel) (n := 20) (lb rfl) (lb rfl) (lb rfl) (lb rfl)
      refine oLift st50 ?_
      obtain ⟨v51, T51, L51, h51, vm51, W51, ⟨rfl, e51⟩, C51, st51⟩ := oCallS W50 (idx := 25) (pc := 157) (ls := #[.val (.int i0), .val (.int i1), .val (.int i2), .val (.int i3), .val (.int i4), .val (.int i5), .val (.ref x0), .val (.ref x1), .val (.ref x2), .val (.ref x3), .val (.int (4 : Int32)), .val (.ref a), .val (.int (3 : Int32)), .val (.ref x3), .unset]) (st := []) (argsL := [(.ref a), (.int (3 : Int32)), (.ref a50)]) (c_val K (vs := (((((List.replicate 10 Value.null).set 0 (.ref x0)).set 1 (.ref x1)).set 2 (.ref x2)).set 3 (.ref x3))) (n := 4) (i := 3) (x := x3) (A37.ext E50) (by decide) (by decide) rfl ((((((X4.ext (exK E5 K6 (fun y hy => by cases List.mem_singleton.mp hy; exact g5))).keep K7).keep K35).keep K36).keep K37).ext E50)) (fun x hx => nomatch hx) (hw _ (List.mem_of_getElem? (i := 97) rfl)) (hw _ (List.mem_of_getElem? (i := 98) rfl)) (hw _ (List.mem_of_getElem? (i := 99) rfl)) (hw _ (List.mem_of_getElem? (i := 100) rfl)) (by decide) (na := 3) rfl (by decide +kernel) rfl (stk := [(.ref a50), (.int (3 : Int32)), (.ref a)]) rfl (by decide +kernel) (V := 0) (lb rfl) (lb rfl) (lb rfl) (lb rfl) (lb rfl)
      refine oLift st51 ?_
      rw [e51] at W51 C51
      show OG _ _ _ _ _ _ _ _ _ _ _ (mkF m 160 #[.val (.int i0), .val (.int i1), .val (.int i2), .val (.int i3), .val (.int i4), .val (.int i5), .val (.ref x0), .val (.ref x1), .val (.ref x2), .val (.ref x3), .val (.int (4 : Int32)), .val (.ref a), .val (.int (3 : Int32)), .val (.ref x3), .unset] [(.ref x3)])
      refine oGo W51 [.astore 14, .aload 14] (by decide +kernel) (ls' := #[.val (.int i0), .val (.int i1), .val (.int i2), .val (.int i3), .val (.int i4), .val (.int i5), .val (.ref x0), .val (.ref x1), .val (.ref x2), .val (.ref x3), .val (.int (4 : Int32)), .val (.ref a), .val (.int (3 : Int32)), .val (.ref x3), .val (.ref x3)]) (st' := [(.ref x3)]) rfl rfl (pc' := 164) rfl ?_
      refine oNuF W51 (o := 29) (by decide +kernel) (pc' := 167) rfl ?_
      refine oGo W51 [.aload 14, .aload 13] (by decide +kernel) (ls' := #[.val (.int i0), .val (.int i1), .val (.int i2), .val (.int i3), .val (.int i4), .val (.int i5), .val (.ref x0), .val (.ref x1), .val (.ref x2), .val (.ref x3), .val (.int (4 : Int32)), .val (.ref a), .val (.int (3 : Int32)), .val (.ref x3), .val (.ref x3)]) (st' := [(.ref x3), (.ref x3)]) rfl rfl (pc' := 171) rfl ?_
      obtain ⟨v52, T52, L52, h52, vm52, W52, ⟨rfl, e52⟩, C52, st52⟩ := oCallV W51 (idx := 31) (pc := 171) (ls := #[.val (.int i0), .val (.int i1), .val (.int i2), .val (.int i3), .val (.int i4), .val (.int i5), .val (.ref x0), .val (.ref x1), .val (.ref x2), .val (.ref x3), .val (.int (4 : Int32)), .val (.ref a), .val (.int (3 : Int32)), .val (.ref x3), .val (.ref x3)]) (st := []) (argsL := [(.ref x3)]) ((((((X4.ext (exK E5 K6 (fun y hy => by cases List.mem_singleton.mp hy; exact g5))).keep K7).keep K35).keep K36).keep K37).ext E50) (c_eqs K) (fun x hx => nomatch hx) (hw _ (List.mem_of_getElem? (i := 131) rfl)) (hw _ (List.mem_of_getElem? (i := 132) rfl)) (notFace_of_selects (args := #[]) (mvT W51.warm (hw _ (List.mem_of_getElem? (i := 134) rfl)))) (hw _ (List.mem_of_getElem? (i := 134) rfl)) (hw _ (List.mem_of_getElem? (i := 133) rfl)) (hw _ (List.mem_of_getElem? (i := 7) rfl)) (hw _ (List.mem_of_getElem? (i := 135) rfl)) (by decide) (na := 1) rfl (by decide +kernel) rfl (stk := [(.ref x3), (.ref x3)]) rfl (by decide +kernel) (V := 0) (lb rfl) (lb rfl) (lb rfl) (lb rfl) (lb rfl)
      refine oLift st52 ?_
      rw [e52] at W52 C52
      show OG _ _ _ _ _ _ _ _ _ _ _ (mkF m 174 #[.val (.int i0), .val (.int i1), .val (.int i2), .val (.int i3), .val (.int i4), .val (.int i5), .val (.ref x0), .val (.ref x1), .val (.ref x2), .val (.ref x3), .val (.int (4 : Int32)), .val (.ref a), .val (.int (3 : Int32)), .val (.ref x3), .val (.ref x3)] [(.int (1 : Int32))])
      refine oIfF W52 (cd := .eq) (o := 19) (by decide +kernel) (XT.i0_eq_f (by decide)) (pc' := 177) rfl ?_
      refine oGo W52 [.aload 11] (by decide +kernel) (ls' := #[.val (.int i0), .val (.int i1), .val (.int i2), .val (.int i3), .val (.int i4), .val (.int i5), .val (.ref x0), .val (.ref x1), .val (.ref x2), .val (.ref x3), .val (.int (4 : Int32)), .val (.ref a), .val (.int (3 : Int32)), .val (.ref x3), .val (.ref x3)]) (st' := [(.ref a)]) rfl rfl (pc' := 179) rfl ?_
      obtain ⟨v53, T53, L53, h53, vm53, W53, ⟨rfl, e53⟩, C53, st53⟩ := oCallI W52 (idx := 36) (pc := 179) (ls := #[.val (.int i0), .val (.int i1), .val (.int i2), .val (.int i3), .val (.int i4), .val (.int i5), .val (.ref x0), .val (.ref x1), .val (.ref x2), .val (.ref x3), .val (.int (4 : Int32)), .val (.ref a), .val (.int (3 : Int32)), .val (.ref x3), .val (.ref x3)]) (st := []) (cnt := 1) (argsL := []) (A37.1.1.ext E50) (c_siz K (n := 4) (A37.ext E50).1) (fun x hx => nomatch hx) (hw _ (List.mem_of_getElem? (i := 136) rfl)) (hw _ (List.mem_of_getElem? (i := 102) rfl)) (hw _ (List.mem_of_getElem? (i := 103) rfl)) (by decide) (hw _ (List.mem_of_getElem? (i := 104) rfl)) (hw _ (List.mem_of_getElem? (i := 105) rfl)) (hw _ (List.mem_of_getElem? (i := 106) rfl)) (hw _ (List.mem_of_getElem? (i := 107) rfl)) (hw _ (List.mem_of_getElem? (i := 65) rfl)) (hw _ (List.mem_of_getElem? (i := 36) rfl)) (hw _ (List.mem_of_getElem? (i := 108) rfl)) (by decide) (na := 0) rfl (by decide +kernel) rfl (stk := [(.ref a)]) rfl (by decide +kernel) (V := 0) (lb rfl) (lb rfl) (lb rfl) (lb rfl) (lb rfl)
      refine oLift st53 ?_
      rw [e53] at W53 C53
      show OG _ _ _ _ _ _ _ _ _ _ _ (mkF m 184 #[.val (.int i0), .val (.int i1), .val (.int i2), .val (.int i3), .val (.int i4), .val (.int i5), .val (.ref x0), .val (.ref x1), .val (.ref x2), .val (.ref x3), .val (.int (4 : Int32)), .val (.ref a), .val (.int (3 : Int32)), .val (.ref x3), .val (.ref x3)] [(.int (Int32.ofNat 4))])
      refine oGo W53 [.iload 10] (by decide +kernel) (ls' := #[.val (.int i0), .val (.int i1), .val (.int i2), .val (.int i3), .val (.int i4), .val (.int i5), .val (.ref x0), .val (.ref x1), .val (.ref x2), .val (.ref x3), .val (.int (4 : Int32)), .val (.ref a), .val (.int (3 : Int32)), .val (.ref x3), .val (.ref x3)]) (st' := [(.int (4 : Int32)), (.int (Int32.ofNat 4))]) rfl rfl (pc' := 186) rfl ?_
      refine oIcF W53 (cd := .ne) (o := 7) (by decide +kernel) (XT.ii_ne_f rfl) (pc' := 189) rfl ?_
      refine oGo W53 [.iconst 1, .goto 4] (by decide +kernel) (ls' := #[.val (.int i0), .val (.int i1), .val (.int i2), .val (.int i3), .val (.int i4), .val (.int i5), .val (.ref x0), .val (.ref x1), .val (.ref x2), .val (.ref x3), .val (.int (4 : Int32)), .val (.ref a), .val (.int (3 : Int32)), .val (.ref x3), .val (.ref x3)]) (st' := [(.int (1 : Int32))]) rfl rfl (pc' := 194) rfl ?_
      exact oRetN (by simp) W53 rfl (by decide +kernel) (lb rfl) (lb rfl) (fun vm' hv => rfl)
set_option maxRecDepth 65536 in
set_option maxHeartbeats 40000000 in
theorem comes_1 {Post : Tables → Env → Array Value → State → Outcome → State → Prop} (hpost : ∀ tb e args s v u, (limb_1_1.after args s (.returned v) u = true ∧ limb_1_2.after args s (.returned v) u = true ∧ True) → ReturnedEndW s (.returned v) u (Jvm.fieldLocs frame_1_writes args s ++ Jvm.arrayLocs frame_1_arrays args s ++ Jvm.staticLocs frame_1_statics s) 40 1216 → Post tb e args s (.returned v) u) :
    ArmFor flags0 classFile x code maxLocals ret World_1 tables_1 room_1 Calls_1 rest_1 Pre_1 Post := by
  intro l hfl _ _ p e ha hc hk s m args below hf hA hF happ hP
  obtain ⟨hcalls, hrest, hpre⟩ := hP
  obtain ⟨-, -, -, hnamed, -, -, -, hat⟩ := (Spec.applies_iff hf).mp happ
  obtain ⟨hg, hn⟩ := and_e (Cond.before_iff.mp (show (Jvm.Cond.and given_1 narrow_1).before args s = true from hpre))
  obtain ⟨hcnt, t0⟩ := and_e hg
  obtain ⟨g0, t1⟩ := and_e t0
  obtain ⟨g1, t2⟩ := and_e t1
  obtain ⟨g2, t3⟩ := and_e t2
  obtain ⟨g3, t4⟩ := and_e t3
  obtain ⟨g4, t5⟩ := and_e t4
  obtain ⟨w0, w1, w2, w3, w4, w5, rfl⟩ : ∃ w0 w1 w2 w3 w4 w5 : Value, args = #[w0, w1, w2, w3, w4, w5] := by
    have hs : args.size = 6 := by simpa [Cond.value, given_1] using hcnt
    obtain ⟨L⟩ := args
    match L, hs with
    | [w0, w1, w2, w3, w4, w5], _ => exact ⟨w0, w1, w2, w3, w4, w5, rfl⟩
  have hw := fun d (hd : d ∈ tables_1) => atoms_spec (ws := Jvm.Cond.code x code maxLocals ret :: tables_1) hat d (List.mem_cons_of_mem _ hd)
  obtain ⟨hsets, hown0⟩ := atoms_of _ (rest_1_c_eq ▸ (show rest_1_c.before _ s = true from hrest))
  obtain ⟨i0, e0⟩ := is_v g0
  obtain rfl : w0 = (.int i0) := Option.some.inj e0
  obtain ⟨i1, e1⟩ := is_v g1
  obtain rfl : w1 = (.int i1) := Option.some.inj e1
  obtain ⟨i2, e2⟩ := is_v g2
  obtain rfl : w2 = (.int i2) := Option.some.inj e2
  obtain ⟨i3, e3⟩ := is_v g3
  obtain rfl : w3 = (.int i3) := Option.some.inj e3
  obtain ⟨i4, e4⟩ := is_v g4
  obtain rfl : w4 = (.int i4) := Option.some.inj e4
  obtain ⟨i5, e5⟩ := is_v t5
  obtain rfl : w5 = (.int i5) := Option.some.inj e5
  have n5 := not_v (Cond.before_iff.mp (hsets _ (List.mem_of_getElem? (i := 2) rfl)))
  obtain ⟨z, ez⟩ := is_v (Cond.before_iff.mp (hsets _ (List.mem_of_getElem? (i := 1) rfl)))
  have Sz : Sta s s.heap "java/lang/String" "COMPACT_STRINGS" "Z" (.int z) := Sta.start ez (Or.inl (hsets _ (List.mem_of_getElem? (i := 0) rfl)))
  have cz : ¬ (z = (0 : Int32)) := gotF (Cond.eq_ints ez (Term.int_eval (0))) n5
  have hfit : Fit s := fun {y c} hc i hi => by
    obtain ⟨ha, rfl⟩ := Array.getElem?_eq_some_iff.mp hc
    have q := List.all_eq_true.mp ((Array.all_eq_true_iff_forall_mem.mp hF) _ (Array.getElem_mem ha)) i (List.mem_range.mpr hi)
    simpa [Array.getElem?_eq_getElem hi] using q
  obtain ⟨dc, edc⟩ := exa_v (Cond.before_iff.mp (hsets _ (List.mem_of_getElem? (i := 16) rfl)))
  have Sdc : Sta s s.heap "java/util/ArrayList" "DEFAULTCAPACITY_EMPTY_ELEMENTDATA" "[Ljava/lang/Object;" (.ref dc) := Sta.start edc (Or.inr ⟨(hw _ (List.mem_of_getElem? (i := 36) rfl)), (hsets _ (List.mem_of_getElem? (i := 11) rfl))⟩)
  obtain ⟨kd, Adc⟩ := arrStart hfit edc (Cond.before_iff.mp (hsets _ (List.mem_of_getElem? (i := 15) rfl))) (n := 0) (by decide) (Cond.before_iff.mp (hsets _ (List.mem_of_getElem? (i := 17) rfl))) (vs := []) rfl (fun c hc => trivial)
  have hG : DX s dc kd := ⟨Sdc, Adc⟩
  have hEW : EW s #[.int i0, .int i1, .int i2, .int i3, .int i4, .int i5] EL := EW.nil
  have hCH : CHv s EL s.vm s.heap := fun _ hp => nomatch hp
  have K : Ctx s #[.int i0, .int i1, .int i2, .int i3, .int i4, .int i5] := ⟨hw, ⟨fun d hd => hw d (sW_in d hd), hEW, z, Sz, cz⟩, fun d hd => hw d (sA_in d hd), trivial⟩
  obtain ⟨n, o, q1, q2, q3, v, L, rfl, ⟨rfl, N, -⟩, hnb, -, r1, r2, r3, r4⟩ := c_law (l := l) K i0 i1 i2 i3 i4 i5 dc kd hG s.heap p e ha hc hk s m _ below hf ((Spec.applies_iff_loose hf).mp happ).1 ⟨rfl, State.Warmed39.refl s, rfl, hCH, exR _, fun _ hp => nomatch hp⟩ trivial
  exact ⟨n, _, q1, q2, q3, hpost _ _ _ _ _ _ ⟨Cond.after_iff.mpr rfl, Cond.after_iff.mpr (eq_i res_at (Term.int_eval (1)) rfl), trivial⟩ ⟨r1, r2, r3, (r4.sift fun y hy => Or.inr (N y hy)).mono (by decide) (by decide)⟩⟩
theorem main_1_1 : Claimed_1_1 := comes_1 fun _ _ _ _ _ _ h hF => ⟨h.1, hF⟩
theorem main_1_2 : Claimed_1_2 := comes_1 fun _ _ _ _ _ _ h hF => ⟨h.2.1, hF⟩
end Jvm.Pilot.@@N@@
namespace Jvm.Pilot.@@N@@
open Jvm Jvm.ClassFile Sem Op Lib Jvm.Free Jvm.Stand Jvm.Pilot.@@N@@.Jvm.D
/-! MADE BY PROGRAM (witnessworld.py) out of the Statement's table words and the real class files: 31 classes; the members and pool entries that the words name. The judged class is class 1, her method 1. -/
namespace start1
open Jvm.ClassFile
def u (s : String) : CpInfo := .utf8 (stringToUtf16 s)
/-- a pool by its gaps: so many unusable entries, then the entry; so many at the end -/
def gap : Nat → List CpInfo → List CpInfo
  | 0, r => r
  | n + 1, r => .unusable :: gap n r
def poolList (es : List (Nat × CpInfo)) (last : Nat) : List CpInfo := es.foldr (fun e r => gap e.1 (e.2 :: r)) (gap last [])
def pool (es : List (Nat × CpInfo)) (last : Nat) : Array CpInfo := ⟨poolList es last⟩
def fileOf (pool : Array CpInfo) (this : Nat) (attrs : Array Attribute := #[]) (ms : Array MethodInfo := #[]) (fl : Nat := 33) (sup : Nat := 0) (ifs : Array Nat := #[]) (fds : Array FieldInfo := #[]) : ClassFile where
  minorVersion := 0
  majorVersion := 65
  constantPool := pool
  accessFlags := fl
  thisClass := this
  superClass := sup
  interfaces := ifs
  fields := fds
  methods := ms
  attributes := attrs
def plain (name : String) (sup : Option ClassId) : Class where
  name := name
  kind := .ordinary
  loader := none
  accessFlags := 33
  super := sup
  interfaces := #[]
  cf := none
  fields := #[]
  methods := #[]
  instanceTypes := #[]
  staticTypes := #[]
  resolved := #[]
  callSites := []
  init := .initialized
  statics := none
  mirror := none

def pool0 : Array CpInfo := pool [(5, u "<init>"), (0, u "()V"), (1, .class_ 10), (1, u "java/lang/Object")] 113

def k0c0 : Code := { maxStack := 0, maxLocals := 1, code := object_method_1_code, exceptionTable := #[], attributes := #[] }
def k0m0 : Method := { name := "<init>", desc := "()V", sig := { parameters := [], returnType := none }, accessFlags := 1, code := some k0c0 }
/-- java/lang/Object -/
def k0 : Class := { plain "java/lang/Object" none with
  accessFlags := 33
  interfaces := #[]
  cf := some (fileOf pool0 8 #[] #[{ accessFlags := 1, nameIndex := 5, descriptorIndex := 6, attributes := #[] }] 33 0 #[] #[])
  fields := #[]
  methods := #[k0m0]
  instanceTypes := #[]
  staticTypes := #[]
  resolved := Array.replicate 124 none
  statics := none }

def pool1 : Array CpInfo := pool [(2, .class_ 4), (0, .nameAndType 5 6), (0, u "java/lang/Object"), (0, u "<init>"), (0, u "()V"), (0, .methodref 8 9), (0, .class_ 10), (0, .nameAndType 11 12), (0, u "com/example/strict_split/strictsplit/cli/ArgumentsValuePinLaw"), (0, u "word"), (0, u "(I)Ljava/lang/String;"), (0, .class_ 14), (0, u "java/util/ArrayList"), (0, .methodref 13 3), (0, .interfaceMethodref 17 18), (0, .class_ 19), (0, .nameAndType 20 21), (0, u "java/util/List"), (0, u "add"), (0, u "(Ljava/lang/Object;)Z"), (0, .integer 2147483647), (0, .string 24), (0, u "--opt"), (0, .methodref 26 27), (0, .class_ 28), (0, .nameAndType 29 30), (0, u "com/example/strict_split/strictsplit/cli/Arguments"), (0, u "value"), (0, u "(Ljava/util/List;ILjava/lang/String;)Ljava/lang/String;"), (0, .methodref 32 33), (0, .class_ 34), (0, .nameAndType 35 21), (0, u "java/lang/String"), (0, u "equals"), (0, .interfaceMethodref 17 37), (0, .nameAndType 38 39), (0, u "size"), (0, u "()I"), (0, .methodref 32 41), (0, .nameAndType 5 42), (0, u "([C)V"), (2, u "law"), (0, u "(IIIIII)Z")] 6

def k1m0 : Method := { name := "<init>", desc := "()V", sig := { parameters := [], returnType := none }, accessFlags := 2, code := none }
def k1c1 : Code := { maxStack := 3, maxLocals := 15, code := code, exceptionTable := #[], attributes := #[] }
def k1m1 : Method := { name := "law", desc := "(IIIIII)Z", sig := { parameters := [.int, .int, .int, .int, .int, .int], returnType := some .boolean }, accessFlags := 9, code := some k1c1 }
def k1c2 : Code := { maxStack := 4, maxLocals := 2, code := method_3_code, exceptionTable := #[], attributes := #[] }
def k1m2 : Method := { name := "word", desc := "(I)Ljava/lang/String;", sig := { parameters := [.int], returnType := some (.object "java/lang/String") }, accessFlags := 10, code := some k1c2 }
/-- com/example/strict_split/strictsplit/cli/ArgumentsValuePinLaw -/
def k1 : Class := { plain "com/example/strict_split/strictsplit/cli/ArgumentsValuePinLaw" (some 0) with
  accessFlags := 49
  interfaces := #[]
  cf := some (fileOf pool1 8 #[] #[{ accessFlags := 2, nameIndex := 5, descriptorIndex := 6, attributes := #[] }, { accessFlags := 9, nameIndex := 45, descriptorIndex := 46, attributes := #[] }, { accessFlags := 10, nameIndex := 11, descriptorIndex := 12, attributes := #[] }] 49 2 #[] #[])
  fields := #[]
  methods := #[k1m0, k1m1, k1m2]
  instanceTypes := #[]
  staticTypes := #[]
  resolved := Array.replicate 53 none
  statics := none }

def pool2 : Array CpInfo := pool [(1, .class_ 2), (0, u "java/io/Serializable"), (0, .class_ 4), (0, u "java/lang/Object")] 2

/-- java/io/Serializable -/
def k2 : Class := { plain "java/io/Serializable" (some 0) with
  accessFlags := 1537
  interfaces := #[]
  cf := some (fileOf pool2 1 #[] #[] 1537 3 #[] #[])
  fields := #[]
  methods := #[]
  instanceTypes := #[]
  staticTypes := #[]
  resolved := Array.replicate 7 none
  statics := none }

def pool3 : Array CpInfo := pool [(1, .class_ 2), (0, u "java/lang/Comparable"), (0, .class_ 4), (0, u "java/lang/Object")] 7

/-- java/lang/Comparable -/
def k3 : Class := { plain "java/lang/Comparable" (some 0) with
  accessFlags := 1537
  interfaces := #[]
  cf := some (fileOf pool3 1 #[] #[] 1537 3 #[] #[])
  fields := #[]
  methods := #[]
  instanceTypes := #[]
  staticTypes := #[]
  resolved := Array.replicate 12 none
  statics := none }

def pool4 : Array CpInfo := pool [(2, .class_ 4), (1, u "java/lang/CharSequence"), (42, .class_ 48), (0, u "java/lang/CharSequence$1CodePointIterator"), (10, .class_ 60), (0, u "java/lang/CharSequence$1CharIterator"), (5, .class_ 67), (0, u "java/lang/Object")] 63

/-- java/lang/CharSequence -/
def k4 : Class := { plain "java/lang/CharSequence" (some 0) with
  accessFlags := 1537
  interfaces := #[]
  cf := some (fileOf pool4 2 #[.nestMembers #[47, 59]] #[] 1537 66 #[] #[])
  fields := #[]
  methods := #[]
  instanceTypes := #[]
  staticTypes := #[]
  resolved := Array.replicate 131 none
  statics := none }

def pool5 : Array CpInfo := pool [(1, .class_ 2), (0, u "java/lang/constant/Constable"), (0, .class_ 4), (0, u "java/lang/Object")] 6

/-- java/lang/constant/Constable -/
def k5 : Class := { plain "java/lang/constant/Constable" (some 0) with
  accessFlags := 1537
  interfaces := #[]
  cf := some (fileOf pool5 1 #[] #[] 1537 3 #[] #[])
  fields := #[]
  methods := #[]
  instanceTypes := #[]
  staticTypes := #[]
  resolved := Array.replicate 11 none
  statics := none }

def pool6 : Array CpInfo := pool [(1, .class_ 2), (0, u "java/lang/constant/ConstantDesc"), (0, .class_ 4), (0, u "java/lang/Object")] 32

/-- java/lang/constant/ConstantDesc -/
def k6 : Class := { plain "java/lang/constant/ConstantDesc" (some 0) with
  accessFlags := 1537
  interfaces := #[]
  cf := some (fileOf pool6 1 #[] #[] 1537 3 #[] #[])
  fields := #[]
  methods := #[]
  instanceTypes := #[]
  staticTypes := #[]
  resolved := Array.replicate 37 none
  statics := none }

def pool7 : Array CpInfo := pool [(1, .methodref 2 3), (0, .class_ 4), (0, .nameAndType 5 6), (0, u "java/lang/Object"), (0, u "<init>"), (0, u "()V"), (2, .fieldref 10 11), (0, .class_ 12), (0, .nameAndType 13 14), (0, u "java/lang/String"), (0, u "value"), (0, u "[B"), (0, .fieldref 10 16), (0, .nameAndType 17 18), (0, u "coder"), (0, u "B"), (2, u "hash"), (0, u "I"), (2, u "hashIsZero"), (0, u "Z"), (0, .methodref 10 28), (0, .nameAndType 5 29), (0, u "([CIILjava/lang/Void;)V"), (8, .fieldref 10 39), (0, .nameAndType 40 26), (0, u "COMPACT_STRINGS"), (1, .class_ 44), (1, u "java/lang/StringUTF16"), (0, u "compress"), (1, .methodref 42 48), (0, .nameAndType 49 50), (0, u "coderFromArrayLen"), (0, u "([BI)B"), (126, .methodref 42 178), (0, .nameAndType 45 179), (0, u "([CII)[B"), (363, u "equals"), (29, u "(Ljava/lang/Object;)Z"), (1, .class_ 576), (0, u "java/lang/CharSequence"), (22, u "CASE_INSENSITIVE_ORDER"), (0, u "Ljava/util/Comparator;"), (409, u "([C)V"), (90, u "serialPersistentFields"), (0, u "[Ljava/io/ObjectStreamField;"), (0, .class_ 1104), (0, u "java/lang/String$CaseInsensitiveComparator"), (1, .class_ 1107), (0, u "java/io/Serializable"), (0, .class_ 1109), (0, u "java/lang/Comparable"), (0, .class_ 1111), (0, u "java/lang/constant/Constable"), (0, .class_ 1113), (0, u "java/lang/constant/ConstantDesc"), (2, u "serialVersionUID"), (0, u "J"), (3, u "REPL"), (0, u "C"), (2, u "LATIN1"), (1, u "UTF16")] 323

def k7m0 : Method := { name := "<init>", desc := "()V", sig := { parameters := [], returnType := none }, accessFlags := 1, code := none }
def k7c1 : Code := { maxStack := 5, maxLocals := 2, code := jdk_42_method_3_code, exceptionTable := #[], attributes := #[] }
def k7m1 : Method := { name := "<init>", desc := "([C)V", sig := { parameters := [(.array .char)], returnType := none }, accessFlags := 1, code := some k7c1 }
def k7c2 : Code := { maxStack := 2, maxLocals := 3, code := jdk_42_method_66_code, exceptionTable := #[], attributes := #[] }
def k7m2 : Method := { name := "equals", desc := "(Ljava/lang/Object;)Z", sig := { parameters := [(.object "java/lang/Object")], returnType := some .boolean }, accessFlags := 1, code := some k7c2 }
def k7c3 : Code := { maxStack := 4, maxLocals := 6, code := jdk_42_method_149_code, exceptionTable := #[], attributes := #[] }
def k7m3 : Method := { name := "<init>", desc := "([CIILjava/lang/Void;)V", sig := { parameters := [(.array .char), .int, .int, (.object "java/lang/Void")], returnType := none }, accessFlags := 2, code := some k7c3 }
/-- java/lang/String -/
def k7 : Class := { plain "java/lang/String" (some 0) with
  accessFlags := 49
  interfaces := #[2, 3, 4, 5, 6]
  cf := some (fileOf pool7 10 #[.nestMembers #[1103]] #[{ accessFlags := 1, nameIndex := 5, descriptorIndex := 6, attributes := #[] }, { accessFlags := 1, nameIndex := 5, descriptorIndex := 1010, attributes := #[] }, { accessFlags := 1, nameIndex := 543, descriptorIndex := 573, attributes := #[] }, { accessFlags := 2, nameIndex := 5, descriptorIndex := 29, attributes := #[] }] 49 2 #[1106, 1108, 575, 1110, 1112] #[{ accessFlags := 18, nameIndex := 13, descriptorIndex := 14, attributes := #[] }, { accessFlags := 18, nameIndex := 17, descriptorIndex := 18, attributes := #[] }, { accessFlags := 2, nameIndex := 21, descriptorIndex := 22, attributes := #[] }, { accessFlags := 2, nameIndex := 25, descriptorIndex := 26, attributes := #[] }, { accessFlags := 26, nameIndex := 1116, descriptorIndex := 1117, attributes := #[] }, { accessFlags := 24, nameIndex := 40, descriptorIndex := 26, attributes := #[] }, { accessFlags := 26, nameIndex := 1101, descriptorIndex := 1102, attributes := #[] }, { accessFlags := 26, nameIndex := 1121, descriptorIndex := 1122, attributes := #[] }, { accessFlags := 25, nameIndex := 599, descriptorIndex := 600, attributes := #[] }, { accessFlags := 24, nameIndex := 1125, descriptorIndex := 18, attributes := #[] }, { accessFlags := 24, nameIndex := 1127, descriptorIndex := 18, attributes := #[] }])
  fields := #[{ name := "value", type := (.array .byte), accessFlags := 18, slot := 0, constantValue := 0 }, { name := "coder", type := .byte, accessFlags := 18, slot := 1, constantValue := 0 }, { name := "hash", type := .int, accessFlags := 2, slot := 2, constantValue := 0 }, { name := "hashIsZero", type := .boolean, accessFlags := 2, slot := 3, constantValue := 0 }, { name := "serialVersionUID", type := .long, accessFlags := 26, slot := 0, constantValue := 0 }, { name := "COMPACT_STRINGS", type := .boolean, accessFlags := 24, slot := 1, constantValue := 0 }, { name := "serialPersistentFields", type := (.array (.object "java/io/ObjectStreamField")), accessFlags := 26, slot := 2, constantValue := 0 }, { name := "REPL", type := .char, accessFlags := 26, slot := 3, constantValue := 0 }, { name := "CASE_INSENSITIVE_ORDER", type := (.object "java/util/Comparator"), accessFlags := 25, slot := 4, constantValue := 0 }, { name := "LATIN1", type := .byte, accessFlags := 24, slot := 5, constantValue := 0 }, { name := "UTF16", type := .byte, accessFlags := 24, slot := 6, constantValue := 0 }]
  methods := #[k7m0, k7m1, k7m2, k7m3]
  instanceTypes := #[(.array .byte), .byte, .int, .boolean]
  staticTypes := #[.long, .boolean, (.array (.object "java/io/ObjectStreamField")), .char, (.object "java/util/Comparator"), .byte, .byte]
  resolved := Array.replicate 1451 none
  statics := some 0 }

def pool8 : Array CpInfo := pool [(6, .class_ 8), (1, u "java/lang/Object"), (0, u "<init>"), (0, u "()V"), (1, .class_ 14), (1, u "java/lang/StringUTF16"), (31, u "$assertionsDisabled"), (0, u "Z"), (13, u "HI_BYTE_SHIFT"), (0, u "I"), (2, u "LO_BYTE_SHIFT"), (49, .methodref 12 116), (0, .nameAndType 117 118), (0, u "compress"), (0, u "([CI[BII)I"), (3, u "([CII)[B"), (138, u "coderFromArrayLen"), (0, u "([BI)B"), (106, .class_ 371), (1, u "java/lang/StringUTF16$LinesSpliterator"), (58, u "MAX_LENGTH"), (196, .class_ 628), (0, u "java/lang/StringUTF16$CodePointsSpliterator"), (0, .class_ 630), (0, u "java/lang/StringUTF16$CharsSpliterator")] 4

def k8m0 : Method := { name := "<init>", desc := "()V", sig := { parameters := [], returnType := none }, accessFlags := 0, code := none }
def k8c1 : Code := { maxStack := 2, maxLocals := 2, code := jdk_52_method_15_code, exceptionTable := #[], attributes := #[] }
def k8m1 : Method := { name := "coderFromArrayLen", desc := "([BI)B", sig := { parameters := [(.array .byte), .int], returnType := some .byte }, accessFlags := 8, code := some k8c1 }
def k8c2 : Code := { maxStack := 5, maxLocals := 6, code := jdk_52_method_16_code, exceptionTable := #[], attributes := #[] }
def k8m2 : Method := { name := "compress", desc := "([CII)[B", sig := { parameters := [(.array .char), .int, .int], returnType := some (.array .byte) }, accessFlags := 9, code := some k8c2 }
def k8c3 : Code := { maxStack := 3, maxLocals := 7, code := jdk_52_method_21_code, exceptionTable := #[], attributes := #[] }
def k8m3 : Method := { name := "compress", desc := "([CI[BII)I", sig := { parameters := [(.array .char), .int, (.array .byte), .int, .int], returnType := some .int }, accessFlags := 9, code := some k8c3 }
/-- java/lang/StringUTF16 -/
def k8 : Class := { plain "java/lang/StringUTF16" (some 0) with
  accessFlags := 48
  interfaces := #[]
  cf := some (fileOf pool8 12 #[.nestMembers #[627, 629, 369]] #[{ accessFlags := 0, nameIndex := 9, descriptorIndex := 10, attributes := #[] }, { accessFlags := 8, nameIndex := 261, descriptorIndex := 262, attributes := #[] }, { accessFlags := 9, nameIndex := 117, descriptorIndex := 122, attributes := #[] }, { accessFlags := 9, nameIndex := 117, descriptorIndex := 118, attributes := #[] }] 48 6 #[] #[{ accessFlags := 26, nameIndex := 61, descriptorIndex := 62, attributes := #[] }, { accessFlags := 26, nameIndex := 65, descriptorIndex := 62, attributes := #[] }, { accessFlags := 24, nameIndex := 430, descriptorIndex := 62, attributes := #[] }, { accessFlags := 4120, nameIndex := 46, descriptorIndex := 47, attributes := #[] }])
  fields := #[{ name := "HI_BYTE_SHIFT", type := .int, accessFlags := 26, slot := 0, constantValue := 0 }, { name := "LO_BYTE_SHIFT", type := .int, accessFlags := 26, slot := 1, constantValue := 0 }, { name := "MAX_LENGTH", type := .int, accessFlags := 24, slot := 2, constantValue := 0 }, { name := "$assertionsDisabled", type := .boolean, accessFlags := 4120, slot := 3, constantValue := 0 }]
  methods := #[k8m0, k8m1, k8m2, k8m3]
  instanceTypes := #[]
  staticTypes := #[.int, .int, .int, .boolean]
  resolved := Array.replicate 635 none
  statics := none }

def pool9 : Array CpInfo := pool [(8, .class_ 10), (1, u "java/lang/Iterable"), (24, .class_ 36), (0, u "java/lang/Object")] 25

/-- java/lang/Iterable -/
def k9 : Class := { plain "java/lang/Iterable" (some 0) with
  accessFlags := 1537
  interfaces := #[]
  cf := some (fileOf pool9 8 #[] #[] 1537 35 #[] #[])
  fields := #[]
  methods := #[]
  instanceTypes := #[]
  staticTypes := #[]
  resolved := Array.replicate 62 none
  statics := none }

def pool10 : Array CpInfo := pool [(10, .class_ 12), (1, u "java/util/Collection"), (47, .class_ 61), (0, u "java/lang/Object"), (0, .class_ 63), (0, u "java/lang/Iterable")] 51

/-- java/util/Collection -/
def k10 : Class := { plain "java/util/Collection" (some 0) with
  accessFlags := 1537
  interfaces := #[9]
  cf := some (fileOf pool10 10 #[] #[] 1537 60 #[62] #[])
  fields := #[]
  methods := #[]
  instanceTypes := #[]
  staticTypes := #[]
  resolved := Array.replicate 115 none
  statics := none }

def pool11 : Array CpInfo := pool [(1, .methodref 2 3), (0, .class_ 4), (0, .nameAndType 5 6), (0, u "java/lang/Object"), (0, u "<init>"), (0, u "()V"), (1, .class_ 10), (1, u "java/util/AbstractCollection"), (66, .class_ 78), (0, u "java/util/Collection")] 81

def k11c0 : Code := { maxStack := 1, maxLocals := 1, code := jdk_22_method_1_code, exceptionTable := #[], attributes := #[] }
def k11m0 : Method := { name := "<init>", desc := "()V", sig := { parameters := [], returnType := none }, accessFlags := 4, code := some k11c0 }
/-- java/util/AbstractCollection -/
def k11 : Class := { plain "java/util/AbstractCollection" (some 0) with
  accessFlags := 1057
  interfaces := #[10]
  cf := some (fileOf pool11 8 #[] #[{ accessFlags := 4, nameIndex := 5, descriptorIndex := 6, attributes := #[] }] 1057 2 #[77] #[])
  fields := #[]
  methods := #[k11m0]
  instanceTypes := #[]
  staticTypes := #[]
  resolved := Array.replicate 160 none
  statics := none }

def pool12 : Array CpInfo := pool [(8, .class_ 10), (1, u "java/util/SequencedCollection"), (15, .class_ 27), (0, u "java/lang/Object"), (0, .class_ 29), (0, u "java/util/Collection")] 27

/-- java/util/SequencedCollection -/
def k12 : Class := { plain "java/util/SequencedCollection" (some 0) with
  accessFlags := 1537
  interfaces := #[10]
  cf := some (fileOf pool12 8 #[] #[] 1537 26 #[28] #[])
  fields := #[]
  methods := #[]
  instanceTypes := #[]
  staticTypes := #[]
  resolved := Array.replicate 57 none
  statics := none }

def pool13 : Array CpInfo := pool [(8, .class_ 10), (1, u "java/util/List"), (49, u "add"), (3, u "(Ljava/lang/Object;)Z"), (10, u "get"), (0, u "(I)Ljava/lang/Object;"), (2, u "size"), (0, u "()I"), (22, .class_ 104), (0, u "java/lang/Object"), (15, .class_ 121), (0, u "java/util/SequencedCollection")] 129

def k13m0 : Method := { name := "size", desc := "()I", sig := { parameters := [], returnType := some .int }, accessFlags := 1025, code := none }
def k13m1 : Method := { name := "add", desc := "(Ljava/lang/Object;)Z", sig := { parameters := [(.object "java/lang/Object")], returnType := some .boolean }, accessFlags := 1025, code := none }
def k13m2 : Method := { name := "get", desc := "(I)Ljava/lang/Object;", sig := { parameters := [.int], returnType := some (.object "java/lang/Object") }, accessFlags := 1025, code := none }
/-- java/util/List -/
def k13 : Class := { plain "java/util/List" (some 0) with
  accessFlags := 1537
  interfaces := #[12]
  cf := some (fileOf pool13 8 #[] #[{ accessFlags := 1025, nameIndex := 79, descriptorIndex := 80, attributes := #[] }, { accessFlags := 1025, nameIndex := 60, descriptorIndex := 64, attributes := #[] }, { accessFlags := 1025, nameIndex := 75, descriptorIndex := 76, attributes := #[] }] 1537 103 #[120] #[])
  fields := #[]
  methods := #[k13m0, k13m1, k13m2]
  instanceTypes := #[]
  staticTypes := #[]
  resolved := Array.replicate 251 none
  statics := none }

def pool14 : Array CpInfo := pool [(1, .methodref 2 3), (0, .class_ 4), (0, .nameAndType 5 6), (0, u "java/util/AbstractCollection"), (0, u "<init>"), (0, u "()V"), (0, .fieldref 8 9), (0, .class_ 10), (0, .nameAndType 11 12), (0, u "java/util/AbstractList"), (0, u "modCount"), (0, u "I"), (64, .class_ 78), (0, u "java/util/AbstractList$Itr"), (3, .class_ 83), (0, u "java/util/AbstractList$ListItr"), (9, .class_ 94), (0, u "java/util/AbstractList$RandomAccessSubList"), (3, .class_ 99), (0, u "java/util/AbstractList$SubList"), (33, .class_ 134), (0, u "java/util/List"), (73, .class_ 209), (0, u "java/util/AbstractList$SubList$1"), (0, .class_ 211), (0, u "java/util/AbstractList$RandomAccessSpliterator")] 6

def k14c0 : Code := { maxStack := 2, maxLocals := 1, code := jdk_39_method_1_code, exceptionTable := #[], attributes := #[] }
def k14m0 : Method := { name := "<init>", desc := "()V", sig := { parameters := [], returnType := none }, accessFlags := 4, code := some k14c0 }
/-- java/util/AbstractList -/
def k14 : Class := { plain "java/util/AbstractList" (some 11) with
  accessFlags := 1057
  interfaces := #[13]
  cf := some (fileOf pool14 8 #[.nestMembers #[93, 98, 208, 210, 82, 77]] #[{ accessFlags := 4, nameIndex := 5, descriptorIndex := 6, attributes := #[] }] 1057 2 #[133] #[{ accessFlags := 132, nameIndex := 11, descriptorIndex := 12, attributes := #[] }])
  fields := #[{ name := "modCount", type := .int, accessFlags := 132, slot := 0, constantValue := 0 }]
  methods := #[k14m0]
  instanceTypes := #[.int]
  staticTypes := #[]
  resolved := Array.replicate 218 none
  statics := none }

def pool15 : Array CpInfo := pool [(1, .class_ 2), (0, u "java/util/RandomAccess"), (0, .class_ 4), (0, u "java/lang/Object")] 2

/-- java/util/RandomAccess -/
def k15 : Class := { plain "java/util/RandomAccess" (some 0) with
  accessFlags := 1537
  interfaces := #[]
  cf := some (fileOf pool15 1 #[] #[] 1537 3 #[] #[])
  fields := #[]
  methods := #[]
  instanceTypes := #[]
  staticTypes := #[]
  resolved := Array.replicate 7 none
  statics := none }

def pool16 : Array CpInfo := pool [(1, .class_ 2), (0, u "java/lang/Cloneable"), (0, .class_ 4), (0, u "java/lang/Object")] 2

/-- java/lang/Cloneable -/
def k16 : Class := { plain "java/lang/Cloneable" (some 0) with
  accessFlags := 1537
  interfaces := #[]
  cf := some (fileOf pool16 1 #[] #[] 1537 3 #[] #[])
  fields := #[]
  methods := #[]
  instanceTypes := #[]
  staticTypes := #[]
  resolved := Array.replicate 7 none
  statics := none }

def pool17 : Array CpInfo := pool [(1, .methodref 2 3), (0, .class_ 4), (0, .nameAndType 5 6), (0, u "java/util/AbstractList"), (0, u "<init>"), (0, u "()V"), (0, .class_ 8), (0, u "java/lang/Object"), (0, .fieldref 10 11), (0, .class_ 12), (0, .nameAndType 13 14), (0, u "java/util/ArrayList"), (0, u "elementData"), (0, u "[Ljava/lang/Object;"), (2, u "EMPTY_ELEMENTDATA"), (21, .fieldref 10 40), (0, .nameAndType 41 14), (0, u "DEFAULTCAPACITY_EMPTY_ELEMENTDATA"), (5, u "()[Ljava/lang/Object;"), (0, .fieldref 10 49), (0, .nameAndType 50 51), (0, u "size"), (0, u "I"), (11, .fieldref 10 64), (0, .nameAndType 65 51), (0, u "modCount"), (3, .methodref 10 70), (0, .nameAndType 71 72), (0, u "grow"), (0, u "(I)[Ljava/lang/Object;"), (6, .methodref 80 81), (0, .class_ 82), (0, .nameAndType 83 84), (0, u "java/lang/Math"), (0, u "max"), (0, u "(II)I"), (11, u "(Ljava/lang/Object;)Z"), (21, .methodref 119 120), (0, .class_ 121), (0, .nameAndType 122 84), (0, u "java/util/Objects"), (0, u "checkIndex"), (0, .methodref 10 124), (0, .nameAndType 13 125), (0, u "(I)Ljava/lang/Object;"), (3, .methodref 10 130), (0, .nameAndType 71 47), (0, .methodref 10 132), (0, .nameAndType 133 134), (0, u "add"), (0, u "(Ljava/lang/Object;[Ljava/lang/Object;I)V"), (13, .class_ 149), (0, u "java/util/List"), (36, u "()I"), (75, .class_ 263), (0, u "java/util/ArrayList$ListItr"), (3, .class_ 268), (0, u "java/util/ArrayList$Itr"), (7, .class_ 277), (0, u "java/util/ArrayList$SubList"), (12, .class_ 291), (0, u "java/util/ArrayList$ArrayListSpliterator"), (37, .class_ 330), (0, u "java/util/RandomAccess"), (0, .class_ 332), (0, u "java/lang/Cloneable"), (0, .class_ 334), (0, u "java/io/Serializable"), (0, u "serialVersionUID"), (0, u "J"), (3, u "DEFAULT_CAPACITY"), (40, u "get"), (118, .class_ 501), (0, u "java/util/ArrayList$SubList$2"), (0, .class_ 503), (0, u "java/util/ArrayList$SubList$1")] 5

def k17c0 : Code := { maxStack := 2, maxLocals := 1, code := jdk_38_method_2_code, exceptionTable := #[], attributes := #[] }
def k17m0 : Method := { name := "<init>", desc := "()V", sig := { parameters := [], returnType := none }, accessFlags := 1, code := some k17c0 }
def k17c1 : Code := { maxStack := 4, maxLocals := 4, code := jdk_38_method_6_code, exceptionTable := #[], attributes := #[] }
def k17m1 : Method := { name := "grow", desc := "(I)[Ljava/lang/Object;", sig := { parameters := [.int], returnType := some (.array (.object "java/lang/Object")) }, accessFlags := 2, code := some k17c1 }
def k17c2 : Code := { maxStack := 3, maxLocals := 1, code := jdk_38_method_7_code, exceptionTable := #[], attributes := #[] }
def k17m2 : Method := { name := "grow", desc := "()[Ljava/lang/Object;", sig := { parameters := [], returnType := some (.array (.object "java/lang/Object")) }, accessFlags := 2, code := some k17c2 }
def k17c3 : Code := { maxStack := 1, maxLocals := 1, code := jdk_38_method_8_code, exceptionTable := #[], attributes := #[] }
def k17m3 : Method := { name := "size", desc := "()I", sig := { parameters := [], returnType := some .int }, accessFlags := 1, code := some k17c3 }
def k17c4 : Code := { maxStack := 2, maxLocals := 2, code := jdk_38_method_18_code, exceptionTable := #[], attributes := #[] }
def k17m4 : Method := { name := "elementData", desc := "(I)Ljava/lang/Object;", sig := { parameters := [.int], returnType := some (.object "java/lang/Object") }, accessFlags := 0, code := some k17c4 }
def k17c5 : Code := { maxStack := 2, maxLocals := 2, code := jdk_38_method_20_code, exceptionTable := #[], attributes := #[] }
def k17m5 : Method := { name := "get", desc := "(I)Ljava/lang/Object;", sig := { parameters := [.int], returnType := some (.object "java/lang/Object") }, accessFlags := 1, code := some k17c5 }
def k17c6 : Code := { maxStack := 3, maxLocals := 4, code := jdk_38_method_24_code, exceptionTable := #[], attributes := #[] }
def k17m6 : Method := { name := "add", desc := "(Ljava/lang/Object;[Ljava/lang/Object;I)V", sig := { parameters := [(.object "java/lang/Object"), (.array (.object "java/lang/Object")), .int], returnType := none }, accessFlags := 2, code := some k17c6 }
def k17c7 : Code := { maxStack := 4, maxLocals := 2, code := jdk_38_method_25_code, exceptionTable := #[], attributes := #[] }
def k17m7 : Method := { name := "add", desc := "(Ljava/lang/Object;)Z", sig := { parameters := [(.object "java/lang/Object")], returnType := some .boolean }, accessFlags := 1, code := some k17c7 }
/-- java/util/ArrayList -/
def k17 : Class := { plain "java/util/ArrayList" (some 14) with
  accessFlags := 33
  interfaces := #[13, 15, 16, 2]
  cf := some (fileOf pool17 10 #[.nestMembers #[290, 276, 500, 502, 262, 267]] #[{ accessFlags := 1, nameIndex := 5, descriptorIndex := 6, attributes := #[] }, { accessFlags := 2, nameIndex := 71, descriptorIndex := 72, attributes := #[] }, { accessFlags := 2, nameIndex := 71, descriptorIndex := 47, attributes := #[] }, { accessFlags := 1, nameIndex := 50, descriptorIndex := 186, attributes := #[] }, { accessFlags := 0, nameIndex := 13, descriptorIndex := 125, attributes := #[] }, { accessFlags := 1, nameIndex := 381, descriptorIndex := 125, attributes := #[] }, { accessFlags := 2, nameIndex := 133, descriptorIndex := 134, attributes := #[] }, { accessFlags := 1, nameIndex := 133, descriptorIndex := 96, attributes := #[] }] 33 2 #[148, 329, 331, 333] #[{ accessFlags := 26, nameIndex := 335, descriptorIndex := 336, attributes := #[] }, { accessFlags := 26, nameIndex := 340, descriptorIndex := 51, attributes := #[] }, { accessFlags := 26, nameIndex := 17, descriptorIndex := 14, attributes := #[] }, { accessFlags := 26, nameIndex := 41, descriptorIndex := 14, attributes := #[] }, { accessFlags := 128, nameIndex := 13, descriptorIndex := 14, attributes := #[] }, { accessFlags := 2, nameIndex := 50, descriptorIndex := 51, attributes := #[] }])
  fields := #[{ name := "serialVersionUID", type := .long, accessFlags := 26, slot := 0, constantValue := 0 }, { name := "DEFAULT_CAPACITY", type := .int, accessFlags := 26, slot := 1, constantValue := 0 }, { name := "EMPTY_ELEMENTDATA", type := (.array (.object "java/lang/Object")), accessFlags := 26, slot := 2, constantValue := 0 }, { name := "DEFAULTCAPACITY_EMPTY_ELEMENTDATA", type := (.array (.object "java/lang/Object")), accessFlags := 26, slot := 3, constantValue := 0 }, { name := "elementData", type := (.array (.object "java/lang/Object")), accessFlags := 128, slot := 1, constantValue := 0 }, { name := "size", type := .int, accessFlags := 2, slot := 2, constantValue := 0 }]
  methods := #[k17m0, k17m1, k17m2, k17m3, k17m4, k17m5, k17m6, k17m7]
  instanceTypes := #[.int, (.array (.object "java/lang/Object")), .int]
  staticTypes := #[.long, .int, (.array (.object "java/lang/Object")), (.array (.object "java/lang/Object"))]
  resolved := Array.replicate 509 none
  statics := some 1 }

def pool18 : Array CpInfo := pool [(1, .class_ 2), (0, u "java/lang/Math"), (1, .class_ 6), (1, u "java/lang/Object"), (0, u "<init>"), (0, u "()V"), (89, .class_ 100), (1, u "java/lang/Math$RandomNumberGeneratorHolder"), (71, u "negativeZeroFloatBits"), (0, u "J"), (2, u "negativeZeroDoubleBits"), (21, u "max"), (46, u "$assertionsDisabled"), (0, u "Z"), (88, u "(II)I"), (2, u "twoToTheDoubleScaleDown"), (0, u "D"), (4, u "twoToTheDoubleScaleUp"), (9, u "E"), (3, u "PI"), (2, u "TAU"), (2, u "DEGREES_TO_RADIANS"), (0, u "RADIANS_TO_DEGREES")] 94

def k18m0 : Method := { name := "<init>", desc := "()V", sig := { parameters := [], returnType := none }, accessFlags := 2, code := none }
def k18c1 : Code := { maxStack := 2, maxLocals := 2, code := jdk_29_method_65_code, exceptionTable := #[], attributes := #[] }
def k18m1 : Method := { name := "max", desc := "(II)I", sig := { parameters := [.int, .int], returnType := some .int }, accessFlags := 9, code := some k18c1 }
/-- java/lang/Math -/
def k18 : Class := { plain "java/lang/Math" (some 0) with
  accessFlags := 49
  interfaces := #[]
  cf := some (fileOf pool18 1 #[.nestMembers #[98]] #[{ accessFlags := 2, nameIndex := 7, descriptorIndex := 8, attributes := #[] }, { accessFlags := 9, nameIndex := 198, descriptorIndex := 335, attributes := #[] }] 49 4 #[] #[{ accessFlags := 25, nameIndex := 354, descriptorIndex := 339, attributes := #[] }, { accessFlags := 25, nameIndex := 358, descriptorIndex := 339, attributes := #[] }, { accessFlags := 25, nameIndex := 361, descriptorIndex := 339, attributes := #[] }, { accessFlags := 26, nameIndex := 364, descriptorIndex := 339, attributes := #[] }, { accessFlags := 26, nameIndex := 365, descriptorIndex := 339, attributes := #[] }, { accessFlags := 26, nameIndex := 172, descriptorIndex := 173, attributes := #[] }, { accessFlags := 26, nameIndex := 176, descriptorIndex := 173, attributes := #[] }, { accessFlags := 8, nameIndex := 344, descriptorIndex := 339, attributes := #[] }, { accessFlags := 8, nameIndex := 338, descriptorIndex := 339, attributes := #[] }, { accessFlags := 4120, nameIndex := 245, descriptorIndex := 246, attributes := #[] }])
  fields := #[{ name := "E", type := .double, accessFlags := 25, slot := 0, constantValue := 0 }, { name := "PI", type := .double, accessFlags := 25, slot := 1, constantValue := 0 }, { name := "TAU", type := .double, accessFlags := 25, slot := 2, constantValue := 0 }, { name := "DEGREES_TO_RADIANS", type := .double, accessFlags := 26, slot := 3, constantValue := 0 }, { name := "RADIANS_TO_DEGREES", type := .double, accessFlags := 26, slot := 4, constantValue := 0 }, { name := "negativeZeroFloatBits", type := .long, accessFlags := 26, slot := 5, constantValue := 0 }, { name := "negativeZeroDoubleBits", type := .long, accessFlags := 26, slot := 6, constantValue := 0 }, { name := "twoToTheDoubleScaleUp", type := .double, accessFlags := 8, slot := 7, constantValue := 0 }, { name := "twoToTheDoubleScaleDown", type := .double, accessFlags := 8, slot := 8, constantValue := 0 }, { name := "$assertionsDisabled", type := .boolean, accessFlags := 4120, slot := 9, constantValue := 0 }]
  methods := #[k18m0, k18m1]
  instanceTypes := #[]
  staticTypes := #[.double, .double, .double, .double, .double, .long, .long, .double, .double, .boolean]
  resolved := Array.replicate 460 none
  statics := none }

def pool19 : Array CpInfo := pool [(2, .class_ 4), (1, u "java/lang/Object"), (0, u "<init>"), (0, u "()V"), (0, .interfaceMethodref 8 9), (0, .class_ 10), (0, .nameAndType 11 12), (0, u "java/util/List"), (0, u "size"), (0, u "()I"), (9, .interfaceMethodref 8 23), (0, .nameAndType 24 25), (0, u "get"), (0, u "(I)Ljava/lang/Object;"), (0, .class_ 27), (0, u "java/lang/String"), (23, .class_ 53), (1, u "com/example/strict_split/strictsplit/cli/Arguments"), (4, u "value"), (0, u "(Ljava/util/List;ILjava/lang/String;)Ljava/lang/String;")] 34

def k19m0 : Method := { name := "<init>", desc := "()V", sig := { parameters := [], returnType := none }, accessFlags := 2, code := none }
def k19c1 : Code := { maxStack := 3, maxLocals := 3, code := prog_1_method_2_code, exceptionTable := #[], attributes := #[] }
def k19m1 : Method := { name := "value", desc := "(Ljava/util/List;ILjava/lang/String;)Ljava/lang/String;", sig := { parameters := [(.object "java/util/List"), .int, (.object "java/lang/String")], returnType := some (.object "java/lang/String") }, accessFlags := 8, code := some k19c1 }
/-- com/example/strict_split/strictsplit/cli/Arguments -/
def k19 : Class := { plain "com/example/strict_split/strictsplit/cli/Arguments" (some 0) with
  accessFlags := 48
  interfaces := #[]
  cf := some (fileOf pool19 51 #[] #[{ accessFlags := 2, nameIndex := 5, descriptorIndex := 6, attributes := #[] }, { accessFlags := 8, nameIndex := 58, descriptorIndex := 59, attributes := #[] }] 48 2 #[] #[])
  fields := #[]
  methods := #[k19m0, k19m1]
  instanceTypes := #[]
  staticTypes := #[]
  resolved := Array.replicate 94 none
  statics := none }

def pool20 : Array CpInfo := pool [(2, .class_ 4), (1, u "java/lang/Object"), (0, u "<init>"), (0, u "()V"), (35, .class_ 44), (1, u "java/util/Objects"), (60, .methodref 106 107), (0, .class_ 108), (0, .nameAndType 109 110), (0, u "jdk/internal/util/Preconditions"), (0, u "checkIndex"), (0, u "(IILjava/util/function/BiFunction;)I"), (60, u "(II)I")] 12

def k20m0 : Method := { name := "<init>", desc := "()V", sig := { parameters := [], returnType := none }, accessFlags := 2, code := none }
def k20c1 : Code := { maxStack := 3, maxLocals := 2, code := jdk_31_method_17_code, exceptionTable := #[], attributes := #[] }
def k20m1 : Method := { name := "checkIndex", desc := "(II)I", sig := { parameters := [.int, .int], returnType := some .int }, accessFlags := 9, code := some k20c1 }
/-- java/util/Objects -/
def k20 : Class := { plain "java/util/Objects" (some 0) with
  accessFlags := 49
  interfaces := #[]
  cf := some (fileOf pool20 42 #[] #[{ accessFlags := 2, nameIndex := 5, descriptorIndex := 6, attributes := #[] }, { accessFlags := 9, nameIndex := 109, descriptorIndex := 171, attributes := #[] }] 49 2 #[] #[])
  fields := #[]
  methods := #[k20m0, k20m1]
  instanceTypes := #[]
  staticTypes := #[]
  resolved := Array.replicate 184 none
  statics := none }

def pool21 : Array CpInfo := pool [(2, .class_ 4), (1, u "java/lang/Object"), (0, u "<init>"), (0, u "()V"), (17, .class_ 26), (1, u "jdk/internal/util/Preconditions"), (6, u "checkIndex"), (21, .class_ 56), (0, u "jdk/internal/util/Preconditions$4"), (57, .class_ 115), (0, u "jdk/internal/util/Preconditions$1"), (7, u "SIOOBE_FORMATTER"), (0, u "Ljava/util/function/BiFunction;"), (0, .class_ 126), (0, u "jdk/internal/util/Preconditions$2"), (3, u "AIOOBE_FORMATTER"), (0, .class_ 132), (0, u "jdk/internal/util/Preconditions$3"), (3, u "IOOBE_FORMATTER"), (41, u "(IILjava/util/function/BiFunction;)I")] 15

def k21m0 : Method := { name := "<init>", desc := "()V", sig := { parameters := [], returnType := none }, accessFlags := 1, code := none }
def k21c1 : Code := { maxStack := 3, maxLocals := 3, code := jdk_41_method_11_code, exceptionTable := #[], attributes := #[] }
def k21m1 : Method := { name := "checkIndex", desc := "(IILjava/util/function/BiFunction;)I", sig := { parameters := [.int, .int, (.object "java/util/function/BiFunction")], returnType := some .int }, accessFlags := 9, code := some k21c1 }
/-- jdk/internal/util/Preconditions -/
def k21 : Class := { plain "jdk/internal/util/Preconditions" (some 0) with
  accessFlags := 33
  interfaces := #[]
  cf := some (fileOf pool21 24 #[.nestMembers #[55, 131, 125, 114]] #[{ accessFlags := 1, nameIndex := 5, descriptorIndex := 6, attributes := #[] }, { accessFlags := 9, nameIndex := 33, descriptorIndex := 178, attributes := #[] }] 33 2 #[] #[{ accessFlags := 25, nameIndex := 123, descriptorIndex := 124, attributes := #[] }, { accessFlags := 25, nameIndex := 130, descriptorIndex := 124, attributes := #[] }, { accessFlags := 25, nameIndex := 136, descriptorIndex := 124, attributes := #[] }])
  fields := #[{ name := "SIOOBE_FORMATTER", type := (.object "java/util/function/BiFunction"), accessFlags := 25, slot := 0, constantValue := 0 }, { name := "AIOOBE_FORMATTER", type := (.object "java/util/function/BiFunction"), accessFlags := 25, slot := 1, constantValue := 0 }, { name := "IOOBE_FORMATTER", type := (.object "java/util/function/BiFunction"), accessFlags := 25, slot := 2, constantValue := 0 }]
  methods := #[k21m0, k21m1]
  instanceTypes := #[]
  staticTypes := #[(.object "java/util/function/BiFunction"), (.object "java/util/function/BiFunction"), (.object "java/util/function/BiFunction")]
  resolved := Array.replicate 194 none
  statics := some 2 }

def pool22 : Array CpInfo := pool [(4, .class_ 6), (1, u "java/lang/Object"), (0, u "<init>"), (0, u "()V"), (5, .class_ 16), (1, u "java/lang/StringLatin1"), (104, u "$assertionsDisabled"), (0, u "Z"), (98, .class_ 223), (1, u "java/lang/StringLatin1$LinesSpliterator"), (166, .class_ 391), (0, u "java/lang/StringLatin1$CharsSpliterator")] 3

def k22m0 : Method := { name := "<init>", desc := "()V", sig := { parameters := [], returnType := none }, accessFlags := 0, code := none }
/-- java/lang/StringLatin1 -/
def k22 : Class := { plain "java/lang/StringLatin1" (some 0) with
  accessFlags := 48
  interfaces := #[]
  cf := some (fileOf pool22 14 #[.nestMembers #[390, 221]] #[{ accessFlags := 0, nameIndex := 7, descriptorIndex := 8, attributes := #[] }] 48 4 #[] #[{ accessFlags := 4120, nameIndex := 121, descriptorIndex := 122, attributes := #[] }])
  fields := #[{ name := "$assertionsDisabled", type := .boolean, accessFlags := 4120, slot := 0, constantValue := 0 }]
  methods := #[k22m0]
  instanceTypes := #[]
  staticTypes := #[.boolean]
  resolved := Array.replicate 395 none
  statics := none }

def pool23 : Array CpInfo := pool [(9, u "<init>"), (6, .class_ 18), (1, u "java/lang/Object"), (0, u "()V"), (1, .class_ 23), (1, u "jdk/internal/util/ArraysSupport"), (0, u "LOG2_ARRAY_LONG_INDEX_SCALE"), (0, u "I"), (2, u "U"), (0, u "Ljdk/internal/misc/Unsafe;"), (8, u "BIG_ENDIAN"), (0, u "Z"), (8, u "LOG2_BYTE_BIT_SIZE"), (4, u "LOG2_ARRAY_INT_INDEX_SCALE"), (54, u "JLA"), (0, u "Ljdk/internal/access/JavaLangAccess;"), (11, u "LOG2_ARRAY_BOOLEAN_INDEX_SCALE"), (9, u "LOG2_ARRAY_BYTE_INDEX_SCALE"), (5, u "LOG2_ARRAY_CHAR_INDEX_SCALE"), (5, u "LOG2_ARRAY_SHORT_INDEX_SCALE"), (18, u "LOG2_ARRAY_FLOAT_INDEX_SCALE"), (24, u "LOG2_ARRAY_DOUBLE_INDEX_SCALE"), (89, u "T_BOOLEAN"), (2, u "T_CHAR"), (1, u "T_FLOAT"), (1, u "T_DOUBLE"), (1, u "T_BYTE"), (1, u "T_SHORT"), (1, u "T_INT"), (1, u "T_LONG"), (1, u "SOFT_MAX_ARRAY_LENGTH")] 83

def k23m0 : Method := { name := "<init>", desc := "()V", sig := { parameters := [], returnType := none }, accessFlags := 2, code := none }
/-- jdk/internal/util/ArraysSupport -/
def k23 : Class := { plain "jdk/internal/util/ArraysSupport" (some 0) with
  accessFlags := 33
  interfaces := #[]
  cf := some (fileOf pool23 21 #[] #[{ accessFlags := 2, nameIndex := 9, descriptorIndex := 19, attributes := #[] }] 33 16 #[] #[{ accessFlags := 24, nameIndex := 28, descriptorIndex := 29, attributes := #[] }, { accessFlags := 26, nameIndex := 38, descriptorIndex := 39, attributes := #[] }, { accessFlags := 25, nameIndex := 121, descriptorIndex := 25, attributes := #[] }, { accessFlags := 25, nameIndex := 131, descriptorIndex := 25, attributes := #[] }, { accessFlags := 25, nameIndex := 137, descriptorIndex := 25, attributes := #[] }, { accessFlags := 25, nameIndex := 143, descriptorIndex := 25, attributes := #[] }, { accessFlags := 25, nameIndex := 53, descriptorIndex := 25, attributes := #[] }, { accessFlags := 25, nameIndex := 24, descriptorIndex := 25, attributes := #[] }, { accessFlags := 25, nameIndex := 162, descriptorIndex := 25, attributes := #[] }, { accessFlags := 25, nameIndex := 187, descriptorIndex := 25, attributes := #[] }, { accessFlags := 26, nameIndex := 48, descriptorIndex := 25, attributes := #[] }, { accessFlags := 25, nameIndex := 277, descriptorIndex := 25, attributes := #[] }, { accessFlags := 25, nameIndex := 280, descriptorIndex := 25, attributes := #[] }, { accessFlags := 25, nameIndex := 282, descriptorIndex := 25, attributes := #[] }, { accessFlags := 25, nameIndex := 284, descriptorIndex := 25, attributes := #[] }, { accessFlags := 25, nameIndex := 286, descriptorIndex := 25, attributes := #[] }, { accessFlags := 25, nameIndex := 288, descriptorIndex := 25, attributes := #[] }, { accessFlags := 25, nameIndex := 290, descriptorIndex := 25, attributes := #[] }, { accessFlags := 25, nameIndex := 292, descriptorIndex := 25, attributes := #[] }, { accessFlags := 26, nameIndex := 108, descriptorIndex := 109, attributes := #[] }, { accessFlags := 25, nameIndex := 294, descriptorIndex := 25, attributes := #[] }])
  fields := #[{ name := "U", type := (.object "jdk/internal/misc/Unsafe"), accessFlags := 24, slot := 0, constantValue := 0 }, { name := "BIG_ENDIAN", type := .boolean, accessFlags := 26, slot := 1, constantValue := 0 }, { name := "LOG2_ARRAY_BOOLEAN_INDEX_SCALE", type := .int, accessFlags := 25, slot := 2, constantValue := 0 }, { name := "LOG2_ARRAY_BYTE_INDEX_SCALE", type := .int, accessFlags := 25, slot := 3, constantValue := 0 }, { name := "LOG2_ARRAY_CHAR_INDEX_SCALE", type := .int, accessFlags := 25, slot := 4, constantValue := 0 }, { name := "LOG2_ARRAY_SHORT_INDEX_SCALE", type := .int, accessFlags := 25, slot := 5, constantValue := 0 }, { name := "LOG2_ARRAY_INT_INDEX_SCALE", type := .int, accessFlags := 25, slot := 6, constantValue := 0 }, { name := "LOG2_ARRAY_LONG_INDEX_SCALE", type := .int, accessFlags := 25, slot := 7, constantValue := 0 }, { name := "LOG2_ARRAY_FLOAT_INDEX_SCALE", type := .int, accessFlags := 25, slot := 8, constantValue := 0 }, { name := "LOG2_ARRAY_DOUBLE_INDEX_SCALE", type := .int, accessFlags := 25, slot := 9, constantValue := 0 }, { name := "LOG2_BYTE_BIT_SIZE", type := .int, accessFlags := 26, slot := 10, constantValue := 0 }, { name := "T_BOOLEAN", type := .int, accessFlags := 25, slot := 11, constantValue := 0 }, { name := "T_CHAR", type := .int, accessFlags := 25, slot := 12, constantValue := 0 }, { name := "T_FLOAT", type := .int, accessFlags := 25, slot := 13, constantValue := 0 }, { name := "T_DOUBLE", type := .int, accessFlags := 25, slot := 14, constantValue := 0 }, { name := "T_BYTE", type := .int, accessFlags := 25, slot := 15, constantValue := 0 }, { name := "T_SHORT", type := .int, accessFlags := 25, slot := 16, constantValue := 0 }, { name := "T_INT", type := .int, accessFlags := 25, slot := 17, constantValue := 0 }, { name := "T_LONG", type := .int, accessFlags := 25, slot := 18, constantValue := 0 }, { name := "JLA", type := (.object "jdk/internal/access/JavaLangAccess"), accessFlags := 26, slot := 19, constantValue := 0 }, { name := "SOFT_MAX_ARRAY_LENGTH", type := .int, accessFlags := 25, slot := 20, constantValue := 0 }]
  methods := #[k23m0]
  instanceTypes := #[]
  staticTypes := #[(.object "jdk/internal/misc/Unsafe"), .boolean, .int, .int, .int, .int, .int, .int, .int, .int, .int, .int, .int, .int, .int, .int, .int, .int, .int, (.object "jdk/internal/access/JavaLangAccess"), .int]
  resolved := Array.replicate 378 none
  statics := none }

/-- the primitive byte -/
def k24 : Class := { plain "byte" none with kind := .primitive 'B', accessFlags := 0x411 }
/-- [B -/
def k25 : Class := { plain "[B" (some 0) with kind := .array 24 .byte, interfaces := #[16, 2], accessFlags := 1041 }

/-- the primitive char -/
def k26 : Class := { plain "char" none with kind := .primitive 'C', accessFlags := 0x411 }
/-- [C -/
def k27 : Class := { plain "[C" (some 0) with kind := .array 26 .char, interfaces := #[16, 2], accessFlags := 1041 }

/-- the primitive int -/
def k28 : Class := { plain "int" none with kind := .primitive 'I', accessFlags := 0x411 }
/-- [I -/
def k29 : Class := { plain "[I" (some 0) with kind := .array 28 .int, interfaces := #[16, 2], accessFlags := 1041 }

/-- [Ljava/lang/Object; -/
def k30 : Class := { plain "[Ljava/lang/Object;" (some 0) with kind := .array 0 (.object "java/lang/Object"), interfaces := #[16, 2], accessFlags := 1041 }

def heap : Heap := #[{ cls := 7, slots := #[.long 0, .int 1, .null, .int 0, .null, .int 0, .int 0], vm := .statics 7 },
  { cls := 17, slots := #[.long 0, .int 0, .ref 3, .ref 4], vm := .statics 17 },
  { cls := 21, slots := #[.null, .null, .null], vm := .statics 21 },
  { cls := 30, slots := #[], vm := .none },
  { cls := 30, slots := #[], vm := .none }]
def classes : Array Class := #[k0, k1, k2, k3, k4, k5, k6, k7, k8, k9, k10, k11, k12, k13, k14, k15, k16, k17, k18, k19, k20, k21, k22, k23, k24, k25, k26, k27, k28, k29, k30]
def interned : List (Array UInt16 × Addr) := []
def slotsUsed : Nat := 14
def theMethod : MethodId := ⟨1, 1⟩
def args0 : Array Value := #[.int 1, .int 2, .int 3, .int 4, .int 5, .int 6]
def aboutOver (below : List Frame) : State where
  vm := { classes := classes, interned := interned.toArray }
  heap := heap
  slotsUsed := slotsUsed
  threads := #[{ frames := .invoking theMethod args0 :: below }]
def below0 : List Frame := [.native { method := ⟨0, 0⟩, args := #[] }]
def about1 : State := aboutOver below0
def p0 : Program := .bare "" "" ""
def e0 : Env := launch0.env 0 0 0
theorem w_frames : about1.frames = Frame.invoking theMethod args0 :: below0 := rfl
set_option maxRecDepth 65536 in
theorem w_args : argsFit about1.vm theMethod args0 = true := by decide +kernel
set_option maxRecDepth 65536 in
theorem w_heap : heapFits about1 = true := by decide +kernel
set_option maxRecDepth 65536 in
theorem w_runnable : about1.curStatus? = some .runnable := by decide +kernel
set_option maxRecDepth 65536 in
theorem w_alone : about1.alone = true := by decide +kernel
set_option maxRecDepth 65536 in
theorem w_named : about1.methodNamed? x = some theMethod := by decide +kernel
set_option maxRecDepth 65536 in
theorem w_hears : about1.hears theMethod below0 = true := by decide +kernel
set_option maxRecDepth 65536 in
theorem w_ripe : about1.ripe theMethod args0 below0 = true := by decide +kernel
theorem w_running : about1.status = .running := rfl
set_option maxRecDepth 65536 in
theorem w_room : about1.hasRoom e0.platform room_1 = true :=
  launch0.hasRoom_least _ room_1 (by decide +kernel) (by decide +kernel) (by decide +kernel) (by decide +kernel) (by decide +kernel) (by decide +kernel)
theorem allAtoms_all (ts : List Jvm.Cond) (a : Array Jvm.Value) (st : Jvm.State) : (allAtoms ts).before a st = ts.all (fun c => c.before a st) := by
  induction ts with
  | nil => rfl
  | cons c t ih =>
    show (Jvm.Cond.and c (allAtoms t)).before a st = _
    rw [Jvm.Cond.before_and, ih, List.all_cons]
def words1 : List Jvm.Cond := Jvm.Cond.code x code maxLocals ret :: tables_1
/-- a 'code' word, met by the world's own term for the bytes: nothing is compared byte by byte -/
theorem code_word {y : MethodName} {bytes : ByteArray} {mx : Nat} {rt : Option FieldType} {a : Array Value} {s : State} {m : MethodId} {meth : Method} {c : Code} (h1 : s.methodNamed? y = some m) (h2 : s.vm.method? m = some meth) (h3 : meth.code = some c) (h4 : c.code = bytes)
    (h5 : (c.maxLocals == mx && c.exceptionTable.isEmpty && decide (c.maxStack ≤ mostOperands) && decide (meth.sig.returnType = rt) && !meth.locks && decide (parseMethodDescriptor y.desc = some meth.sig)) = true) : (Jvm.Cond.code y bytes mx rt).before a s = true := by
  simp only [Bool.and_eq_true, beq_iff_eq, Bool.not_eq_true', decide_eq_true_eq] at h5
  obtain ⟨⟨⟨⟨⟨g1, g2⟩, g3⟩, g4⟩, g5⟩, g6⟩ := h5
  simp [Cond.before, Cond.holds, Cond.value, h1, h2, h3, h4, g1, g2, g3, g4, g5, g6]
def isCode : Jvm.Cond → Bool
  | .code _ _ _ _ => true
  | _ => false
theorem all_split {L : List Jvm.Cond} {P : Jvm.Cond → Bool} (h1 : L.all (fun c => isCode c || P c) = true) (h2 : ∀ c ∈ L.filter isCode, P c = true) : L.all P = true := by
  refine List.all_eq_true.mpr fun c hc => ?_
  have h := List.all_eq_true.mp h1 c hc
  rcases Bool.eq_false_or_eq_true (isCode c) with hi | hi
  · exact h2 c (List.mem_filter.mpr ⟨hc, hi⟩)
  · simpa [hi] using h
set_option maxRecDepth 65536 in
theorem w_c0 : (Jvm.Cond.code x code maxLocals ret).before args0 about1 = true := code_word (m := ⟨1, 1⟩) (meth := k1m1) (c := k1c1) (by decide +kernel) rfl rfl rfl (by decide +kernel)
set_option maxRecDepth 65536 in
theorem w_c1 : (Jvm.Cond.code ({ cls := "com/example/strict_split/strictsplit/cli/ArgumentsValuePinLaw", name := "word", desc := "(I)Ljava/lang/String;" } : Jvm.MethodName) method_3_code (2 : Nat) (Option.some (Jvm.ClassFile.FieldType.object "java/lang/String"))).before args0 about1 = true := code_word (m := ⟨1, 2⟩) (meth := k1m2) (c := k1c2) (by decide +kernel) rfl rfl rfl (by decide +kernel)
set_option maxRecDepth 65536 in
theorem w_c2 : (Jvm.Cond.code ({ cls := "java/lang/String", name := "<init>", desc := "([C)V" } : Jvm.MethodName) jdk_42_method_3_code (2 : Nat) (Option.none : Option Jvm.ClassFile.FieldType)).before args0 about1 = true := code_word (m := ⟨7, 1⟩) (meth := k7m1) (c := k7c1) (by decide +kernel) rfl rfl rfl (by decide +kernel)
set_option maxRecDepth 65536 in
theorem w_c3 : (Jvm.Cond.code ({ cls := "java/lang/String", name := "<init>", desc := "([CIILjava/lang/Void;)V" } : Jvm.MethodName) jdk_42_method_149_code (6 : Nat) (Option.none : Option Jvm.ClassFile.FieldType)).before args0 about1 = true := code_word (m := ⟨7, 3⟩) (meth := k7m3) (c := k7c3) (by decide +kernel) rfl rfl rfl (by decide +kernel)
set_option maxRecDepth 65536 in
theorem w_c4 : (Jvm.Cond.code ({ cls := "java/lang/Object", name := "<init>", desc := "()V" } : Jvm.MethodName) object_method_1_code (1 : Nat) (Option.none : Option Jvm.ClassFile.FieldType)).before args0 about1 = true := code_word (m := ⟨0, 0⟩) (meth := k0m0) (c := k0c0) (by decide +kernel) rfl rfl rfl (by decide +kernel)
set_option maxRecDepth 65536 in
theorem w_c5 : (Jvm.Cond.code ({ cls := "java/lang/StringUTF16", name := "compress", desc := "([CII)[B" } : Jvm.MethodName) jdk_52_method_16_code (6 : Nat) (Option.some (Jvm.ClassFile.FieldType.array Jvm.ClassFile.FieldType.byte))).before args0 about1 = true := code_word (m := ⟨8, 2⟩) (meth := k8m2) (c := k8c2) (by decide +kernel) rfl rfl rfl (by decide +kernel)
set_option maxRecDepth 65536 in
theorem w_c6 : (Jvm.Cond.code ({ cls := "java/lang/StringUTF16", name := "compress", desc := "([CI[BII)I" } : Jvm.MethodName) jdk_52_method_21_code (7 : Nat) (Option.some Jvm.ClassFile.FieldType.int)).before args0 about1 = true := code_word (m := ⟨8, 3⟩) (meth := k8m3) (c := k8c3) (by decide +kernel) rfl rfl rfl (by decide +kernel)
set_option maxRecDepth 65536 in
theorem w_c7 : (Jvm.Cond.code ({ cls := "java/lang/StringUTF16", name := "coderFromArrayLen", desc := "([BI)B" } : Jvm.MethodName) jdk_52_method_15_code (2 : Nat) (Option.some Jvm.ClassFile.FieldType.byte)).before args0 about1 = true := code_word (m := ⟨8, 1⟩) (meth := k8m1) (c := k8c1) (by decide +kernel) rfl rfl rfl (by decide +kernel)
set_option maxRecDepth 65536 in
theorem w_c8 : (Jvm.Cond.code ({ cls := "java/util/ArrayList", name := "<init>", desc := "()V" } : Jvm.MethodName) jdk_38_method_2_code (1 : Nat) (Option.none : Option Jvm.ClassFile.FieldType)).before args0 about1 = true := code_word (m := ⟨17, 0⟩) (meth := k17m0) (c := k17c0) (by decide +kernel) rfl rfl rfl (by decide +kernel)
set_option maxRecDepth 65536 in
theorem w_c9 : (Jvm.Cond.code ({ cls := "java/util/AbstractList", name := "<init>", desc := "()V" } : Jvm.MethodName) jdk_39_method_1_code (1 : Nat) (Option.none : Option Jvm.ClassFile.FieldType)).before args0 about1 = true := code_word (m := ⟨14, 0⟩) (meth := k14m0) (c := k14c0) (by decide +kernel) rfl rfl rfl (by decide +kernel)
set_option maxRecDepth 65536 in
theorem w_c10 : (Jvm.Cond.code ({ cls := "java/util/AbstractCollection", name := "<init>", desc := "()V" } : Jvm.MethodName) jdk_22_method_1_code (1 : Nat) (Option.none : Option Jvm.ClassFile.FieldType)).before args0 about1 = true := code_word (m := ⟨11, 0⟩) (meth := k11m0) (c := k11c0) (by decide +kernel) rfl rfl rfl (by decide +kernel)
set_option maxRecDepth 65536 in
theorem w_c11 : (Jvm.Cond.code ({ cls := "java/util/ArrayList", name := "add", desc := "(Ljava/lang/Object;)Z" } : Jvm.MethodName) jdk_38_method_25_code (2 : Nat) (Option.some Jvm.ClassFile.FieldType.boolean)).before args0 about1 = true := code_word (m := ⟨17, 7⟩) (meth := k17m7) (c := k17c7) (by decide +kernel) rfl rfl rfl (by decide +kernel)
set_option maxRecDepth 65536 in
theorem w_c12 : (Jvm.Cond.code ({ cls := "java/util/ArrayList", name := "add", desc := "(Ljava/lang/Object;[Ljava/lang/Object;I)V" } : Jvm.MethodName) jdk_38_method_24_code (4 : Nat) (Option.none : Option Jvm.ClassFile.FieldType)).before args0 about1 = true := code_word (m := ⟨17, 6⟩) (meth := k17m6) (c := k17c6) (by decide +kernel) rfl rfl rfl (by decide +kernel)
set_option maxRecDepth 65536 in
theorem w_c13 : (Jvm.Cond.code ({ cls := "java/util/ArrayList", name := "grow", desc := "()[Ljava/lang/Object;" } : Jvm.MethodName) jdk_38_method_7_code (1 : Nat) (Option.some (Jvm.ClassFile.FieldType.array (Jvm.ClassFile.FieldType.object "java/lang/Object")))).before args0 about1 = true := code_word (m := ⟨17, 2⟩) (meth := k17m2) (c := k17c2) (by decide +kernel) rfl rfl rfl (by decide +kernel)
set_option maxRecDepth 65536 in
theorem w_c14 : (Jvm.Cond.code ({ cls := "java/util/ArrayList", name := "grow", desc := "(I)[Ljava/lang/Object;" } : Jvm.MethodName) jdk_38_method_6_code (4 : Nat) (Option.some (Jvm.ClassFile.FieldType.array (Jvm.ClassFile.FieldType.object "java/lang/Object")))).before args0 about1 = true := code_word (m := ⟨17, 1⟩) (meth := k17m1) (c := k17c1) (by decide +kernel) rfl rfl rfl (by decide +kernel)
set_option maxRecDepth 65536 in
theorem w_c15 : (Jvm.Cond.code ({ cls := "java/lang/Math", name := "max", desc := "(II)I" } : Jvm.MethodName) jdk_29_method_65_code (2 : Nat) (Option.some Jvm.ClassFile.FieldType.int)).before args0 about1 = true := code_word (m := ⟨18, 1⟩) (meth := k18m1) (c := k18c1) (by decide +kernel) rfl rfl rfl (by decide +kernel)
set_option maxRecDepth 65536 in
theorem w_c16 : (Jvm.Cond.code ({ cls := "com/example/strict_split/strictsplit/cli/Arguments", name := "value", desc := "(Ljava/util/List;ILjava/lang/String;)Ljava/lang/String;" } : Jvm.MethodName) prog_1_method_2_code (3 : Nat) (Option.some (Jvm.ClassFile.FieldType.object "java/lang/String"))).before args0 about1 = true := code_word (m := ⟨19, 1⟩) (meth := k19m1) (c := k19c1) (by decide +kernel) rfl rfl rfl (by decide +kernel)
set_option maxRecDepth 65536 in
theorem w_c17 : (Jvm.Cond.code ({ cls := "java/util/ArrayList", name := "size", desc := "()I" } : Jvm.MethodName) jdk_38_method_8_code (1 : Nat) (Option.some Jvm.ClassFile.FieldType.int)).before args0 about1 = true := code_word (m := ⟨17, 3⟩) (meth := k17m3) (c := k17c3) (by decide +kernel) rfl rfl rfl (by decide +kernel)
set_option maxRecDepth 65536 in
theorem w_c18 : (Jvm.Cond.code ({ cls := "java/util/ArrayList", name := "get", desc := "(I)Ljava/lang/Object;" } : Jvm.MethodName) jdk_38_method_20_code (2 : Nat) (Option.some (Jvm.ClassFile.FieldType.object "java/lang/Object"))).before args0 about1 = true := code_word (m := ⟨17, 5⟩) (meth := k17m5) (c := k17c5) (by decide +kernel) rfl rfl rfl (by decide +kernel)
set_option maxRecDepth 65536 in
theorem w_c19 : (Jvm.Cond.code ({ cls := "java/util/Objects", name := "checkIndex", desc := "(II)I" } : Jvm.MethodName) jdk_31_method_17_code (2 : Nat) (Option.some Jvm.ClassFile.FieldType.int)).before args0 about1 = true := code_word (m := ⟨20, 1⟩) (meth := k20m1) (c := k20c1) (by decide +kernel) rfl rfl rfl (by decide +kernel)
set_option maxRecDepth 65536 in
theorem w_c20 : (Jvm.Cond.code ({ cls := "jdk/internal/util/Preconditions", name := "checkIndex", desc := "(IILjava/util/function/BiFunction;)I" } : Jvm.MethodName) jdk_41_method_11_code (3 : Nat) (Option.some Jvm.ClassFile.FieldType.int)).before args0 about1 = true := code_word (m := ⟨21, 1⟩) (meth := k21m1) (c := k21c1) (by decide +kernel) rfl rfl rfl (by decide +kernel)
set_option maxRecDepth 65536 in
theorem w_c21 : (Jvm.Cond.code ({ cls := "java/util/ArrayList", name := "elementData", desc := "(I)Ljava/lang/Object;" } : Jvm.MethodName) jdk_38_method_18_code (2 : Nat) (Option.some (Jvm.ClassFile.FieldType.object "java/lang/Object"))).before args0 about1 = true := code_word (m := ⟨17, 4⟩) (meth := k17m4) (c := k17c4) (by decide +kernel) rfl rfl rfl (by decide +kernel)
set_option maxRecDepth 65536 in
theorem w_c22 : (Jvm.Cond.code ({ cls := "java/lang/String", name := "equals", desc := "(Ljava/lang/Object;)Z" } : Jvm.MethodName) jdk_42_method_66_code (3 : Nat) (Option.some Jvm.ClassFile.FieldType.boolean)).before args0 about1 = true := code_word (m := ⟨7, 2⟩) (meth := k7m2) (c := k7c2) (by decide +kernel) rfl rfl rfl (by decide +kernel)
def codes1 : List Jvm.Cond := [Jvm.Cond.code x code maxLocals ret, Jvm.Cond.code ({ cls := "com/example/strict_split/strictsplit/cli/ArgumentsValuePinLaw", name := "word", desc := "(I)Ljava/lang/String;" } : Jvm.MethodName) method_3_code (2 : Nat) (Option.some (Jvm.ClassFile.FieldType.object "java/lang/String")), Jvm.Cond.code ({ cls := "java/lang/String", name := "<init>", desc := "([C)V" } : Jvm.MethodName) jdk_42_method_3_code (2 : Nat) (Option.none : Option Jvm.ClassFile.FieldType), Jvm.Cond.code ({ cls := "java/lang/String", name := "<init>", desc := "([CIILjava/lang/Void;)V" } : Jvm.MethodName) jdk_42_method_149_code (6 : Nat) (Option.none : Option Jvm.ClassFile.FieldType), Jvm.Cond.code ({ cls := "java/lang/Object", name := "<init>", desc := "()V" } : Jvm.MethodName) object_method_1_code (1 : Nat) (Option.none : Option Jvm.ClassFile.FieldType), Jvm.Cond.code ({ cls := "java/lang/StringUTF16", name := "compress", desc := "([CII)[B" } : Jvm.MethodName) jdk_52_method_16_code (6 : Nat) (Option.some (Jvm.ClassFile.FieldType.array Jvm.ClassFile.FieldType.byte)), Jvm.Cond.code ({ cls := "java/lang/StringUTF16", name := "compress", desc := "([CI[BII)I" } : Jvm.MethodName) jdk_52_method_21_code (7 : Nat) (Option.some Jvm.ClassFile.FieldType.int), Jvm.Cond.code ({ cls := "java/lang/StringUTF16", name := "coderFromArrayLen", desc := "([BI)B" } : Jvm.MethodName) jdk_52_method_15_code (2 : Nat) (Option.some Jvm.ClassFile.FieldType.byte), Jvm.Cond.code ({ cls := "java/util/ArrayList", name := "<init>", desc := "()V" } : Jvm.MethodName) jdk_38_method_2_code (1 : Nat) (Option.none : Option Jvm.ClassFile.FieldType), Jvm.Cond.code ({ cls := "java/util/AbstractList", name := "<init>", desc := "()V" } : Jvm.MethodName) jdk_39_method_1_code (1 : Nat) (Option.none : Option Jvm.ClassFile.FieldType), Jvm.Cond.code ({ cls := "java/util/AbstractCollection", name := "<init>", desc := "()V" } : Jvm.MethodName) jdk_22_method_1_code (1 : Nat) (Option.none : Option Jvm.ClassFile.FieldType), Jvm.Cond.code ({ cls := "java/util/ArrayList", name := "add", desc := "(Ljava/lang/Object;)Z" } : Jvm.MethodName) jdk_38_method_25_code (2 : Nat) (Option.some Jvm.ClassFile.FieldType.boolean), Jvm.Cond.code ({ cls := "java/util/ArrayList", name := "add", desc := "(Ljava/lang/Object;[Ljava/lang/Object;I)V" } : Jvm.MethodName) jdk_38_method_24_code (4 : Nat) (Option.none : Option Jvm.ClassFile.FieldType), Jvm.Cond.code ({ cls := "java/util/ArrayList", name := "grow", desc := "()[Ljava/lang/Object;" } : Jvm.MethodName) jdk_38_method_7_code (1 : Nat) (Option.some (Jvm.ClassFile.FieldType.array (Jvm.ClassFile.FieldType.object "java/lang/Object"))), Jvm.Cond.code ({ cls := "java/util/ArrayList", name := "grow", desc := "(I)[Ljava/lang/Object;" } : Jvm.MethodName) jdk_38_method_6_code (4 : Nat) (Option.some (Jvm.ClassFile.FieldType.array (Jvm.ClassFile.FieldType.object "java/lang/Object"))), Jvm.Cond.code ({ cls := "java/lang/Math", name := "max", desc := "(II)I" } : Jvm.MethodName) jdk_29_method_65_code (2 : Nat) (Option.some Jvm.ClassFile.FieldType.int), Jvm.Cond.code ({ cls := "com/example/strict_split/strictsplit/cli/Arguments", name := "value", desc := "(Ljava/util/List;ILjava/lang/String;)Ljava/lang/String;" } : Jvm.MethodName) prog_1_method_2_code (3 : Nat) (Option.some (Jvm.ClassFile.FieldType.object "java/lang/String")), Jvm.Cond.code ({ cls := "java/util/ArrayList", name := "size", desc := "()I" } : Jvm.MethodName) jdk_38_method_8_code (1 : Nat) (Option.some Jvm.ClassFile.FieldType.int), Jvm.Cond.code ({ cls := "java/util/ArrayList", name := "get", desc := "(I)Ljava/lang/Object;" } : Jvm.MethodName) jdk_38_method_20_code (2 : Nat) (Option.some (Jvm.ClassFile.FieldType.object "java/lang/Object")), Jvm.Cond.code ({ cls := "java/util/Objects", name := "checkIndex", desc := "(II)I" } : Jvm.MethodName) jdk_31_method_17_code (2 : Nat) (Option.some Jvm.ClassFile.FieldType.int), Jvm.Cond.code ({ cls := "jdk/internal/util/Preconditions", name := "checkIndex", desc := "(IILjava/util/function/BiFunction;)I" } : Jvm.MethodName) jdk_41_method_11_code (3 : Nat) (Option.some Jvm.ClassFile.FieldType.int), Jvm.Cond.code ({ cls := "java/util/ArrayList", name := "elementData", desc := "(I)Ljava/lang/Object;" } : Jvm.MethodName) jdk_38_method_18_code (2 : Nat) (Option.some (Jvm.ClassFile.FieldType.object "java/lang/Object")), Jvm.Cond.code ({ cls := "java/lang/String", name := "equals", desc := "(Ljava/lang/Object;)Z" } : Jvm.MethodName) jdk_42_method_66_code (3 : Nat) (Option.some Jvm.ClassFile.FieldType.boolean)]
set_option maxRecDepth 65536 in
theorem codes_eq : words1.filter isCode = codes1 := rfl
theorem w_codes : ∀ c ∈ words1.filter isCode, c.before args0 about1 = true := by
  rw [codes_eq]
  intro c hc
  simp only [codes1, List.mem_cons, List.not_mem_nil, or_false] at hc
  rcases hc with rfl | rfl | rfl | rfl | rfl | rfl | rfl | rfl | rfl | rfl | rfl | rfl | rfl | rfl | rfl | rfl | rfl | rfl | rfl | rfl | rfl | rfl | rfl
  · exact w_c0
  · exact w_c1
  · exact w_c2
  · exact w_c3
  · exact w_c4
  · exact w_c5
  · exact w_c6
  · exact w_c7
  · exact w_c8
  · exact w_c9
  · exact w_c10
  · exact w_c11
  · exact w_c12
  · exact w_c13
  · exact w_c14
  · exact w_c15
  · exact w_c16
  · exact w_c17
  · exact w_c18
  · exact w_c19
  · exact w_c20
  · exact w_c21
  · exact w_c22
set_option maxRecDepth 65536 in
theorem w_t1 : (words1.take 24).all (fun c => isCode c || c.before args0 about1) = true := by decide +kernel
set_option maxRecDepth 65536 in
theorem w_t2 : ((words1.drop 24).take 24).all (fun c => isCode c || c.before args0 about1) = true := by decide +kernel
set_option maxRecDepth 65536 in
theorem w_t3 : (((words1.drop 24).drop 24).take 24).all (fun c => isCode c || c.before args0 about1) = true := by decide +kernel
set_option maxRecDepth 65536 in
theorem w_t4 : ((((words1.drop 24).drop 24).drop 24).take 24).all (fun c => isCode c || c.before args0 about1) = true := by decide +kernel
set_option maxRecDepth 65536 in
theorem w_t5 : (((((words1.drop 24).drop 24).drop 24).drop 24).take 24).all (fun c => isCode c || c.before args0 about1) = true := by decide +kernel
set_option maxRecDepth 65536 in
theorem w_t6 : (((((words1.drop 24).drop 24).drop 24).drop 24).drop 24).all (fun c => isCode c || c.before args0 about1) = true := by decide +kernel
theorem w_tables : (allAtoms (Jvm.Cond.code x code maxLocals ret :: tables_1)).before args0 about1 = true := by
  rw [allAtoms_all]
  show words1.all (fun c => c.before args0 about1) = true
  refine all_split ?_ w_codes
  rw [← List.take_append_drop 24 words1, List.all_append, w_t1, ← List.take_append_drop 24 (words1.drop 24), List.all_append, w_t2, ← List.take_append_drop 24 ((words1.drop 24).drop 24), List.all_append, w_t3, ← List.take_append_drop 24 (((words1.drop 24).drop 24).drop 24), List.all_append, w_t4, ← List.take_append_drop 24 ((((words1.drop 24).drop 24).drop 24).drop 24), List.all_append, w_t5, w_t6]
  rfl
set_option maxRecDepth 65536 in
theorem w_rest : rest_1_c.before args0 about1 = true := by decide +kernel
set_option maxRecDepth 65536 in
theorem w_case : (Jvm.Cond.and given_1 narrow_1).before args0 about1 = true := by decide +kernel
theorem w_applies : (headSpec (Jvm.Cond.code x code maxLocals ret :: tables_1) room_1).applies x e0.platform about1 = true :=
  (Spec.applies_iff w_frames).mpr ⟨w_running, w_runnable, w_alone, w_named, w_hears, w_ripe, w_room, w_tables⟩
theorem atStart : AtStart classFile x code maxLocals ret World_1 tables_1 room_1 Calls_1 rest_1 Pre_1 launch0 p0 e0 about1 theMethod args0 below0 :=
  ⟨lists_1, trivial, launch0.admits_env _ _ _, launch0.least_env, fairChoices_fair.cas, fairChoices_fair.clock, w_frames, w_args, w_heap, w_applies, trivial, w_rest, w_case⟩
end start1
theorem witness_1 : WitnessClaimed_1 := ⟨start1.p0, start1.e0, start1.about1, start1.theMethod, start1.args0, start1.below0, start1.atStart⟩
end Jvm.Pilot.@@N@@
