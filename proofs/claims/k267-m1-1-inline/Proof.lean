import JvmDerived
import JvmDerived.Pilot.@@N@@Statement
import JvmDerived.Pilot.@@N@@Code
set_option linter.unusedVariables false
set_option linter.unusedSimpArgs false
namespace Jvm.OwnK
open Jvm Sem ClassFile Op Lib Jvm.Stand Jvm.Free Jvm.LawKit Jvm.RoadKit Bundle
section Base
abbrev sI (x : Int32) : Slot := .val (.int x)
abbrev sR (a : Addr) : Slot := .val (.ref a)
abbrev sU : Slot := .unset
variable {p : Program} {l : Launch} {e : Env} {R : Room} {s : State} {m : MethodId} {args : Array Value} {below : List Frame} {meth : Method} {c : Code} {Z : State} {a0 : Array Value} {EL : List (String × Nat)} {nb : Bool} {own : String} {code : ByteArray} {ml : Nat} {ret : Option FieldType} {nm : String} {vm : Vm} {T : State} {locs : List Loc} {ce sl : Nat} {h : Heap} {Q : Option Value → Vm → Heap → Prop} {ck sk : Nat}
theorem lb {n m : Nat} (h : Nat.ble n m = true) : n ≤ m := Nat.le_of_ble_eq_true h
/-- where a walk stands: the method's own facts; the Stand over the start with the tables at hand; what the heap is; what is booked -/
def OW (p : Program) (l : Launch) (e : Env) (R : Room) (s : State) (m : MethodId) (args : Array Value) (below : List Frame) (meth : Method) (c : Code) (Z : State) (a0 : Array Value) (EL : List (String × Nat)) (nb : Bool) (own : String) (code : ByteArray) (ml : Nat) (ret : Option FieldType) (nm : String)
    (vm : Vm) (T : State) (locs : List Loc) (ce sl : Nat) (h : Heap) : Prop :=
  (p.tables.exec = Jvm.exec ∧ c.code = code ∧ c.maxLocals = ml ∧ meth.sig.returnType = ret ∧ meth.locks = false ∧ meth.name = nm) ∧
  Stand p l e R (s.setVm vm) m args below meth c T locs ce sl ∧ T.heap = h ∧ (∃ k0, s.Since vm k0 ∧ k0 ≤ h.size) ∧ Z.Warmed39 vm ∧ vm.findClass own = some m.cls ∧
  CHr Z EL s.vm s.heap vm h ∧ Fr Z.heap.size locs ∧ Ext Z.heap h ∧ (nb = true → s.WarmedH vm) ∧ EW Z a0 EL
/-- the body comes to its end from here -/
def OG (p : Program) (e : Env) (below : List Frame) (s : State) (Z : State) (EL : List (String × Nat)) (nb : Bool) (Q : Option Value → Vm → Heap → Prop) (ck sk : Nat) (T : State) (g : JFrame) : Prop :=
  ∃ s₂ o, Steps p.tables e below (T.setTop g) s₂ ∧ s₂.status = .running ∧ Ended s₂ below o ∧ ∃ v L, o = .returned v ∧ (Q v s₂.vm s₂.heap ∧ Fr Z.heap.size L ∧ Ext Z.heap s₂.heap) ∧ (nb = true → s.WarmedH s₂.vm) ∧ CHr Z EL s.vm s.heap s₂.vm s₂.heap ∧ ReturnedEndW s o s₂ L ck sk
/-- a method's contract -/
def OC (l : Launch) (Z : State) (EL : List (String × Nat)) (nb : Bool) (ws : List Jvm.Cond) (y : MethodName) (bytes : ByteArray) (ml : Nat) (ret : Option FieldType) (rm : Room) (as' : Array Value) (h : Heap) (sf : List Addr) (Q : Option Value → Vm → Heap → Prop) : Prop :=
  MetFree l y (head1 (Jvm.Cond.code y bytes ml ret :: ws) rm) (fun a U => a = as' ∧ Z.Warmed39 U.vm ∧ U.heap = h ∧ CHv Z EL U.vm h ∧ Ext Z.heap h ∧ ∀ x ∈ sf, Safe Z EL U.vm h x) (fun _ _ _ _ _ => True)
    (fun _ U o U' => ∃ v L, o = .returned v ∧ (Q v U'.vm U'.heap ∧ Fr Z.heap.size L ∧ Ext Z.heap U'.heap) ∧ (nb = true → U.WarmedH U'.vm) ∧ CHr Z EL U.vm U.heap U'.vm U'.heap ∧ ReturnedEndW U o U' L rm.cells rm.slots)
/-- one step of the walk -/
abbrev Lt (p : Program) (e : Env) (below : List Frame) (T : State) (g : JFrame) (T' : State) (g' : JFrame) : Prop := ∀ t, Steps p.tables e below (T'.setTop g') t → Steps p.tables e below (T.setTop g) t
theorem oLift {g g' : JFrame} {T' : State} (st : Lt p e below T g T' g') (k : OG p e below s Z EL nb Q ck sk T' g') : OG p e below s Z EL nb Q ck sk T g := by
  obtain ⟨s₂, o, h1, r⟩ := k
  exact ⟨s₂, o, st _ h1, r⟩
theorem oEq {g g' : JFrame} (q : g = g') (k : OG p e below s Z EL nb Q ck sk T g') : OG p e below s Z EL nb Q ck sk T g := q ▸ k
theorem oEnter {ws : List Jvm.Cond} {y : MethodName} {bytes : ByteArray} {rm : Room} {as' : Array Value} {sf : List Addr} (hp : plainFor y = true) (hEW : EW Z a0 EL)
    (body : ∀ (p : Program) (e : Env) (s : State) (m : MethodId) (below : List Frame) (meth : Method) (c : Code) (T : State), OW p l e rm s m as' below meth c Z a0 EL nb y.cls bytes ml ret y.name s.vm T [] 0 0 h → (∀ x ∈ sf, Safe Z EL s.vm h x) → OG p e below s Z EL nb Q rm.cells rm.slots T (entryFrame m as' ml)) :
    OC l Z EL nb ws y bytes ml ret rm as' h sf Q := by
  refine MetFree.of_bodySF hp hisR ?_
  intro p e s m args below meth c s₁ Bd hml hP hK
  obtain ⟨rfl, hZ, hh, hC, hE, hSf⟩ := hP
  have X0 : Stand p l e rm s m _ below meth c s₁ [] 0 0 := Stand.of_body Bd
  have e0 : s₁.heap = h := by rw [← hh, Bd.state]; rfl
  obtain ⟨s₂, o, h1, h2, h3, v, L, h4, h5, h6, h7, h8⟩ := body p e s m below meth c s₁
    ⟨⟨Bd.exec, Bd.bytes, hml, Bd.returns, BodyLoose.notSynchronized Bd, (name_of_methodNamed Bd.named Bd.method).1⟩, X0, e0, ⟨0, (State.WarmedH.refl s).since _, Nat.zero_le _⟩, hZ, findClass_of_methodNamed Bd.named, by subst hh; exact CHr.refl hC, Fr.nil _, hE, fun _ => State.WarmedH.refl s, hEW⟩ hSf
  exact ⟨s₂, o, h1, h2, h3, v, L, h4, h5, h6, h7, h8⟩
/-! ### the plain steps, by evaluation -/
def oIl : Instr → Nat
  | .bipush _ => 2 | .sipush _ => 3 | .aload _ => 2 | .iload _ => 2 | .istore _ => 2 | .astore _ => 2 | .iinc _ _ => 3 | .goto _ => 3 | _ => 1
def oNx (pc : Nat) : Instr → Nat
  | .goto o => ((pc : Int) + o).toNat
  | i => pc + oIl i
def oOkG (pc : Nat) : Instr → Bool
  | .goto o => decide (0 ≤ (pc : Int) + o)
  | _ => true
def oSeg (code : ByteArray) : Nat → List Instr → Bool
  | _, [] => true
  | pc, i :: is => decide (decode code pc = .ok (i, oIl i)) && (oOkG pc i && oSeg code (oNx pc i) is)
def oOne : Slot → Bool
  | .unset => true
  | .val w => decide (w.category = 1)
  | .second => false
theorem oOne_ok {o : Slot} (h : oOne o = true) : o = .unset ∨ ∃ w, o = .val w ∧ w.category = 1 := by
  cases o with
  | unset => exact Or.inl rfl
  | second => cases h
  | val w => exact Or.inr ⟨w, rfl, of_decide_eq_true h⟩
theorem oCat {v : Value} (h : v.isRef = true) : v.category = 1 := by cases v <;> simp_all [Value.isRef, Value.category]
def oS1 (i : Instr) (ls : Array Slot) (st : List Value) : Option (Array Slot × List Value × Bool) :=
  match i with
  | .aload_n k => match ls[k.val]? with | some (.val v) => some (ls, v :: st, v.isRef) | _ => none
  | .aload k => match ls[k]? with | some (.val v) => some (ls, v :: st, v.isRef) | _ => none
  | .iload_n k => match ls[k.val]? with | some (.val (.int x)) => some (ls, .int x :: st, true) | _ => none
  | .iload k => match ls[k]? with | some (.val (.int x)) => some (ls, .int x :: st, true) | _ => none
  | .iconst i => some (ls, .int (Int32.ofInt i) :: st, true)
  | .bipush i => some (ls, .int (Int8.ofInt i).toInt32 :: st, true)
  | .sipush i => some (ls, .int (Int16.ofInt i).toInt32 :: st, true)
  | .aconst_null => some (ls, .null :: st, true)
  | .goto _ => some (ls, st, true)
  | .istore_n k => match st with | .int x :: rest => (match storeLocals ls k.val (.int x) with | some l' => some (l', rest, true) | none => none) | _ => none
  | .istore k => match st with | .int x :: rest => (match storeLocals ls k (.int x) with | some l' => some (l', rest, true) | none => none) | _ => none
  | .astore_n k => match st with | x :: rest => (match ls[k.val]? with | some o => some (ls.setIfInBounds k.val (.val x), rest, x.isRef && oOne o) | none => none) | _ => none
  | .astore k => match st with | x :: rest => (match ls[k]? with | some o => some (ls.setIfInBounds k (.val x), rest, x.isRef && oOne o) | none => none) | _ => none
  | .iinc k cst => match ls[k]? with | some (.val (.int x)) => (match storeLocals ls k (.int (x + Int32.ofInt cst)) with | some l' => some (l', st, true) | none => none) | _ => none
  | .dup => match st with | x :: rest => some (ls, x :: x :: rest, decide (x.category = 1)) | _ => none
  | .pop => match st with | x :: rest => some (ls, rest, decide (x.category = 1)) | _ => none
  | .dup_x1 => match st with | x :: y :: rest => some (ls, x :: y :: x :: rest, decide (x.category = 1) && decide (y.category = 1)) | _ => none
  | .dup2 => match st with | x :: y :: rest => some (ls, x :: y :: x :: y :: rest, decide (x.category = 1) && decide (y.category = 1)) | _ => none
  | .iadd => match st with | .int y :: .int x :: rest => some (ls, .int (x + y) :: rest, true) | _ => none
  | .isub => match st with | .int y :: .int x :: rest => some (ls, .int (x - y) :: rest, true) | _ => none
  | .imul => match st with | .int y :: .int x :: rest => some (ls, .int (x * y) :: rest, true) | _ => none
  | .idiv => match st with | .int y :: .int x :: rest => some (ls, .int (x / y) :: rest, decide (y ≠ 0)) | _ => none
  | .irem => match st with | .int y :: .int x :: rest => some (ls, .int (x % y) :: rest, decide (y ≠ 0)) | _ => none
  | .iand => match st with | .int y :: .int x :: rest => some (ls, .int (x &&& y) :: rest, true) | _ => none
  | .ior => match st with | .int y :: .int x :: rest => some (ls, .int (x ||| y) :: rest, true) | _ => none
  | .ixor => match st with | .int y :: .int x :: rest => some (ls, .int (x ^^^ y) :: rest, true) | _ => none
  | .ishl => match st with | .int y :: .int x :: rest => some (ls, .int (x <<< (y &&& 31)) :: rest, true) | _ => none
  | .ishr => match st with | .int y :: .int x :: rest => some (ls, .int (x >>> (y &&& 31)) :: rest, true) | _ => none
  | .iushr => match st with | .int y :: .int x :: rest => some (ls, .int (XT.ushr x y) :: rest, true) | _ => none
  | .ineg => match st with | .int x :: rest => some (ls, .int (-x) :: rest, true) | _ => none
  | .i2b => match st with | .int x :: rest => some (ls, .int (x.toInt8.toInt32) :: rest, true) | _ => none
  | .i2c => match st with | .int x :: rest => some (ls, .int (x.toUInt32.toUInt16.toUInt32.toInt32) :: rest, true) | _ => none
  | .i2s => match st with | .int x :: rest => some (ls, .int (x.toInt16.toInt32) :: rest, true) | _ => none
  | .i2l => match st with | .int x :: rest => some (ls, .long x.toInt64 :: rest, true) | _ => none
  | .lsub => match st with | .long y :: .long x :: rest => some (ls, .long (x - y) :: rest, true) | _ => none
  | .lcmp => match st with | .long y :: .long x :: rest => some (ls, .int (XT.cmpL x y) :: rest, true) | _ => none
  | _ => none
def oRun : List Instr → Array Slot → List Value → Option (Array Slot × List Value × Bool)
  | [], ls, st => some (ls, st, true)
  | i :: is, ls, st => match oS1 i ls st with
    | some (ls1, st1, b1) => (match oRun is ls1 st1 with | some (ls2, st2, b2) => some (ls2, st2, b1 && b2) | none => none)
    | none => none
def oNxs : Nat → List Instr → Nat
  | pc, [] => pc
  | pc, i :: is => oNxs (oNx pc i) is
theorem oS1_ok (H : At T m c below) (hx : p.tables.exec = Jvm.exec) {i : Instr} {pc : Nat} {ls ls' : Array Slot} {st st' : List Value} {b : Bool} {t : State} (hd : decode c.code pc = .ok (i, oIl i)) (hg : oOkG pc i = true) (hs : oS1 i ls st = some (ls', st', b)) (hb : b = true)
    (hr : Steps p.tables e below (T.setTop (mkF m (oNx pc i) ls' st')) t) : Steps p.tables e below (T.setTop (mkF m pc ls st)) t := by
  subst hb
  cases i
  case aload_n k =>
    simp only [oS1] at hs
    split at hs
    · rename_i v hv
      simp only [Option.some.injEq, Prod.mk.injEq] at hs
      obtain ⟨rfl, rfl, h3⟩ := hs
      exact XS.aloadN (g := mkF m pc ls _) H hx rfl hd hv h3 hr
    · cases hs
  case aload k =>
    simp only [oS1] at hs
    split at hs
    · rename_i v hv
      simp only [Option.some.injEq, Prod.mk.injEq] at hs
      obtain ⟨rfl, rfl, h3⟩ := hs
      exact XS.aload (g := mkF m pc ls _) H hx rfl hd hv h3 hr
    · cases hs
  case iload_n k =>
    simp only [oS1] at hs
    split at hs
    · rename_i x hv
      simp only [Option.some.injEq, Prod.mk.injEq] at hs
      obtain ⟨rfl, rfl, -⟩ := hs
      exact XS.iloadN (g := mkF m pc ls _) H hx rfl hd hv hr
    · cases hs
  case iload k =>
    simp only [oS1] at hs
    split at hs
    · rename_i x hv
      simp only [Option.some.injEq, Prod.mk.injEq] at hs
      obtain ⟨rfl, rfl, -⟩ := hs
      exact XS.iload (g := mkF m pc ls _) H hx rfl hd hv hr
    · cases hs
  case iconst z =>
    simp only [oS1, Option.some.injEq, Prod.mk.injEq] at hs
    obtain ⟨rfl, rfl, -⟩ := hs
    exact XS.iconst (g := mkF m pc ls _) H hx rfl hd hr
  case bipush z =>
    simp only [oS1, Option.some.injEq, Prod.mk.injEq] at hs
    obtain ⟨rfl, rfl, -⟩ := hs
    exact XS.bipush (g := mkF m pc ls _) H hx rfl hd hr
  case sipush z =>
    simp only [oS1, Option.some.injEq, Prod.mk.injEq] at hs
    obtain ⟨rfl, rfl, -⟩ := hs
    exact XS.sipush (g := mkF m pc ls _) H hx rfl hd hr
  case aconst_null =>
    simp only [oS1, Option.some.injEq, Prod.mk.injEq] at hs
    obtain ⟨rfl, rfl, -⟩ := hs
    exact XS.aconstNull (g := mkF m pc ls _) H hx rfl hd hr
  case goto o =>
    simp only [oS1, Option.some.injEq, Prod.mk.injEq] at hs
    obtain ⟨rfl, rfl, -⟩ := hs
    exact XS.goto (g := mkF m pc ls _) H hx rfl (pc0 := pc) rfl hd (of_decide_eq_true hg) rfl hr
  case astore_n k =>
    simp only [oS1] at hs
    split at hs
    · split at hs
      · rename_i o ho
        simp only [Option.some.injEq, Prod.mk.injEq] at hs
        obtain ⟨rfl, rfl, h3⟩ := hs
        rw [Bool.and_eq_true] at h3
        exact XS.astoreN (g := mkF m pc ls _) H hx rfl hd rfl h3.1 (XS.store1 ho (oOne_ok h3.2) (oCat h3.1)) hr
      · cases hs
    · cases hs
  case astore k =>
    simp only [oS1] at hs
    split at hs
    · split at hs
      · rename_i o ho
        simp only [Option.some.injEq, Prod.mk.injEq] at hs
        obtain ⟨rfl, rfl, h3⟩ := hs
        rw [Bool.and_eq_true] at h3
        exact XS.astore (g := mkF m pc ls _) H hx rfl hd rfl h3.1 (XS.store1 ho (oOne_ok h3.2) (oCat h3.1)) hr
      · cases hs
    · cases hs
  case istore_n k =>
    simp only [oS1] at hs
    split at hs
    · split at hs
      · rename_i l2 hl
        simp only [Option.some.injEq, Prod.mk.injEq] at hs
        obtain ⟨rfl, rfl, h3⟩ := hs
        exact XS.istoreN (g := mkF m pc ls _) H hx rfl hd rfl hl hr
      · cases hs
    · cases hs
  case istore k =>
    simp only [oS1] at hs
    split at hs
    · split at hs
      · rename_i l2 hl
        simp only [Option.some.injEq, Prod.mk.injEq] at hs
        obtain ⟨rfl, rfl, h3⟩ := hs
        exact XS.istore (g := mkF m pc ls _) H hx rfl hd rfl hl hr
      · cases hs
    · cases hs
  case iinc k z =>
    simp only [oS1] at hs
    split at hs
    · rename_i x hv
      split at hs
      · rename_i l2 hl
        simp only [Option.some.injEq, Prod.mk.injEq] at hs
        obtain ⟨rfl, rfl, -⟩ := hs
        exact XS.iinc (g := mkF m pc ls _) H hx rfl hd hv hl hr
      · cases hs
    · cases hs
  case dup =>
    simp only [oS1] at hs
    split at hs
    · simp only [Option.some.injEq, Prod.mk.injEq] at hs
      obtain ⟨rfl, rfl, h3⟩ := hs
      exact XS.dup (g := mkF m pc ls _) H hx rfl hd rfl (of_decide_eq_true h3) hr
    · cases hs
  case pop =>
    simp only [oS1] at hs
    split at hs
    · simp only [Option.some.injEq, Prod.mk.injEq] at hs
      obtain ⟨rfl, rfl, h3⟩ := hs
      exact XT.pop (g := mkF m pc ls _) H hx rfl hd rfl (of_decide_eq_true h3) hr
    · cases hs
  case dup_x1 =>
    simp only [oS1] at hs
    split at hs
    · simp only [Option.some.injEq, Prod.mk.injEq] at hs
      obtain ⟨rfl, rfl, h3⟩ := hs
      rw [Bool.and_eq_true] at h3
      exact XT.dupX1 (g := mkF m pc ls _) H hx rfl hd rfl (of_decide_eq_true h3.1) (of_decide_eq_true h3.2) hr
    · cases hs
  case dup2 =>
    simp only [oS1] at hs
    split at hs
    · simp only [Option.some.injEq, Prod.mk.injEq] at hs
      obtain ⟨rfl, rfl, h3⟩ := hs
      rw [Bool.and_eq_true] at h3
      exact XT.dup2 (g := mkF m pc ls _) H hx rfl hd rfl (of_decide_eq_true h3.1) (of_decide_eq_true h3.2) hr
    · cases hs
  case iadd =>
    simp only [oS1] at hs
    split at hs
    · simp only [Option.some.injEq, Prod.mk.injEq] at hs
      obtain ⟨rfl, rfl, -⟩ := hs
      exact XS.iadd (g := mkF m pc ls _) H hx rfl hd rfl hr
    · cases hs
  case isub =>
    simp only [oS1] at hs
    split at hs
    · simp only [Option.some.injEq, Prod.mk.injEq] at hs
      obtain ⟨rfl, rfl, -⟩ := hs
      exact XS.isub (g := mkF m pc ls _) H hx rfl hd rfl hr
    · cases hs
  case imul =>
    simp only [oS1] at hs
    split at hs
    · simp only [Option.some.injEq, Prod.mk.injEq] at hs
      obtain ⟨rfl, rfl, -⟩ := hs
      exact XS.imul (g := mkF m pc ls _) H hx rfl hd rfl hr
    · cases hs
  case iand =>
    simp only [oS1] at hs
    split at hs
    · simp only [Option.some.injEq, Prod.mk.injEq] at hs
      obtain ⟨rfl, rfl, -⟩ := hs
      exact XS.iand (g := mkF m pc ls _) H hx rfl hd rfl hr
    · cases hs
  case ior =>
    simp only [oS1] at hs
    split at hs
    · simp only [Option.some.injEq, Prod.mk.injEq] at hs
      obtain ⟨rfl, rfl, -⟩ := hs
      exact XT.ior (g := mkF m pc ls _) H hx rfl hd rfl hr
    · cases hs
  case ixor =>
    simp only [oS1] at hs
    split at hs
    · simp only [Option.some.injEq, Prod.mk.injEq] at hs
      obtain ⟨rfl, rfl, -⟩ := hs
      exact XT.ixor (g := mkF m pc ls _) H hx rfl hd rfl hr
    · cases hs
  case ishl =>
    simp only [oS1] at hs
    split at hs
    · simp only [Option.some.injEq, Prod.mk.injEq] at hs
      obtain ⟨rfl, rfl, -⟩ := hs
      exact XT.ishl (g := mkF m pc ls _) H hx rfl hd rfl hr
    · cases hs
  case ishr =>
    simp only [oS1] at hs
    split at hs
    · simp only [Option.some.injEq, Prod.mk.injEq] at hs
      obtain ⟨rfl, rfl, -⟩ := hs
      exact XT.ishr (g := mkF m pc ls _) H hx rfl hd rfl hr
    · cases hs
  case iushr =>
    simp only [oS1] at hs
    split at hs
    · simp only [Option.some.injEq, Prod.mk.injEq] at hs
      obtain ⟨rfl, rfl, -⟩ := hs
      exact XT.iushr (g := mkF m pc ls _) H hx rfl hd rfl hr
    · cases hs
  case ineg =>
    simp only [oS1] at hs
    split at hs
    · simp only [Option.some.injEq, Prod.mk.injEq] at hs
      obtain ⟨rfl, rfl, -⟩ := hs
      exact XS.ineg (g := mkF m pc ls _) H hx rfl hd rfl hr
    · cases hs
  case i2b =>
    simp only [oS1] at hs
    split at hs
    · simp only [Option.some.injEq, Prod.mk.injEq] at hs
      obtain ⟨rfl, rfl, -⟩ := hs
      exact XT.i2b (g := mkF m pc ls _) H hx rfl hd rfl hr
    · cases hs
  case i2c =>
    simp only [oS1] at hs
    split at hs
    · simp only [Option.some.injEq, Prod.mk.injEq] at hs
      obtain ⟨rfl, rfl, -⟩ := hs
      exact XT.i2c (g := mkF m pc ls _) H hx rfl hd rfl hr
    · cases hs
  case i2s =>
    simp only [oS1] at hs
    split at hs
    · simp only [Option.some.injEq, Prod.mk.injEq] at hs
      obtain ⟨rfl, rfl, -⟩ := hs
      exact XT.i2s (g := mkF m pc ls _) H hx rfl hd rfl hr
    · cases hs
  case i2l =>
    simp only [oS1] at hs
    split at hs
    · simp only [Option.some.injEq, Prod.mk.injEq] at hs
      obtain ⟨rfl, rfl, -⟩ := hs
      exact XT.i2l (g := mkF m pc ls _) H hx rfl hd rfl hr
    · cases hs
  case lsub =>
    simp only [oS1] at hs
    split at hs
    · simp only [Option.some.injEq, Prod.mk.injEq] at hs
      obtain ⟨rfl, rfl, -⟩ := hs
      exact XT.lsub (g := mkF m pc ls _) H hx rfl hd rfl hr
    · cases hs
  case lcmp =>
    simp only [oS1] at hs
    split at hs
    · simp only [Option.some.injEq, Prod.mk.injEq] at hs
      obtain ⟨rfl, rfl, -⟩ := hs
      exact XT.lcmp (g := mkF m pc ls _) H hx rfl hd rfl hr
    · cases hs
  case idiv =>
    simp only [oS1] at hs
    split at hs
    · simp only [Option.some.injEq, Prod.mk.injEq] at hs
      obtain ⟨rfl, rfl, h3⟩ := hs
      exact XS.idiv (g := mkF m pc ls _) H hx rfl hd rfl (of_decide_eq_true h3) hr
    · cases hs
  case irem =>
    simp only [oS1] at hs
    split at hs
    · rename_i y x rest
      simp only [Option.some.injEq, Prod.mk.injEq] at hs
      obtain ⟨rfl, rfl, h3⟩ := hs
      refine XS.irem (g := mkF m pc ls _) H hx rfl hd rfl (of_decide_eq_true h3) ?_
      rw [irem_eq_mod x y]
      exact hr
    · cases hs
  all_goals (simp [oS1] at hs)
theorem oGo (W : OW p l e R s m args below meth c Z a0 EL nb own code ml ret nm vm T locs ce sl h) : ∀ (is : List Instr) {pc : Nat} {ls ls' : Array Slot} {st st' : List Value} {b : Bool}, oSeg code pc is = true → oRun is ls st = some (ls', st', b) → b = true → ∀ {pc' : Nat}, oNxs pc is = pc' → OG p e below s Z EL nb Q ck sk T (mkF m pc' ls' st') → OG p e below s Z EL nb Q ck sk T (mkF m pc ls st)
  | [], pc, ls, ls', st, st', b, _, hr, _, pc', hp, k => by
    simp only [oRun, Option.some.injEq, Prod.mk.injEq] at hr
    obtain ⟨rfl, rfl, -⟩ := hr
    subst hp
    exact k
  | i :: is, pc, ls, ls', st, st', b, hg, hr, hb, pc', hp, k => by
    simp only [oRun] at hr
    split at hr
    · rename_i ls1 st1 b1 h1
      split at hr
      · rename_i ls2 st2 b2 h2
        simp only [Option.some.injEq, Prod.mk.injEq] at hr
        obtain ⟨rfl, rfl, rfl⟩ := hr
        rw [Bool.and_eq_true] at hb
        simp only [oSeg, Bool.and_eq_true] at hg
        have hd : decode c.code pc = .ok (i, oIl i) := by rw [W.1.2.1]; exact of_decide_eq_true hg.1
        exact oLift (fun t q => oS1_ok W.2.1.here W.1.1 hd hg.2.1 h1 hb.1 q) (oGo W is hg.2.2 h2 hb.2 hp k)
      · cases hr
    · cases hr
theorem oDec (W : OW p l e R s m args below meth c Z a0 EL nb own code ml ret nm vm T locs ce sl h) {pc : Nat} {r : Except DecodeError (Instr × Nat)} (hd : decode code pc = r) : decode c.code pc = r := by rw [W.1.2.1]; exact hd
/-! ### branches -/
theorem oIfT (W : OW p l e R s m args below meth c Z a0 EL nb own code ml ret nm vm T locs ce sl h) {cd : ClassFile.Cond} {o : Int} {x : Int32} {pc : Nat} {ls : Array Slot} {st : List Value} (hd : decode code pc = .ok (.ifCond cd o, 3)) (hc : ifCond.holds cd x = true) {pc' : Nat} (ho : 0 ≤ (pc : Int) + o) (hp : ((pc : Int) + o).toNat = pc') (k : OG p e below s Z EL nb Q ck sk T (mkF m pc' ls st)) : OG p e below s Z EL nb Q ck sk T (mkF m pc ls (.int x :: st)) :=
  oLift (fun t q => XS.ifYes (g := mkF m pc ls (.int x :: st)) W.2.1.here W.1.1 rfl (pc0 := pc) rfl (oDec W hd) rfl hc ho hp q) k
theorem oIfF (W : OW p l e R s m args below meth c Z a0 EL nb own code ml ret nm vm T locs ce sl h) {cd : ClassFile.Cond} {o : Int} {x : Int32} {pc : Nat} {ls : Array Slot} {st : List Value} (hd : decode code pc = .ok (.ifCond cd o, 3)) (hc : ifCond.holds cd x = false) {pc' : Nat} (hp : pc + 3 = pc') (k : OG p e below s Z EL nb Q ck sk T (mkF m pc' ls st)) : OG p e below s Z EL nb Q ck sk T (mkF m pc ls (.int x :: st)) := by
  subst hp
  exact oLift (fun t q => XS.ifNo (g := mkF m pc ls (.int x :: st)) W.2.1.here W.1.1 rfl (oDec W hd) rfl hc q) k
theorem oIcT (W : OW p l e R s m args below meth c Z a0 EL nb own code ml ret nm vm T locs ce sl h) {cd : ClassFile.Cond} {o : Int} {x y : Int32} {pc : Nat} {ls : Array Slot} {st : List Value} (hd : decode code pc = .ok (.if_icmp cd o, 3)) (hc : if_icmp.holds cd x y = true) {pc' : Nat} (ho : 0 ≤ (pc : Int) + o) (hp : ((pc : Int) + o).toNat = pc') (k : OG p e below s Z EL nb Q ck sk T (mkF m pc' ls st)) : OG p e below s Z EL nb Q ck sk T (mkF m pc ls (.int y :: .int x :: st)) :=
  oLift (fun t q => XS.icmpYes (g := mkF m pc ls (.int y :: .int x :: st)) W.2.1.here W.1.1 rfl (pc0 := pc) rfl (oDec W hd) rfl hc ho hp q) k
theorem oIcF (W : OW p l e R s m args below meth c Z a0 EL nb own code ml ret nm vm T locs ce sl h) {cd : ClassFile.Cond} {o : Int} {x y : Int32} {pc : Nat} {ls : Array Slot} {st : List Value} (hd : decode code pc = .ok (.if_icmp cd o, 3)) (hc : if_icmp.holds cd x y = false) {pc' : Nat} (hp : pc + 3 = pc') (k : OG p e below s Z EL nb Q ck sk T (mkF m pc' ls st)) : OG p e below s Z EL nb Q ck sk T (mkF m pc ls (.int y :: .int x :: st)) := by
  subst hp
  exact oLift (fun t q => XS.icmpNo (g := mkF m pc ls (.int y :: .int x :: st)) W.2.1.here W.1.1 rfl (oDec W hd) rfl hc q) k
theorem oNuT (W : OW p l e R s m args below meth c Z a0 EL nb own code ml ret nm vm T locs ce sl h) {o : Int} {pc : Nat} {ls : Array Slot} {st : List Value} (hd : decode code pc = .ok (.ifnull o, 3)) {pc' : Nat} (ho : 0 ≤ (pc : Int) + o) (hp : ((pc : Int) + o).toNat = pc') (k : OG p e below s Z EL nb Q ck sk T (mkF m pc' ls st)) : OG p e below s Z EL nb Q ck sk T (mkF m pc ls (.null :: st)) :=
  oLift (fun t q => XS.ifnullYes (g := mkF m pc ls (.null :: st)) W.2.1.here W.1.1 rfl (pc0 := pc) rfl (oDec W hd) rfl ho hp q) k
theorem oNuF (W : OW p l e R s m args below meth c Z a0 EL nb own code ml ret nm vm T locs ce sl h) {o : Int} {a : Addr} {pc : Nat} {ls : Array Slot} {st : List Value} (hd : decode code pc = .ok (.ifnull o, 3)) {pc' : Nat} (hp : pc + 3 = pc') (k : OG p e below s Z EL nb Q ck sk T (mkF m pc' ls st)) : OG p e below s Z EL nb Q ck sk T (mkF m pc ls (.ref a :: st)) := by
  subst hp
  exact oLift (fun t q => XS.ifnullNo (g := mkF m pc ls (.ref a :: st)) W.2.1.here W.1.1 rfl (oDec W hd) rfl q) k
theorem oNnT (W : OW p l e R s m args below meth c Z a0 EL nb own code ml ret nm vm T locs ce sl h) {o : Int} {a : Addr} {pc : Nat} {ls : Array Slot} {st : List Value} (hd : decode code pc = .ok (.ifnonnull o, 3)) {pc' : Nat} (ho : 0 ≤ (pc : Int) + o) (hp : ((pc : Int) + o).toNat = pc') (k : OG p e below s Z EL nb Q ck sk T (mkF m pc' ls st)) : OG p e below s Z EL nb Q ck sk T (mkF m pc ls (.ref a :: st)) :=
  oLift (fun t q => XT.ifnonnullYes (g := mkF m pc ls (.ref a :: st)) W.2.1.here W.1.1 rfl (pc0 := pc) rfl (oDec W hd) rfl ho hp q) k
theorem oNnF (W : OW p l e R s m args below meth c Z a0 EL nb own code ml ret nm vm T locs ce sl h) {o : Int} {pc : Nat} {ls : Array Slot} {st : List Value} (hd : decode code pc = .ok (.ifnonnull o, 3)) {pc' : Nat} (hp : pc + 3 = pc') (k : OG p e below s Z EL nb Q ck sk T (mkF m pc' ls st)) : OG p e below s Z EL nb Q ck sk T (mkF m pc ls (.null :: st)) := by
  subst hp
  exact oLift (fun t q => XT.ifnonnullNo (g := mkF m pc ls (.null :: st)) W.2.1.here W.1.1 rfl (oDec W hd) rfl q) k
theorem oAcT (W : OW p l e R s m args below meth c Z a0 EL nb own code ml ret nm vm T locs ce sl h) {cd : ACond} {o : Int} {x y : Value} {pc : Nat} {ls : Array Slot} {st : List Value} (hd : decode code pc = .ok (.if_acmp cd o, 3)) (h1 : x.isRef = true) (h2 : y.isRef = true) (hc : XT.acmp cd x y = true) {pc' : Nat} (ho : 0 ≤ (pc : Int) + o) (hp : ((pc : Int) + o).toNat = pc') (k : OG p e below s Z EL nb Q ck sk T (mkF m pc' ls st)) : OG p e below s Z EL nb Q ck sk T (mkF m pc ls (y :: x :: st)) :=
  oLift (fun t q => XT.acmpYes (g := mkF m pc ls (y :: x :: st)) W.2.1.here W.1.1 rfl (pc0 := pc) rfl (oDec W hd) rfl h1 h2 hc ho hp q) k
theorem oAcF (W : OW p l e R s m args below meth c Z a0 EL nb own code ml ret nm vm T locs ce sl h) {cd : ACond} {o : Int} {x y : Value} {pc : Nat} {ls : Array Slot} {st : List Value} (hd : decode code pc = .ok (.if_acmp cd o, 3)) (h1 : x.isRef = true) (h2 : y.isRef = true) (hc : XT.acmp cd x y = false) {pc' : Nat} (hp : pc + 3 = pc') (k : OG p e below s Z EL nb Q ck sk T (mkF m pc' ls st)) : OG p e below s Z EL nb Q ck sk T (mkF m pc ls (y :: x :: st)) := by
  subst hp
  exact oLift (fun t q => XT.acmpNo (g := mkF m pc ls (y :: x :: st)) W.2.1.here W.1.1 rfl (oDec W hd) rfl h1 h2 hc q) k
/-! ### the end -/
theorem oFin (W : OW p l e R s m args below meth c Z a0 EL nb own code ml ret nm vm T locs ce sl h) {v : Option Value} {g : JFrame} (hv : ret = none → v = none)
    (hstep : ∀ fs, (∀ (f : JFrame) (acts : List Action), f.method = m → f.locked = none → f.entered = [] → (doReturn e (T.setTop f) acts v).1 = T.setFrames fs) → Steps p.tables e below (T.setTop g) (T.setFrames fs)) (hc : ce ≤ ck) (hs : sl ≤ sk) (hq : ∀ vm', CHr Z EL vm h vm' h → Q v vm' h) : OG p e below s Z EL nb Q ck sk T g := by
  obtain ⟨⟨h1, h2, h3, h4, h5, h6⟩, X, eT, ⟨k0, hS, hk⟩, hZ, ho, hC, hF, hE, hn, hEW⟩ := W
  obtain ⟨fs, hr, hrun, hended, r1, r2, r3, r4⟩ := X.leaveW hS (by rw [eT]; exact hk) (v := v) (fun q => hv (by rw [← h4]; exact q)) h5
  refine ⟨T.setFrames fs, _, hstep fs hr, hrun, hended, v, locs, rfl, ⟨?_, hF, ?_⟩, fun q => ?_, ?_, r1, r2, r3, r4.mono hc hs⟩
  · show Q v T.vm T.heap
    rw [eT]; exact hq _ (CHv.at X hZ hEW hC.1)
  · show Ext Z.heap T.heap
    rw [eT]; exact hE
  · exact State.WarmedH.trans (t := s.setVm vm) (hn q) X.warmed
  · show CHr Z EL s.vm s.heap T.vm T.heap
    rw [eT]
    exact hC.trans (CHv.at X hZ hEW hC.1)
theorem oRet0 (W : OW p l e R s m args below meth c Z a0 EL nb own code ml none nm vm T locs ce sl h) {pc : Nat} {ls : Array Slot} (hd : decode code pc = .ok (.return_, 1)) (hc : ce ≤ ck) (hs : sl ≤ sk) (hq : ∀ vm', CHr Z EL vm h vm' h → Q none vm' h) : OG p e below s Z EL nb Q ck sk T (mkF m pc ls []) :=
  oFin W (fun _ => rfl) (fun fs hr => W.2.1.returnOut W.1.1 W.1.2.2.2.1 (oDec W hd) hr) hc hs hq
theorem oRetI (W : OW p l e R s m args below meth c Z a0 EL nb own code ml (some .int) nm vm T locs ce sl h) {pc : Nat} {ls : Array Slot} {z : Int32} {rest : List Value} (hd : decode code pc = .ok (.ireturn, 1)) (hc : ce ≤ ck) (hs : sl ≤ sk) (hq : ∀ vm', CHr Z EL vm h vm' h → Q (some (.int z)) vm' h) : OG p e below s Z EL nb Q ck sk T (mkF m pc ls (.int z :: rest)) :=
  oFin W (fun q => by cases q) (fun fs hr => RoadKit.retOut W.2.1 W.1.1 W.1.2.2.2.1 rfl (Or.inl ⟨rfl, Or.inl rfl, _, rfl⟩) (oDec W hd) hr) hc hs hq
theorem oRetN {t : FieldType} (ht : t = .boolean ∨ t = .byte ∨ t = .char ∨ t = .short) (W : OW p l e R s m args below meth c Z a0 EL nb own code ml (some t) nm vm T locs ce sl h) {pc : Nat} {ls : Array Slot} {z : Int32} {rest : List Value} (hn : nar t z = z) (hd : decode code pc = .ok (.ireturn, 1)) (hc : ce ≤ ck) (hs : sl ≤ sk) (hq : ∀ vm', CHr Z EL vm h vm' h → Q (some (.int z)) vm' h) : OG p e below s Z EL nb Q ck sk T (mkF m pc ls (.int z :: rest)) :=
  oFin W (fun q => by cases q) (fun fs hr => RoadKit.retN W.2.1 W.1.1 W.1.2.2.2.1 ht (oDec W hd) (by rw [hn]; exact hr)) hc hs hq
theorem oRetA {t : FieldType} (ht : t.isReference = true) (W : OW p l e R s m args below meth c Z a0 EL nb own code ml (some t) nm vm T locs ce sl h) {pc : Nat} {ls : Array Slot} {w : Value} {rest : List Value} (hw : w.isRef = true) (hn : narrow t w = w) (hd : decode code pc = .ok (.areturn, 1)) (hc : ce ≤ ck) (hs : sl ≤ sk) (hq : ∀ vm', CHr Z EL vm h vm' h → Q (some w) vm' h) : OG p e below s Z EL nb Q ck sk T (mkF m pc ls (w :: rest)) :=
  oFin W (fun q => by cases q) (fun fs hr => RoadKit.retOut W.2.1 W.1.1 W.1.2.2.2.1 hn (Or.inr (Or.inr (Or.inr (Or.inr ⟨rfl, ht, hw⟩)))) (oDec W hd) hr) hc hs hq
end Base
end Jvm.OwnK
namespace Jvm.OwnK
open Jvm Sem ClassFile Op Lib Jvm.Stand Jvm.Free Jvm.LawKit Jvm.RoadKit Bundle
section Heaps
variable {p : Program} {l : Launch} {e : Env} {R : Room} {s : State} {m : MethodId} {args : Array Value} {below : List Frame} {meth : Method} {c : Code} {Z : State} {a0 : Array Value} {EL : List (String × Nat)} {nb : Bool} {own : String} {code : ByteArray} {ml : Nat} {ret : Option FieldType} {nm : String} {vm : Vm} {T : State} {locs : List Loc} {ce sl : Nat} {h h1 h2 : Heap} {Q : Option Value → Vm → Heap → Prop} {ck sk : Nat} {pc : Nat} {ls : Array Slot} {st : List Value}
theorem exR (h : Heap) : Ext h h := ⟨Nat.le_refl _, fun _ _ q => q⟩
theorem exT (A : Ext h h1) (B : Ext h1 h2) : Ext h h2 := ⟨Nat.le_trans A.1 B.1, fun a c q => B.2 a c (A.2 a c q)⟩
theorem exW {a : Addr} {i : Nat} {v : Value} (A : Ext h h1) (B : Wr h1 h2 a i v) (q : h.size ≤ a) : Ext h h2 := by
  have K := (Keep.refl h ([] : List Addr)).ext A |>.wr B (Or.inr q)
  exact ⟨K.1, fun x c hx => K.2.1 x c hx nin0⟩
theorem exK {ws : List Addr} (A : Ext h h1) (K : Keep h1 h2 ws) (q : ∀ x ∈ ws, h.size ≤ x) : Ext h h2 := by
  have K' := ((Keep.refl h ([] : List Addr)).ext A).trans K (fun x hx => Or.inr (q x hx))
  exact ⟨K'.1, fun x c hx => K'.2.1 x c hx nin0⟩
theorem OW.step (W : OW p l e R s m args below meth c Z a0 EL nb own code ml ret nm vm T locs ce sl h) {T' : State} {locs' : List Loc} {ce' sl' : Nat} {h' : Heap} (X' : Stand p l e R (s.setVm vm) m args below meth c T' locs' ce' sl') (eT : T'.heap = h') (hC : CHr Z EL vm h vm h') (hF : Fr Z.heap.size locs') (hE : Ext Z.heap h') :
    OW p l e R s m args below meth c Z a0 EL nb own code ml ret nm vm T' locs' ce' sl' h' := by
  obtain ⟨g1, X, e0, ⟨k0, hS, hk⟩, hZ, ho, hC0, hF0, hE0, hn, hEW⟩ := W
  exact ⟨g1, X', eT, ⟨k0, hS, Nat.le_trans hk hC.2.1⟩, hZ, ho, hC0.trans hC, hF, hE, hn, hEW⟩
theorem OW.chv (W : OW p l e R s m args below meth c Z a0 EL nb own code ml ret nm vm T locs ce sl h) : CHv Z EL vm h := W.2.2.2.2.2.2.1.1
theorem OW.ext (W : OW p l e R s m args below meth c Z a0 EL nb own code ml ret nm vm T locs ce sl h) : Ext Z.heap h := W.2.2.2.2.2.2.2.2.1
theorem OW.fr (W : OW p l e R s m args below meth c Z a0 EL nb own code ml ret nm vm T locs ce sl h) : Fr Z.heap.size locs := W.2.2.2.2.2.2.2.1
theorem OW.warm (W : OW p l e R s m args below meth c Z a0 EL nb own code ml ret nm vm T locs ce sl h) : Z.Warmed39 vm := W.2.2.2.2.1
theorem OW.owns (W : OW p l e R s m args below meth c Z a0 EL nb own code ml ret nm vm T locs ce sl h) : vm.findClass own = some m.cls := W.2.2.2.2.2.1
theorem OW.heap (W : OW p l e R s m args below meth c Z a0 EL nb own code ml ret nm vm T locs ce sl h) : T.heap = h := W.2.2.1
theorem frS {k : Nat} {L : List Loc} {a : Addr} {i : Nat} (N : Fr k L) (q : k ≤ a) : Fr k (L ++ [⟨a, i⟩]) := N.app fun y hy => by cases List.mem_singleton.mp hy; exact q
/-- new -/
theorem oNew (W : OW p l e R s m args below meth c Z a0 EL nb own code ml ret nm vm T locs ce sl h) {idx n : Nat} {C : String} (w : (Jvm.Cond.classLink own idx C).before a0 Z = true) (wi : (Jvm.Cond.instantiable C n).before a0 Z = true) (wz : (Jvm.Cond.initialized C).before a0 Z = true) (hd : decode code pc = .ok (.new idx, 3)) (hc : ce + 1 ≤ R.cells) (hl : sl + n ≤ R.slots) :
    ∃ T' h' a, OW p l e R s m args below meth c Z a0 EL nb own code ml ret nm vm T' locs (ce + 1) (sl + n) h' ∧ h.size ≤ a ∧ Ext h h' ∧ Exa Z h' a C ∧ (∀ {O nm d : String} {ty : FieldType}, Laid Z a0 C O nm d → parseFieldDescriptor d = some ty → Fld Z h' a O nm d (defaultValue ty)) ∧ Safe Z EL vm h' a ∧ CHr Z EL vm h vm h' ∧
      Lt p e below T (mkF m pc ls st) T' (mkF m (pc + 3) ls (.ref a :: st)) := by
  obtain ⟨T', h', X', eT, E, A, D, -, st'⟩ := RoadKit.newO W.2.1 W.1.1 W.warm W.owns w wi wz W.heap (g := mkF m pc ls st) rfl (oDec W hd) hc hl
  have hC : CHr Z EL vm h vm h' := CHr.ext E W.chv
  exact ⟨T', h', h.size, W.step X' eT hC W.fr (exT W.ext E), Nat.le_refl _, E, A, fun L q => D L q, (Safe.new (Nat.le_refl _)).ext E W.chv, hC, st'⟩
/-- an array with known contents -/
def OA (Z : State) (h : Heap) (a : Addr) (k : ClassId) (ty : FieldType) (vs : List Value) : Prop := ∃ n d, Arv Z h a k ty n vs d ∧ n.toNatClampNeg = vs.length
theorem OA.ext {a : Addr} {k : ClassId} {ty : FieldType} {vs : List Value} (A : OA Z h a k ty vs) (E : Ext h h1) : OA Z h1 a k ty vs := by obtain ⟨n, d, F, q⟩ := A; exact ⟨n, d, F.ext E, q⟩
theorem OA.other {a b : Addr} {k : ClassId} {ty : FieldType} {vs : List Value} {i : Nat} {v : Value} (A : OA Z h b k ty vs) (W : Wr h h1 a i v) (q : b ≠ a) : OA Z h1 b k ty vs := by obtain ⟨n, d, F, r⟩ := A; exact ⟨n, d, F.other W q, r⟩
theorem OA.keep {a : Addr} {k : ClassId} {ty : FieldType} {vs : List Value} {ws : List Addr} (A : OA Z h a k ty vs) (K : Keep h h1 ws) (q : a ∉ ws) : OA Z h1 a k ty vs := by obtain ⟨n, d, F, r⟩ := A; exact ⟨n, d, F.keep K q, r⟩
theorem OA.lt {a : Addr} {k : ClassId} {ty : FieldType} {vs : List Value} (A : OA Z h a k ty vs) : a < h.size := by obtain ⟨n, d, F, -⟩ := A; exact F.lt
theorem OA.get {a : Addr} {k : ClassId} {ty : FieldType} {vs : List Value} (A : OA Z h a k ty vs) {i : Nat} {v : Value} (hv : vs[i]? = some v) : fits ty v = true := by
  obtain ⟨n, d, ⟨cl, -, -, hs, -, -, G⟩, r⟩ := A
  have hi : i < vs.length := (List.getElem?_eq_some_iff.mp hv).1
  have := G i (by rw [hs, r]; exact hi)
  rwa [List.getD_eq_getElem?_getD, hv] at this
theorem OA.ne {a b : Addr} {k : ClassId} {ty : FieldType} {vs : List Value} {C : String} {n : Nat} (A : OA Z h b k ty vs) (E : Exa Z h a C) (w : (Jvm.Cond.instantiable C n).before a0 Z = true) : b ≠ a := by
  obtain ⟨q, d, F, -⟩ := A
  exact Ne.symm (E.neArv F w)
theorem OA.safe {vm : Vm} {a : Addr} {k : ClassId} {ty : FieldType} {vs : List Value} (A : OA Z h a k ty vs) (hal : Z.vm.Alike vm) (ht : ty ≠ .byte) : Safe Z EL vm h a := by
  obtain ⟨n, d, ⟨cl, A1, -⟩, -⟩ := A
  exact Safe.arr hal A1 ht
theorem oJn {g : JFrame} {α : Type} (P : α → Prop) (F : α → JFrame) (k : ∀ r, P r → OG p e below s Z EL nb Q ck sk T (F r)) (u : (∀ r, P r → OG p e below s Z EL nb Q ck sk T (F r)) → OG p e below s Z EL nb Q ck sk T g) : OG p e below s Z EL nb Q ck sk T g := u k
theorem oNewA (W : OW p l e R s m args below meth c Z a0 EL nb own code ml ret nm vm T locs ce sl h) {aty : ArrayType} (w : (Jvm.Cond.arrayClass (newarray.typeOf aty)).before a0 Z = true) (hd : decode code pc = .ok (.newarray aty, 2)) {n : Int32} (hn : ¬ n < 0) {cap : Nat} (hcap : n.toNatClampNeg ≤ cap) (hb : cap * 8 ≤ 536870912) (hc : ce + 1 ≤ R.cells) (hl : sl + cap ≤ R.slots) :
    ∃ T' h' a k, OW p l e R s m args below meth c Z a0 EL nb own code ml ret nm vm T' locs (ce + 1) (sl + cap) h' ∧ h.size ≤ a ∧ Ext h h' ∧ OA Z h' a k (newarray.typeOf aty) (List.replicate n.toNatClampNeg (defaultValue (newarray.typeOf aty))) ∧ Safe Z EL vm h' a ∧ CHr Z EL vm h vm h' ∧
      Lt p e below T (mkF m pc ls (.int n :: st)) T' (mkF m (pc + 2) ls (.ref a :: st)) := by
  obtain ⟨T', h', cA, X', eT, E, A, st'⟩ := RoadKit.newP W.2.1 W.1.1 W.warm w W.heap (g := mkF m pc ls (.int n :: st)) rfl (oDec W hd) rfl hn hcap hb hc hl
  have hC : CHr Z EL vm h vm h' := CHr.ext E W.chv
  have F := (Arv.new A hn).pad (vs' := [] ++ List.replicate n.toNatClampNeg (defaultValue (newarray.typeOf aty))) (pad_rep [] _ _)
  exact ⟨T', h', h.size, cA, W.step X' eT hC W.fr (exT W.ext E), Nat.le_refl _, E, ⟨n, _, F, by simp⟩, (Safe.new (Nat.le_refl _)).ext E W.chv, hC, st'⟩
/-- the array's length and its components -/
theorem oLen (W : OW p l e R s m args below meth c Z a0 EL nb own code ml ret nm vm T locs ce sl h) {a : Addr} {k : ClassId} {ty : FieldType} {vs : List Value} (A : OA Z h a k ty vs) (hd : decode code pc = .ok (.arraylength, 1)) (K : OG p e below s Z EL nb Q ck sk T (mkF m (pc + 1) ls (.int vs.length.toInt32 :: st))) : OG p e below s Z EL nb Q ck sk T (mkF m pc ls (.ref a :: st)) := by
  obtain ⟨n, d, ⟨cl, A1, -, hs, -, -, -⟩, r⟩ := A
  refine oLift (fun t q => W.2.1.arraylength W.1.1 (cell := cl) (by rw [W.heap]; exact A1.1) (State.isArrayOf_alike W.warm.alike A1.2.1) (g := mkF m pc ls (.ref a :: st)) rfl rfl (oDec W hd) t ?_) K
  rw [hs, r]; exact q
theorem oGet (W : OW p l e R s m args below meth c Z a0 EL nb own code ml ret nm vm T locs ce sl h) {a : Addr} {k : ClassId} {ty : FieldType} {vs : List Value} (A : OA Z h a k ty vs) {j : Int32} {v : Value} (hj : ¬ j < 0) (hv : vs[j.toNatClampNeg]? = some v) {i : Instr}
    (hi : (i = .caload ∧ ty = .char) ∨ (i = .baload ∧ ty = .byte) ∨ (i = .iaload ∧ ty = .int) ∨ (i = .aaload ∧ ty.isReference = true)) (hd : decode code pc = .ok (i, 1)) (K : OG p e below s Z EL nb Q ck sk T (mkF m (pc + 1) ls (v :: st))) : OG p e below s Z EL nb Q ck sk T (mkF m pc ls (.int j :: .ref a :: st)) := by
  obtain ⟨n, d, ⟨cl, A1, -, hs, -, H, -⟩, r⟩ := A
  have hlt : j.toNatClampNeg < vs.length := (List.getElem?_eq_some_iff.mp hv).1
  have hin : ¬ (j < 0 ∨ cl.slots.size ≤ j.toNatClampNeg) := fun q => q.elim hj (fun q => by rw [hs, r] at q; omega)
  have hcv : cl.slots[j.toNatClampNeg]? = some v := Has.at H hin (by rw [List.getD_eq_getElem?_getD, hv]; rfl)
  have hA : (s.setVm vm).isArrayOf cl ty := State.isArrayOf_alike W.warm.alike A1.2.1
  have hce : T.heap[a]? = some cl := by rw [W.heap]; exact A1.1
  rcases hi with ⟨rfl, rfl⟩ | ⟨rfl, rfl⟩ | ⟨rfl, rfl⟩ | ⟨rfl, ht⟩
  · exact oLift (fun t q => W.2.1.caload W.1.1 hce hA A1.2.2 hin hcv (g := mkF m pc ls (.int j :: .ref a :: st)) rfl rfl (oDec W hd) t q) K
  · exact oLift (fun t q => W.2.1.baloadBytes W.1.1 hce hA A1.2.2 hin hcv (g := mkF m pc ls (.int j :: .ref a :: st)) rfl rfl (oDec W hd) t q) K
  · exact oLift (fun t q => W.2.1.iaload W.1.1 hce hA A1.2.2 hin hcv (g := mkF m pc ls (.int j :: .ref a :: st)) rfl rfl (oDec W hd) t q) K
  · exact oLift (fun t q => W.2.1.aaload W.1.1 hce hA ht A1.2.2 hin hcv (g := mkF m pc ls (.int j :: .ref a :: st)) rfl rfl (oDec W hd) t q) K
/-- a store into a char[], a byte[], an int[] made since the law began -/
theorem oPut (W : OW p l e R s m args below meth c Z a0 EL nb own code ml ret nm vm T locs ce sl h) {a : Addr} {k : ClassId} {ty : FieldType} {vs : List Value} (A : OA Z h a k ty vs) {j x x' : Int32} (hj : ¬ j < 0) {i : Nat} (hji : j.toNatClampNeg = i) (hlt : i < vs.length) (hfr : Z.heap.size ≤ a) (hS : Safe Z EL vm h a) {ins : Instr}
    (hi : (ins = .castore ∧ ty = .char ∧ nar .char x = x') ∨ (ins = .bastore ∧ ty = .byte ∧ nar .byte x = x') ∨ (ins = .iastore ∧ ty = .int ∧ x = x')) (hd : decode code pc = .ok (ins, 1)) :
    ∃ T' h', OW p l e R s m args below meth c Z a0 EL nb own code ml ret nm vm T' (locs ++ [⟨a, i⟩]) ce sl h' ∧ Wr h h' a i (.int x') ∧ OA Z h' a k ty (vs.set i (.int x')) ∧ CHr Z EL vm h vm h' ∧ Lt p e below T (mkF m pc ls (.int x :: .int j :: .ref a :: st)) T' (mkF m (pc + 1) ls st) := by
  obtain ⟨n, d, ⟨cl, A1, hk, hs, hn, H, G⟩, r⟩ := A
  subst hji
  have hin : ¬ (j < 0 ∨ cl.slots.size ≤ j.toNatClampNeg) := fun q => q.elim hj (fun q => by rw [hs, r] at q; omega)
  have key : ∀ {T' h'}, Stand p l e R (s.setVm vm) m args below meth c T' (locs ++ [⟨a, j.toNatClampNeg⟩]) ce sl → T'.heap = h' → Wr h h' a j.toNatClampNeg (.int x') → fits ty (.int x') = true → Lt p e below T (mkF m pc ls (.int x :: .int j :: .ref a :: st)) T' (mkF m (pc + 1) ls st) →
      ∃ T' h', OW p l e R s m args below meth c Z a0 EL nb own code ml ret nm vm T' (locs ++ [⟨a, j.toNatClampNeg⟩]) ce sl h' ∧ Wr h h' a j.toNatClampNeg (.int x') ∧ OA Z h' a k ty (vs.set j.toNatClampNeg (.int x')) ∧ CHr Z EL vm h vm h' ∧ Lt p e below T (mkF m pc ls (.int x :: .int j :: .ref a :: st)) T' (mkF m (pc + 1) ls st) := by
    intro T' h' X' eT Wr' hf st'
    have hC : CHr Z EL vm h vm h' := CHr.wr Wr' hS W.chv
    exact ⟨T', h', W.step X' eT hC (frS W.fr hfr) (exW W.ext Wr' hfr), Wr', ⟨n, d, Arv.set A1 hk hs hn H G hf Wr' _ rfl hlt, by simpa using r⟩, hC, st'⟩
  rcases hi with ⟨rfl, rfl, rfl⟩ | ⟨rfl, rfl, rfl⟩ | ⟨rfl, rfl, rfl⟩
  · obtain ⟨T', h', X', eT, Wr', st'⟩ := RoadKit.stC W.2.1 W.1.1 W.warm W.heap A1 hin (g := mkF m pc ls (.int x :: .int j :: .ref a :: st)) rfl rfl (oDec W hd)
    exact key X' eT Wr' (fits_nar_char _) st'
  · obtain ⟨T', h', X', eT, Wr', st'⟩ := RoadKit.stB W.2.1 W.1.1 W.warm W.heap A1 hin (g := mkF m pc ls (.int x :: .int j :: .ref a :: st)) rfl rfl (oDec W hd)
    exact key X' eT Wr' (fits_nar_byte _) st'
  · obtain ⟨T', h', X', eT, Wr', st'⟩ := RoadKit.stI W.2.1 W.1.1 W.warm W.heap A1 hin (g := mkF m pc ls (.int x :: .int j :: .ref a :: st)) rfl rfl (oDec W hd)
    exact key X' eT Wr' rfl st'
/-- fields -/
theorem oGetF (W : OW p l e R s m args below meth c Z a0 EL nb own code ml ret nm vm T locs ce sl h) {idx : Nat} {R0 O n d : String} (w : (Jvm.Cond.fieldLink own idx R0 n d).before a0 Z = true) (via : Via Z R0 O n d) {a : Addr} {v : Value} (F : Fld Z h a O n d v) (hd : decode code pc = .ok (.getfield idx, 3)) :
    ∃ T', OW p l e R s m args below meth c Z a0 EL nb own code ml ret nm vm T' locs ce sl h ∧ Lt p e below T (mkF m pc ls (.ref a :: st)) T' (mkF m (pc + 3) ls (v :: st)) := by
  obtain ⟨T', X', eT, st'⟩ := RoadKit.getF W.2.1 W.1.1 W.warm W.owns (host := "") (Or.inl w) via W.heap F (g := mkF m pc ls (.ref a :: st)) rfl rfl (oDec W hd)
  exact ⟨T', W.step X' eT (CHr.refl W.chv) W.fr W.ext, st'⟩
theorem oGetS (W : OW p l e R s m args below meth c Z a0 EL nb own code ml ret nm vm T locs ce sl h) {idx : Nat} {R0 O n d : String} (w : (Jvm.Cond.fieldLink own idx R0 n d).before a0 Z = true) (via : Via Z R0 O n d) {v : Value} (F : Sta Z h O n d v) (hd : decode code pc = .ok (.getstatic idx, 3)) :
    ∃ T', OW p l e R s m args below meth c Z a0 EL nb own code ml ret nm vm T' locs ce sl h ∧ Lt p e below T (mkF m pc ls st) T' (mkF m (pc + 3) ls (v :: st)) := by
  obtain ⟨T', X', eT, st'⟩ := RoadKit.getS (host := "") W.2.1 W.1.1 W.warm W.owns w via W.heap F (g := mkF m pc ls st) rfl (oDec W hd)
  exact ⟨T', W.step X' eT (CHr.refl W.chv) W.fr W.ext, st'⟩
theorem oPutF (W : OW p l e R s m args below meth c Z a0 EL nb own code ml ret nm vm T locs ce sl h) {idx kk : Nat} {R0 O n d C : String} {ty : FieldType} (w : (Jvm.Cond.fieldLink own idx R0 n d).before a0 Z = true) (via : Via Z R0 O n d) {a : Addr} {v old : Value} (F : Fld Z h a O n d old) (E : Exa Z h a C)
    (L : (Jvm.Cond.lays C O n d).before a0 Z = true ∨ ((Jvm.Cond.laysFinal C O n d).before a0 Z = true ∧ own = O ∧ nm = "<init>")) (wi : (Jvm.Cond.instantiable C kk).before a0 Z = true) (hty : parseFieldDescriptor d = some ty) (hn : narrow ty v = v) (hf : fits ty v = true) (hfr : Z.heap.size ≤ a) (hS : Safe Z EL vm h a) (hd : decode code pc = .ok (.putfield idx, 3)) :
    ∃ T' h', OW p l e R s m args below meth c Z a0 EL nb own code ml ret nm vm T' (locs ++ [⟨a, RoadKit.slotOf Z O n d⟩]) ce sl h' ∧ Wr h h' a (RoadKit.slotOf Z O n d) v ∧ Fld Z h' a O n d v ∧ Exa Z h' a C ∧ CHr Z EL vm h vm h' ∧ Lt p e below T (mkF m pc ls (v :: .ref a :: st)) T' (mkF m (pc + 3) ls st) := by
  obtain ⟨T', h', X', eT, Wr', st'⟩ := RoadKit.putF W.2.1 W.1.1 W.warm W.owns (host := "") (Or.inl w) via W.heap F E (L.imp id fun q => ⟨q.1, q.2.1, W.1.2.2.2.2.2.trans q.2.2⟩) wi hty hn hf (g := mkF m pc ls (v :: .ref a :: st)) rfl rfl (oDec W hd)
  have hC : CHr Z EL vm h vm h' := CHr.wr Wr' hS W.chv
  exact ⟨T', h', W.step X' eT hC (frS W.fr hfr) (exW W.ext Wr' hfr), Wr', F.same Wr', E.wr Wr', hC, st'⟩
theorem oCast (W : OW p l e R s m args below meth c Z a0 EL nb own code ml ret nm vm T locs ce sl h) {idx : Nat} {K : String} (w : (Jvm.Cond.classLink own idx K).before a0 Z = true) {a : Addr} (F : Ins Z h a K true) (hd : decode code pc = .ok (.checkcast idx, 3)) :
    ∃ T', OW p l e R s m args below meth c Z a0 EL nb own code ml ret nm vm T' locs ce sl h ∧ Lt p e below T (mkF m pc ls (.ref a :: st)) T' (mkF m (pc + 3) ls (.ref a :: st)) := by
  obtain ⟨T', X', eT, st'⟩ := RoadKit.castY W.2.1 W.1.1 W.warm W.owns w W.heap F (g := mkF m pc ls (.ref a :: st)) rfl rfl (oDec W hd)
  exact ⟨T', W.step X' eT (CHr.refl W.chv) W.fr W.ext, st'⟩
theorem oInst (W : OW p l e R s m args below meth c Z a0 EL nb own code ml ret nm vm T locs ce sl h) {idx : Nat} {K : String} (w : (Jvm.Cond.classLink own idx K).before a0 Z = true) {a : Addr} (F : Ins Z h a K true) (hd : decode code pc = .ok (.instanceof idx, 3)) :
    ∃ T', OW p l e R s m args below meth c Z a0 EL nb own code ml ret nm vm T' locs ce sl h ∧ Lt p e below T (mkF m pc ls (.ref a :: st)) T' (mkF m (pc + 3) ls (.int 1 :: st)) := by
  obtain ⟨T', X', eT, st'⟩ := RoadKit.instY W.2.1 W.1.1 W.warm W.owns w W.heap F (g := mkF m pc ls (.ref a :: st)) rfl rfl (oDec W hd)
  exact ⟨T', W.step X' eT (CHr.refl W.chv) W.fr W.ext, st'⟩
/-- Object.<init> -/
theorem oInit (W : OW p l e R s m args below meth c Z a0 EL nb own code ml ret nm vm T locs ce sl h) {idx : Nat} (w1 : (Jvm.Cond.methodLink own idx Lib.objectInit).before a0 Z = true) (w2 : (Jvm.Cond.instanceMethod Lib.objectInit).before a0 Z = true) (w3 : (Jvm.Cond.code Lib.objectInit ⟨#[0xb1]⟩ 1 none).before a0 Z = true) {a : Addr} (hsz : ls.size = ml) (hd : decode code pc = .ok (.invokespecial idx, 3))
    (hf : 1 ≤ R.frames) {V : Nat} (hW : (st.map fun v => v.category).sum ≤ V) (hl : V + 12 ≤ R.locals) :
    ∃ T', OW p l e R s m args below meth c Z a0 EL nb own code ml ret nm vm T' locs ce sl h ∧ Lt p e below T (mkF m pc ls (.ref a :: st)) T' (mkF m (pc + 3) ls st) := by
  obtain ⟨T', X', eT, st'⟩ := RoadKit.initO W.2.1 W.1.1 W.warm W.owns w1 w2 w3 W.heap (g := mkF m pc ls (.ref a :: st)) rfl (hsz.trans W.1.2.2.1.symm) rfl (oDec W hd) hf (W := V) (by show 2 * 0 + _ ≤ _; omega) hl
  exact ⟨T', W.step X' eT (CHr.refl W.chv) W.fr W.ext, st'⟩
/-- clone() of an array -/
theorem oClone (W : OW p l e R s m args below meth c Z a0 EL nb own code ml ret nm vm T locs ce sl h) {idx : Nat} {ad : String} (w1 : (Jvm.Cond.methodLink own idx ⟨ad, "clone", "()Ljava/lang/Object;"⟩).before a0 Z = true) (w2 : (Jvm.Cond.sameMethod ad "java/lang/Object" "clone" "()Ljava/lang/Object;").before a0 Z = true) (w3 : (Jvm.Cond.native ⟨"java/lang/Object", "clone", "()Ljava/lang/Object;"⟩).before a0 Z = true)
    (w4 : (Jvm.Cond.instanceMethod ⟨"java/lang/Object", "clone", "()Ljava/lang/Object;"⟩).before a0 Z = true) (w5 : (Jvm.Cond.selects ad ⟨ad, "clone", "()Ljava/lang/Object;"⟩ ⟨"java/lang/Object", "clone", "()Ljava/lang/Object;"⟩).before a0 Z = true) (w6 : (Jvm.Cond.castable ad "java/lang/Cloneable").before a0 Z = true)
    {a : Addr} {k : ClassId} {ty : FieldType} {vs : List Value} (A : OA Z h a k ty vs) (E : Exa Z h a ad) (hsz : ls.size = ml) (hd : decode code pc = .ok (.invokevirtual idx, 3)) (hf : 1 ≤ R.frames) {V cap : Nat} (hV : (st.map fun v => v.category).sum ≤ V) (hl : V + 14 ≤ R.locals) (hcap : vs.length ≤ cap) (hc : ce + 1 ≤ R.cells) (hs : sl + cap ≤ R.slots) :
    ∃ T' h' b, OW p l e R s m args below meth c Z a0 EL nb own code ml ret nm vm T' locs (ce + 1) (sl + cap) h' ∧ h.size ≤ b ∧ Ext h h' ∧ OA Z h' b k ty vs ∧ Exa Z h' b ad ∧ CHr Z EL vm h vm h' ∧ Lt p e below T (mkF m pc ls (.ref a :: st)) T' (mkF m (pc + 3) ls (.ref b :: st)) := by
  obtain ⟨n, d, F, r⟩ := A
  obtain ⟨T', h', X', eT, Ex, A', E', st'⟩ := RoadKit.cloneH W.2.1 W.1.1 W.warm W.owns w1 w2 w3 w4 w5 w6 W.heap F.arh E (g := mkF m pc ls (.ref a :: st)) rfl (hsz.trans W.1.2.2.1.symm) rfl (oDec W hd) hf (W := V) (by show 2 * 0 + _ ≤ _; omega) hl (cap := cap) (by rw [r]; exact hcap) hc hs
  have hC : CHr Z EL vm h vm h' := CHr.ext Ex W.chv
  exact ⟨T', h', h.size, W.step X' eT hC W.fr (exT W.ext Ex), Nat.le_refl _, Ex, ⟨n, d, A', r⟩, E', hC, st'⟩
/-- checkcast of null -/
theorem oCastN (W : OW p l e R s m args below meth c Z a0 EL nb own code ml ret nm vm T locs ce sl h) {idx : Nat} (hd : decode code pc = .ok (.checkcast idx, 3)) (K : OG p e below s Z EL nb Q ck sk T (mkF m (pc + 3) ls (.null :: st))) : OG p e below s Z EL nb Q ck sk T (mkF m pc ls (.null :: st)) :=
  oLift (fun t q => W.2.1.checkcastNull W.1.1 (g := mkF m pc ls (.null :: st)) rfl rfl (oDec W hd) t q) K
/-- a component of an array of references, the cell at hand -/
theorem oGetC (W : OW p l e R s m args below meth c Z a0 EL nb own code ml ret nm vm T locs ce sl h) {a : Addr} {cl : Cell} {ty : FieldType} (A : Arr Z h a cl ty) {j : Int32} {v : Value} (hin : ¬ (j < 0 ∨ cl.slots.size ≤ j.toNatClampNeg)) (hv : cl.slots[j.toNatClampNeg]? = some v) (ht : ty.isReference = true) (hd : decode code pc = .ok (.aaload, 1)) (K : OG p e below s Z EL nb Q ck sk T (mkF m (pc + 1) ls (v :: st))) : OG p e below s Z EL nb Q ck sk T (mkF m pc ls (.int j :: .ref a :: st)) :=
  oLift (fun t q => W.2.1.aaload W.1.1 (by rw [W.heap]; exact A.1) (State.isArrayOf_alike W.warm.alike A.2.1) ht A.2.2 hin hv (g := mkF m pc ls (.int j :: .ref a :: st)) rfl rfl (oDec W hd) t q) K
/-- an int constant -/
theorem oLdcI (W : OW p l e R s m args below meth c Z a0 EL nb own code ml ret nm vm T locs ce sl h) {idx : Nat} {v : Int32} (w : (Jvm.Cond.constant own idx v).before a0 Z = true) (hd : decode code pc = .ok (.ldc idx, 2)) (K : OG p e below s Z EL nb Q ck sk T (mkF m (pc + 2) ls (.int v :: st))) : OG p e below s Z EL nb Q ck sk T (mkF m pc ls st) :=
  oLift (fun t q => W.2.1.ldcInt W.1.1 W.owns (mvT W.warm w) (g := mkF m pc ls st) rfl (oDec W hd) t q) K
/-- a String constant, opaque -/
theorem oLdc (W : OW p l e R s m args below meth c Z a0 EL false own code ml ret nm vm T locs ce sl h) {idx : Nat} {text : String} (w : (Jvm.Cond.stringLink own idx text).before a0 Z = true) (wS : ∀ a ∈ Bundle.stringAtoms, a.before a0 Z = true) (hd : decode code pc = .ok (.ldc idx, 2)) {n : Nat} (hn : 4 * text.toList.length ≤ n) (hbig : n ≤ 536870912) (hc : ce + 2 ≤ R.cells) (hl : sl + (n + 4) ≤ R.slots) :
    ∃ a T' h' vm', OW p l e R s m args below meth c Z a0 EL false own code ml ret nm vm' T' locs (ce + 2) (sl + (n + 4)) h' ∧ Ext h h' ∧ CHr Z EL vm h vm' h' ∧ Lt p e below T (mkF m pc ls st) T' (mkF m (pc + 2) ls (.ref a :: st)) := by
  obtain ⟨g1, X, e0, ⟨k0, hS, hk⟩, hZ, ho, hC0, hF0, hE0, hn0, hEW⟩ := id W
  obtain ⟨a, T', h', k1, X', eT, E, hS', hk', hZ', ho', hC, -, st'⟩ := RoadKit.ldcOH X W.1.1 hZ ho w wS e0 hS hk hEW W.chv (g := mkF m pc ls st) rfl (oDec W hd) hn hbig hc hl
  exact ⟨a, T', h', T'.vm, ⟨g1, X', eT, ⟨k1, hS', hk'⟩, hZ', ho', hC0.trans hC, hF0, exT hE0 E, (fun q => by cases q), hEW⟩, E, hC, st'⟩
/-- a String constant of EL, read -/
theorem oLdcC (W : OW p l e R s m args below meth c Z a0 EL false own code ml ret nm vm T locs ce sl h) {idx : Nat} {text : String} (w : (Jvm.Cond.stringLink own idx text).before a0 Z = true) (wS : ∀ a ∈ Bundle.stringAtoms, a.before a0 Z = true) (hm : (own, idx) ∈ EL) {vs : List Value} {z : Int32} (ht : (∀ c ∈ text.toList, c.toNat < 256) ∧ text.toList.map (fun c => Value.int (Jvm.Lit.byteI c.toNat.toUInt16)) = vs) (hz : ¬ z < 0) (hzl : z.toNatClampNeg = vs.length)
    (hd : decode code pc = .ok (.ldc idx, 2)) {n : Nat} (hn : 4 * text.toList.length ≤ n) (hbig : n ≤ 536870912) (hc : ce + 2 ≤ R.cells) (hl : sl + (n + 4) ≤ R.slots) :
    ∃ a b k T' h' vm', OW p l e R s m args below meth c Z a0 EL false own code ml ret nm vm' T' locs (ce + 2) (sl + (n + 4)) h' ∧ Ext h h' ∧ CHr Z EL vm h vm' h' ∧ Exa Z h' a "java/lang/String" ∧ Fld Z h' a "java/lang/String" "coder" "B" (.int 0) ∧ Fld Z h' a "java/lang/String" "value" "[B" (.ref b) ∧ OA Z h' b k .byte vs ∧
      Lt p e below T (mkF m pc ls st) T' (mkF m (pc + 2) ls (.ref a :: st)) := by
  obtain ⟨g1, X, e0, ⟨k0, hS, hk⟩, hZ, ho, hC0, hF0, hE0, hn0, hEW⟩ := id W
  obtain ⟨a, T', h', k1, b, k, X', eT, E, hS', hk', hZ', ho', q1, q2, q3, q4, -, -, hC, -, -, st'⟩ := RoadKit.ldcCH X W.1.1 hZ ho w wS e0 hS hk hEW hm W.chv ht hz hzl (g := mkF m pc ls st) rfl (oDec W hd) hn hbig hc hl
  exact ⟨a, b, k, T', h', T'.vm, ⟨g1, X', eT, ⟨k1, hS', hk'⟩, hZ', ho', hC0.trans hC, hF0, exT hE0 E, (fun q => by cases q), hEW⟩, E, hC, q1, q2, q3, ⟨z, _, q4, hzl⟩, st'⟩
end Heaps
section Calls
variable {p : Program} {l : Launch} {e : Env} {R : Room} {s : State} {m : MethodId} {args : Array Value} {below : List Frame} {meth : Method} {c : Code} {Z : State} {a0 : Array Value} {EL : List (String × Nat)} {nb : Bool} {own : String} {code : ByteArray} {ml : Nat} {ret : Option FieldType} {nm : String} {vm : Vm} {T : State} {locs : List Loc} {ce sl : Nat} {h : Heap} {pc : Nat} {ls : Array Slot} {st : List Value}
  {y : MethodName} {bytes : ByteArray} {maxL : Nat} {ret' : Option FieldType} {rm : Room} {as' : Array Value} {sf : List Addr} {Q' : Option Value → Vm → Heap → Prop}
theorem oBack (W : OW p l e R s m args below meth c Z a0 EL nb own code ml ret nm vm T locs ce sl h) (hM : OC l Z EL nb [] y bytes maxL ret' rm as' h sf Q') (hsf : ∀ x ∈ sf, x < h.size ∧ Safe Z EL vm h x) (wc : (Jvm.Cond.code y bytes maxL ret').before a0 Z = true) (wz : (Jvm.Cond.initialized y.cls).before a0 Z = true) {len V : Nat} (hf : rm.frames + 1 ≤ R.frames) (hl : V + (maxL + 11) + rm.locals ≤ R.locals) :
    BackS l R p e below (s.setVm vm) args y len V (fun A a => a = as' ∧ A.U.heap = h ∧ A.cells + rm.cells ≤ R.cells ∧ A.slots + rm.slots ≤ R.slots)
      (fun A _ v B => ∃ L, (Q' v B.U.vm B.U.heap ∧ Fr Z.heap.size L ∧ Ext Z.heap B.U.heap) ∧ B.locs = A.locs ++ L ∧ B.cells = A.cells + rm.cells ∧ B.slots = A.slots + rm.slots ∧ CHr Z EL vm h B.U.vm B.U.heap ∧ (nb = true → A.U.WarmedH B.U.vm)) :=
  have hZ := W.warm
  have hEL : EW Z a0 EL := W.2.2.2.2.2.2.2.2.2.2
  have H := W.chv
  BackS.of_freeW (bytes := bytes) (maxL := maxL) (ret := ret') (E := fun _ first o t L k n => k = rm.cells ∧ n = rm.slots ∧ (∃ v, o = .returned v ∧ (Q' v t.vm t.heap ∧ Fr Z.heap.size L ∧ Ext Z.heap t.heap)) ∧ CHr Z EL first.vm first.heap t.vm t.heap ∧ (nb = true → first.WarmedH t.vm)) hM hf hl
    (fun m meth c A a Y hp => have hU : Z.Warmed39 A.U.vm := wtrans (s := s.setVm vm) hZ Y.warmed
      ⟨by show (Jvm.Cond.and _ .tt).before a A.U = true; rw [Cond.before_and, mv hU wc]; rfl, mv hU wc, mv hU wz, hp.2.2.1, hp.2.2.2⟩)
    (fun m meth c A a g mk Y hp => ⟨hp.1, wtrans (s := s.setVm vm) hZ Y.warmed, hp.2.1, (CHv.at Y hZ hEL H).1, W.ext, fun x hx => (CHv.at Y hZ hEL H).safe (hsf x hx).1 (hsf x hx).2⟩) (fun _ _ _ _ _ _ _ _ _ => trivial)
    (fun _ _ _ _ ⟨v, L, h1, h2, h2', h3, h4⟩ => ⟨L, _, _, h4, rfl, rfl, ⟨v, h1, h2⟩, h3, h2'⟩)
    (fun m meth c A a g mk v t L k n Y hp _ _ ⟨e1, e2, ⟨v', e3, e4⟩, e5, e6⟩ => by
      cases e3; subst e1 e2
      refine ⟨L, e4, rfl, rfl, rfl, (CHv.at Y hZ hEL H).trans ?_, e6⟩
      rw [← hp.2.1]; exact e5)
theorem oCalled (W : OW p l e R s m args below meth c Z a0 EL nb own code ml ret nm vm T locs ce sl h) {vm₁ : Vm} {B : Pt} {v : Option Value} {g g' : JFrame} (hW : (s.setVm vm).WarmedH vm₁) (X' : Stand p l e R ((s.setVm vm).setVm B.U.vm) m args below meth c B.U B.locs B.cells B.slots) (hS : (s.setVm vm).Since B.U.vm B.U.heap.size)
    (hP : ∃ L, (Q' v B.U.vm B.U.heap ∧ Fr Z.heap.size L ∧ Ext Z.heap B.U.heap) ∧ B.locs = locs ++ L ∧ B.cells = ce + rm.cells ∧ B.slots = sl + rm.slots ∧ CHr Z EL vm h B.U.vm B.U.heap ∧ (nb = true → (T.setVm vm₁).WarmedH B.U.vm)) (st' : Steps p.tables e below (T.setTop g) (B.U.setTop g')) :
    ∃ T' L h' vm', OW p l e R s m args below meth c Z a0 EL nb own code ml ret nm vm' T' (locs ++ L) (ce + rm.cells) (sl + rm.slots) h' ∧ Q' v vm' h' ∧ CHr Z EL vm h vm' h' ∧ Lt p e below T g T' g' := by
  obtain ⟨U, Lc, cc, ss⟩ := B
  obtain ⟨L, ⟨q1, q2, q3⟩, q4, q5, q6, q7, q8⟩ := hP
  dsimp only [Pt.U, Pt.locs, Pt.cells, Pt.slots] at *
  subst q4 q5 q6
  obtain ⟨g1, X, e0, ⟨k0, hS0, hk⟩, hZ, ho, hC0, hF0, hE0, hn0, hEW⟩ := W
  refine ⟨U, L, U.heap, U.vm, ⟨g1, X', rfl, ⟨_, hS0.trans hS (Nat.le_trans hk q7.2.1), Nat.le_refl _⟩, State.Warmed39.trans (t := s.setVm vm) hZ hS.1, (hS.1.alike.findClass _ _).trans ho, hC0.trans q7, hF0.app q2, q3, fun q => ?_, hEW⟩, q1, q7, fun t k => st'.trans k⟩
  exact State.WarmedH.trans (t := T.setVm vm₁) (State.WarmedH.trans (t := s.setVm vm) (hn0 q) hW) (q8 q)
/-- a static method by its contract -/
theorem oCallS (W : OW p l e R s m args below meth c Z a0 EL nb own code ml ret nm vm T locs ce sl h) {idx : Nat} {argsL : List Value} (hM : OC l Z EL nb [] y bytes maxL ret' rm argsL.toArray h sf Q') (hsf : ∀ x ∈ sf, x < h.size ∧ Safe Z EL vm h x) (w1 : (Jvm.Cond.methodLink own idx y).before a0 Z = true) (w2 : (Jvm.Cond.static y).before a0 Z = true) (wz : (Jvm.Cond.initialized y.cls).before a0 Z = true) (wc : (Jvm.Cond.code y bytes maxL ret').before a0 Z = true)
    (hy : y.cls ≠ "java/lang/invoke/MethodHandle" ∧ y.cls ≠ "java/lang/invoke/VarHandle") {na : Nat} (hna : argsL.length = na) (har : XT.arity y.desc = some na) (hsz : ls.size = ml) {stk : List Value} (hst : stk = argsL.reverse ++ st) (hd : decode code pc = .ok (.invokestatic idx, 3))
    {V : Nat} (hV : (st.map fun v => v.category).sum ≤ V) (hf : rm.frames + 1 ≤ R.frames) (hl : V + (maxL + 11) + rm.locals ≤ R.locals) (hc : ce + rm.cells ≤ R.cells) (hs : sl + rm.slots ≤ R.slots) :
    ∃ v T' L h' vm', OW p l e R s m args below meth c Z a0 EL nb own code ml ret nm vm' T' (locs ++ L) (ce + rm.cells) (sl + rm.slots) h' ∧ Q' v vm' h' ∧ CHr Z EL vm h vm' h' ∧ Lt p e below T (mkF m pc ls stk) T' (mkF m (pc + 3) ls (v.toList ++ st)) := by
  obtain ⟨v, vm₁, B, hW, X', hS, hgr, hP, st'⟩ := RoadKit.callSS W.2.1 W.1.1 (y := y) W.owns (mvT W.warm w1) (mvT W.warm w2) (mvT W.warm wz) (mvT W.warm wc) hy (oBack W hM hsf wc wz hf hl) (g := mkF m pc ls stk) rfl (hsz.trans W.1.2.2.1.symm) (argsL := argsL) (rest := st) (XT.arity_len har hna) hst (by show 2 * 0 + _ ≤ _; omega) (oDec W hd) (fun _ _ => ⟨rfl, W.heap, hc, hs⟩)
  exact ⟨v, oCalled W hW X' hS hP st'⟩
/-- a constructor by its contract -/
theorem oCallN (W : OW p l e R s m args below meth c Z a0 EL nb own code ml ret nm vm T locs ce sl h) {idx : Nat} {argsL : List Value} {a : Addr} (hM : OC l Z EL nb [] y bytes maxL none rm (.ref a :: argsL).toArray h sf Q') (hsf : ∀ x ∈ sf, x < h.size ∧ Safe Z EL vm h x) (hy1 : y.name = "<init>") (w1 : (Jvm.Cond.methodLink own idx y).before a0 Z = true) (w2 : (Jvm.Cond.instanceMethod y).before a0 Z = true) (wz : (Jvm.Cond.initialized y.cls).before a0 Z = true) (wc : (Jvm.Cond.code y bytes maxL none).before a0 Z = true)
    (hy : y.cls ≠ "java/lang/invoke/MethodHandle" ∧ y.cls ≠ "java/lang/invoke/VarHandle") {na : Nat} (hna : argsL.length = na) (har : XT.arity y.desc = some na) (hsz : ls.size = ml) {stk : List Value} (hst : stk = argsL.reverse ++ .ref a :: st) (hd : decode code pc = .ok (.invokespecial idx, 3))
    {V : Nat} (hV : (st.map fun v => v.category).sum ≤ V) (hf : rm.frames + 1 ≤ R.frames) (hl : V + (maxL + 11) + rm.locals ≤ R.locals) (hc : ce + rm.cells ≤ R.cells) (hs : sl + rm.slots ≤ R.slots) :
    ∃ v T' L h' vm', OW p l e R s m args below meth c Z a0 EL nb own code ml ret nm vm' T' (locs ++ L) (ce + rm.cells) (sl + rm.slots) h' ∧ Q' v vm' h' ∧ CHr Z EL vm h vm' h' ∧ Lt p e below T (mkF m pc ls stk) T' (mkF m (pc + 3) ls (v.toList ++ st)) := by
  obtain ⟨v, vm₁, B, hW, X', hS, hgr, hP, st'⟩ := W.2.1.specialBackS W.1.1 (y := y) hy1 W.owns (mvT W.warm w1) (mvT W.warm w2) (mvT W.warm wc) hy (oBack W hM hsf wc wz hf hl) (g := mkF m pc ls stk) rfl (hsz.trans W.1.2.2.1.symm) (Steps.refl _) (a := a) (argsL := argsL) (rest := st) (XT.arity_len har hna) hst (by show 2 * 0 + _ ≤ _; omega) (oDec W hd) (fun _ _ => ⟨rfl, W.heap, hc, hs⟩)
  exact ⟨v, oCalled W hW X' hS hP st'⟩
/-- an instance method by its contract -/
theorem oCallV (W : OW p l e R s m args below meth c Z a0 EL nb own code ml ret nm vm T locs ce sl h) {idx : Nat} {x : MethodName} {C : String} {argsL : List Value} {a : Addr} (E : Exa Z h a C) (hM : OC l Z EL nb [] y bytes maxL ret' rm (.ref a :: argsL).toArray h sf Q') (hsf : ∀ x ∈ sf, x < h.size ∧ Safe Z EL vm h x) (w1 : (Jvm.Cond.methodLink own idx x).before a0 Z = true) (w2 : (Jvm.Cond.declares x).before a0 Z = true) (nf : NotFace (s.setVm vm) x) (w3 : (Jvm.Cond.selects C x y).before a0 Z = true) (w4 : (Jvm.Cond.instanceMethod y).before a0 Z = true) (wz : (Jvm.Cond.initialized y.cls).before a0 Z = true) (wc : (Jvm.Cond.code y bytes maxL ret').before a0 Z = true)
    (hy : x.cls ≠ "java/lang/invoke/MethodHandle" ∧ x.cls ≠ "java/lang/invoke/VarHandle") {na : Nat} (hna : argsL.length = na) (har : XT.arity x.desc = some na) (hsz : ls.size = ml) {stk : List Value} (hst : stk = argsL.reverse ++ .ref a :: st) (hd : decode code pc = .ok (.invokevirtual idx, 3))
    {V : Nat} (hV : (st.map fun v => v.category).sum ≤ V) (hf : rm.frames + 1 ≤ R.frames) (hl : V + (maxL + 11) + rm.locals ≤ R.locals) (hc : ce + rm.cells ≤ R.cells) (hs : sl + rm.slots ≤ R.slots) :
    ∃ v T' L h' vm', OW p l e R s m args below meth c Z a0 EL nb own code ml ret nm vm' T' (locs ++ L) (ce + rm.cells) (sl + rm.slots) h' ∧ Q' v vm' h' ∧ CHr Z EL vm h vm' h' ∧ Lt p e below T (mkF m pc ls stk) T' (mkF m (pc + 3) ls (v.toList ++ st)) := by
  obtain ⟨cB, kB, i1, i2, i3⟩ := isOf (s := s.setVm vm) (T := T) W.warm W.heap E
  obtain ⟨v, vm₁, B, hW, X', hS, hgr, hP, st'⟩ := W.2.1.virtualBackS W.1.1 (y := x) (z := y) W.owns (mvT W.warm w1) (mvT W.warm w2) nf (mvT W.warm w3) (mvT W.warm w4) hy (oBack W hM hsf wc wz hf hl) i1 i3 (g := mkF m pc ls stk) rfl (hsz.trans W.1.2.2.1.symm) (Steps.refl _) (argsL := argsL) (rest := st) (XT.arity_len har hna) hst (by show 2 * 0 + _ ≤ _; omega) (oDec W hd) (fun _ _ => ⟨rfl, W.heap, hc, hs⟩)
  exact ⟨v, oCalled W hW X' hS hP st'⟩
end Calls
end Jvm.OwnK
namespace Jvm.OwnK
open Jvm Sem ClassFile Op Lib Jvm.Stand Jvm.Free Jvm.LawKit Jvm.RoadKit Bundle
theorem n_lt {a b : Nat} (ha : a < 2147483648) (hb : b < 2147483648) : Int32.ofNat a < Int32.ofNat b ↔ a < b := by
  rw [Int32.lt_iff_toInt_lt, Int32.toInt_ofNat_small ha, Int32.toInt_ofNat_small hb]; omega
theorem n_nn {a : Nat} (ha : a < 2147483648) : ¬ Int32.ofNat a < 0 := by
  rw [Int32.lt_iff_toInt_lt, Int32.toInt_ofNat_small ha]
  show ¬ ((a : Int) < 0)
  omega
theorem n_cl {a : Nat} (ha : a < 2147483648) : (Int32.ofNat a).toNatClampNeg = a := by
  rw [← Int32.toNat_toInt, Int32.toInt_ofNat_small ha]; rfl
theorem n_in (a : Nat) : Int32.ofNat a + 1 = Int32.ofNat (a + 1) := by rw [Int32.ofNat_add]; rfl
theorem nar_b (x : Int32) : nar .byte x.toInt8.toInt32 = x.toInt8.toInt32 := by
  show x.toInt8.toInt32.toInt8.toInt32 = _
  rw [Int8.toInt8_toInt32]
theorem nar_c (x : Int32) : nar .char x.toUInt32.toUInt16.toUInt32.toInt32 = x.toUInt32.toUInt16.toUInt32.toInt32 := by
  show x.toUInt32.toUInt16.toUInt32.toInt32.toUInt32.toUInt16.toUInt32.toInt32 = _
  rw [UInt32.toUInt32_toInt32, UInt16.toUInt16_toUInt32]
theorem nar_z {x : Int32} (h : x = 0 ∨ x = 1) : nar .boolean x = x := by rcases h with rfl | rfl <;> rfl
/-- a char of 0 to 255 is what i2c makes of it -/
theorem i2c_255 (x : Int32) : (x &&& 255).toUInt32.toUInt16.toUInt32.toInt32 = x &&& 255 := i2c_mask x
theorem m255 (x : Int32) : ¬ (x &&& 255) < 0 ∧ ¬ (255 : Int32) < (x &&& 255) := by
  have h := c_and x 255 (by decide)
  constructor
  · rw [Int32.lt_iff_toInt_lt]; exact Int.not_lt.mpr h.1
  · rw [Int32.lt_iff_toInt_lt]; exact Int.not_lt.mpr h.2
theorem own_nar255 (x : Int32) : nar .char (x &&& 255) = x &&& 255 := i2c_mask x
theorem own_all1 {P : Int32 → Prop} {a : Int32} (ha : P a) : ∀ c ∈ [a], P c := fun c hc => by cases List.mem_singleton.mp hc; exact ha
theorem own_all2 {P : Int32 → Prop} {a b : Int32} (ha : P a) (hb : P b) : ∀ c ∈ [a, b], P c := fun c hc => by
  rcases List.mem_cons.mp hc with rfl | hc
  · exact ha
  · exact own_all1 hb c hc
theorem own_all3 {P : Int32 → Prop} {a b c : Int32} (ha : P a) (hb : P b) (hc : P c) : ∀ x ∈ [a, b, c], P x := fun x hx => by
  rcases List.mem_cons.mp hx with rfl | hx
  · exact ha
  · exact own_all2 hb hc x hx
theorem own_all4 {P : Int32 → Prop} {a b c d : Int32} (ha : P a) (hb : P b) (hc : P c) (hd : P d) : ∀ x ∈ [a, b, c, d], P x := fun x hx => by
  rcases List.mem_cons.mp hx with rfl | hx
  · exact ha
  · exact own_all3 hb hc hd x hx
theorem narC {c : Int32} (h : ¬ c < 0 ∧ ¬ (255 : Int32) < c) : nar .char c = c := by
  have e := c_i2c c
  simp only [Int32.lt_iff_toInt_lt] at h
  have k0 : (0 : Int32).toInt = 0 := rfl
  have k1 : (255 : Int32).toInt = 255 := rfl
  rw [k0, k1] at h
  apply Int32.toInt_inj.mp
  show (c.toUInt32.toUInt16.toUInt32.toInt32).toInt = c.toInt
  omega
theorem shr0 (x : Int32) : x >>> ((0 : Int32) &&& 31) = x := by
  apply Int32.toInt_inj.mp
  rw [c_ishr x 0 0 (by decide)]
  simp
theorem own_len0 {cs : List Int32} (hl : cs.length ≤ 4000) (h : Int32.ofNat cs.length = 0) : cs = [] := by
  have := congrArg Int32.toNatClampNeg h
  rw [n_cl (by omega)] at this
  exact List.length_eq_zero_iff.mp (by simpa using this)
theorem own_ltn {i : Int32} (hi : ¬ i < 0) {n : Nat} (hl : n ≤ 4000) (h : i.toNatClampNeg < n) : i < Int32.ofNat n := by
  have e := (back32 hi).1
  rw [← e]
  exact (n_lt (by omega) (by omega)).mpr h
/-- a byte read back as a char -/
theorem own_lo8c {c : Int32} (h : ¬ c < 0 ∧ ¬ (255 : Int32) < c) : (c.toInt8.toInt32 &&& (255 : Int32)).toUInt32.toUInt16.toUInt32.toInt32 = c := by
  rw [i2c_mask]
  have e := c_i2b c
  have m := c_mask c.toInt8.toInt32 255 8 (by decide) (by decide)
  simp only [Int32.lt_iff_toInt_lt] at h
  have k0 : (0 : Int32).toInt = 0 := rfl
  have k1 : (255 : Int32).toInt = 255 := rfl
  rw [k0, k1] at h
  apply Int32.toInt_inj.mp
  rw [m]
  have k2 : ((2 ^ 8 : Nat) : Int) = 256 := by decide
  rw [k2]
  omega
theorem refNarA {v : Value} (h : v.isRef = true) (t : FieldType) : narrow (.array t) v = v := by cases v <;> simp_all [Value.isRef] <;> rfl
theorem refFitsA {v : Value} (h : v.isRef = true) (t : FieldType) : fits (.array t) v = true := by cases v <;> simp_all [Value.isRef] <;> rfl
theorem refNar {v : Value} (h : v.isRef = true) (C : String) : narrow (.object C) v = v := by cases v <;> simp_all [Value.isRef] <;> rfl
theorem refFits {v : Value} (h : v.isRef = true) (C : String) : fits (.object C) v = true := by cases v <;> simp_all [Value.isRef] <;> rfl
theorem safe0 {Z : State} {vm : Vm} {h : Heap} {x : Addr} : Safe Z [] vm h x := fun ⟨p, hp, _⟩ => by cases hp
theorem refCat {v : Value} (h : v.isRef = true) : v.category = 1 := by cases v <;> simp_all [Value.isRef, Value.category]
theorem own_fold : ∀ (vs : List Value) (acc : Array Slot), (∀ v ∈ vs, v.category = 1) → vs.foldl (fun acc v => if v.category = 2 then (acc.push (.val v)).push .second else acc.push (.val v)) acc = acc ++ (vs.map Slot.val).toArray
  | [], acc, _ => by simp
  | v :: vs, acc, h => by
    have hv : ¬ v.category = 2 := by rw [h v (List.mem_cons_self ..)]; decide
    rw [List.foldl_cons, if_neg hv, own_fold vs _ (fun w hw => h w (List.mem_cons_of_mem _ hw))]
    simp
theorem own_ef {m : MethodId} {vs : List Value} {n : Nat} (h : ∀ v ∈ vs, v.category = 1) : entryFrame m vs.toArray n = mkF m 0 ((vs.map Slot.val).toArray ++ Array.replicate (n - vs.length) .unset) [] := by
  have e := own_fold vs #[] h
  simp only [entryFrame, mkF, argsToLocals, List.foldl_toArray', List.size_toArray]
  rw [e]
  simp
theorem own_isR (a : Addr) : (Value.ref a).isRef = true := rfl
theorem own_isN : Value.null.isRef = true := rfl
theorem own_caR (a : Addr) : (Value.ref a).category = 1 := rfl
theorem own_caN : Value.null.category = 1 := rfl
theorem own_caI (z : Int32) : (Value.int z).category = 1 := rfl
end Jvm.OwnK
namespace Jvm.OwnK
open Jvm Sem ClassFile Op Lib Jvm.Stand Jvm.Free Jvm.LawKit Jvm.RoadKit Bundle
section Start
variable {args : Array Value} {s : State} {a b t u : Term}
/-- what an equation of the sheet says of its first side -/
theorem eqv {y : Value} (h : (Jvm.Cond.eq a b).value args s none s [] = some true) (hb : b.eval args s none [] s = some y) (hy : y.isRef = true ∨ ∃ n, y = .int n) : a.eval args s none [] s = some y := by
  obtain ⟨x, y', h1, h2, -, -⟩ := cmp_v (Or.inl h)
  cases h2.symm.trans hb
  rw [h1]
  rcases hy with hy | ⟨n, rfl⟩
  · cases x <;> cases y <;> simp_all [Cond.value, Value.isRef]
  · cases x <;> simp_all [Cond.value]
/-- an array that stood at the start, its length and its components told by the sheet -/
theorem arrStart (hf : Fit s) {va : Addr} {ty : FieldType} (ht : t.eval args s none [] s = some (.ref va)) (h1 : (Jvm.Cond.arrayOf t ty).value args s none s [] = some true) {n : Nat} (hn : n < 2147483648) (h2 : (Jvm.Cond.eq (.length t) (.int (Int32.ofNat n))).value args s none s [] = some true)
    {vs : List Value} (hl : vs.length = n) (H : ∀ c, s.heap[va]? = some c → HasL c 0 vs) : ∃ k, OA s s.heap va k ty vs := by
  obtain ⟨c, A⟩ := Arr.start ht h1
  have hlen : (Term.length t).eval args s none [] s = some (.int (Int32.ofNat n)) := eqv h2 rfl (Or.inr ⟨_, rfl⟩)
  obtain ⟨sd, SA, hev, harrAt, -⟩ := Term.length_spec hlen
  have e0 : sd = va := by have := hev.symm.trans ht; injection this with q; injection q
  subst e0
  have h31 := SBG.length_lt hev harrAt hlen
  have hA : s.arrayAt? sd = some c := A.fin (U := s) (Vm.Alike.refl _)
  cases harrAt.symm.trans hA
  have e : (Term.length t).eval args s none [] s = some (.int c.slots.size.toInt32) := len_f hev hA h31
  have e2 : c.slots.size.toInt32 = Int32.ofNat n := by have := e.symm.trans hlen; injection this with q; injection q
  exact ⟨c.cls, Int32.ofNat n, .int 0, Arv.start hf A h31 e2 (n_nn hn) (by rw [n_cl hn, hl]) (H c A.1), by rw [n_cl hn, hl]⟩
end Start
end Jvm.OwnK
namespace Jvm.OwnK
open Jvm Sem ClassFile Op Lib Jvm.Stand Jvm.Free Jvm.LawKit Jvm.RoadKit Bundle
section Dig
theorem own_cons {P : Int32 → Prop} {a : Int32} {l : List Int32} (ha : P a) (hl : ∀ c ∈ l, P c) : ∀ c ∈ a :: l, P c := fun c hc => by
  rcases List.mem_cons.mp hc with rfl | hc
  · exact ha
  · exact hl c hc
theorem own_nil {P : Int32 → Prop} : ∀ c ∈ ([] : List Int32), P c := fun _ h => nomatch h
def Dig (c : Int32) : Prop := ¬ c < 48 ∧ ¬ (57 : Int32) < c
theorem Dig.int {c : Int32} (h : Dig c) : 48 ≤ c.toInt ∧ c.toInt ≤ 57 := by
  have h1 := h.1
  have h2 := h.2
  rw [Int32.lt_iff_toInt_lt] at h1 h2
  have k0 : (48 : Int32).toInt = 48 := rfl
  have k1 : (57 : Int32).toInt = 57 := rfl
  rw [k0] at h1; rw [k1] at h2
  omega
theorem Dig.of {c : Int32} (h : 48 ≤ c.toInt ∧ c.toInt ≤ 57) : Dig c := by
  constructor
  · rw [Int32.lt_iff_toInt_lt]; have k0 : (48 : Int32).toInt = 48 := rfl
    rw [k0]; omega
  · rw [Int32.lt_iff_toInt_lt]; have k0 : (57 : Int32).toInt = 57 := rfl
    rw [k0]; omega
theorem Dig.c255 {c : Int32} (h : Dig c) : ¬ c < 0 ∧ ¬ (255 : Int32) < c := by
  have := h.int
  have k0 : (0 : Int32).toInt = 0 := rfl
  have k1 : (255 : Int32).toInt = 255 := rfl
  constructor
  · rw [Int32.lt_iff_toInt_lt, k0]; omega
  · rw [Int32.lt_iff_toInt_lt, k1]; omega
theorem Dig.cases {c : Int32} (h : Dig c) : c = 48 ∨ c = 49 ∨ c = 50 ∨ c = 51 ∨ c = 52 ∨ c = 53 ∨ c = 54 ∨ c = 55 ∨ c = 56 ∨ c = 57 := by
  have := h.int
  have e : ∀ k : Int32, c.toInt = k.toInt → c = k := fun k q => Int32.toInt_inj.mp q
  have : c.toInt = 48 ∨ c.toInt = 49 ∨ c.toInt = 50 ∨ c.toInt = 51 ∨ c.toInt = 52 ∨ c.toInt = 53 ∨ c.toInt = 54 ∨ c.toInt = 55 ∨ c.toInt = 56 ∨ c.toInt = 57 := by omega
  rcases this with q | q | q | q | q | q | q | q | q | q
  · exact Or.inl (e 48 q)
  · exact Or.inr (Or.inl (e 49 q))
  · exact Or.inr (Or.inr (Or.inl (e 50 q)))
  · exact Or.inr (Or.inr (Or.inr (Or.inl (e 51 q))))
  · exact Or.inr (Or.inr (Or.inr (Or.inr (Or.inl (e 52 q)))))
  · exact Or.inr (Or.inr (Or.inr (Or.inr (Or.inr (Or.inl (e 53 q))))))
  · exact Or.inr (Or.inr (Or.inr (Or.inr (Or.inr (Or.inr (Or.inl (e 54 q)))))))
  · exact Or.inr (Or.inr (Or.inr (Or.inr (Or.inr (Or.inr (Or.inr (Or.inl (e 55 q))))))))
  · exact Or.inr (Or.inr (Or.inr (Or.inr (Or.inr (Or.inr (Or.inr (Or.inr (Or.inl (e 56 q)))))))))
  · exact Or.inr (Or.inr (Or.inr (Or.inr (Or.inr (Or.inr (Or.inr (Or.inr (Or.inr (e 57 q)))))))))
theorem Dig.shr {c : Int32} (h : Dig c) : XT.ushr c 8 = 0 := by
  rcases h.cases with rfl | rfl | rfl | rfl | rfl | rfl | rfl | rfl | rfl | rfl <;> rfl
theorem Dig.d {c : Int32} (h : Dig c) : ¬ (c - 48) < 0 ∧ (c - 48) < 10 := by
  rcases h.cases with rfl | rfl | rfl | rfl | rfl | rfl | rfl | rfl | rfl | rfl <;> decide
theorem Dig.sub {c : Int32} (h : Dig c) : (c - 48).toInt = c.toInt - 48 := by
  have e := c_isub c 48
  have := h.int
  have k0 : (48 : Int32).toInt = 48 := rfl
  rw [k0] at e
  have := (c - 48).le_toInt
  have := (c - 48).toInt_lt
  omega
theorem Dig.nat {c : Int32} (h : Dig c) : (c.toNatClampNeg : Int) = c.toInt := by
  have := h.int
  rw [← Int32.toNat_toInt]; omega
/-- the value of decimal digits behind a -/
def dv : List Int32 → Nat → Nat
  | [], a => a
  | c :: cs, a => dv cs (10 * a + (c.toNatClampNeg - 48))
theorem dv_le : ∀ (cs : List Int32) (a : Nat), a ≤ dv cs a
  | [], a => Nat.le_refl _
  | c :: cs, a => Nat.le_trans (by omega) (dv_le cs (10 * a + (c.toNatClampNeg - 48)))
/-- one turn of parseInt's loop, in numbers -/
theorem dv_turn {acc c : Int32} {a N : Nat} {rest : List Int32} (hc : Dig c) (hN : dv (c :: rest) a = N) (hb : N < 2147483648) (ha : acc.toInt = -(a : Int)) :
    ¬ acc < (-2147483647 : Int32) / 10 ∧ ¬ acc * 10 < (-2147483647 : Int32) + (c - 48) ∧ (acc * 10 - (c - 48)).toInt = -((10 * a + (c.toNatClampNeg - 48) : Nat) : Int) := by
  have h1 := dv_le rest (10 * a + (c.toNatClampNeg - 48))
  have h2 : dv rest (10 * a + (c.toNatClampNeg - 48)) = N := hN
  have h3 := hc.sub
  have h4 := hc.int
  have h5 := hc.nat
  have m := c_imul acc 10
  have k10 : (10 : Int32).toInt = 10 := rfl
  rw [k10, ha] at m
  have m1 := (acc * 10).le_toInt
  have m2 := (acc * 10).toInt_lt
  have hm : (acc * 10).toInt = -(10 * (a : Int)) := by omega
  have s := c_isub (acc * 10) (c - 48)
  rw [hm, h3] at s
  have s1 := (acc * 10 - (c - 48)).le_toInt
  have s2 := (acc * 10 - (c - 48)).toInt_lt
  have t := c_iadd (-2147483647) (c - 48)
  have kl : (-2147483647 : Int32).toInt = -2147483647 := rfl
  rw [kl, h3] at t
  have t1 := ((-2147483647 : Int32) + (c - 48)).le_toInt
  have t2 := ((-2147483647 : Int32) + (c - 48)).toInt_lt
  refine ⟨?_, ?_, ?_⟩
  · rw [Int32.lt_iff_toInt_lt, ha]
    have : ((-2147483647 : Int32) / 10).toInt = -214748364 := rfl
    rw [this]; omega
  · rw [Int32.lt_iff_toInt_lt, hm]; omega
  · omega
theorem dv_end {acc : Int32} {a : Nat} (hb : a < 2147483648) (ha : acc.toInt = -(a : Int)) : -acc = Int32.ofNat a := by
  apply Int32.toInt_inj.mp
  rw [Int32.toInt_ofNat_small hb]
  have e := c_ineg acc
  rw [ha] at e
  have := (-acc).le_toInt
  have := (-acc).toInt_lt
  omega
theorem own_sub0 (x : Int32) : x - 0 = x := by
  apply Int32.toInt_inj.mp
  have e := c_isub x 0
  have k0 : (0 : Int32).toInt = 0 := rfl
  rw [k0] at e
  have := (x - 0).le_toInt
  have := (x - 0).toInt_lt
  have := x.le_toInt
  have := x.toInt_lt
  omega
/-- the decimal digit of n at p, as a char -/
def dg (n p : Int32) : Int32 := 48 + n / p % 10
theorem dg_int {n p : Int32} {P : Nat} (hn : ¬ n < 0) (hp : p.toInt = P) (h1 : p ≠ -1) (hP : 0 < P) : (dg n p).toInt = 48 + n.toInt / P % 10 ∧ 0 ≤ n.toInt := by
  have hn0 : 0 ≤ n.toInt := by rw [Int32.lt_iff_toInt_lt] at hn; exact Int.not_lt.mp hn
  have e1 := (c_idiv n p P hp h1).1 hn0
  have q0 : 0 ≤ (n / p).toInt := by rw [e1]; exact Int.ediv_nonneg hn0 (by omega)
  have e2 := (c_irem (n / p) 10 10 rfl).1 q0
  have e3 := c_iadd 48 (n / p % 10)
  have k0 : (48 : Int32).toInt = 48 := rfl
  rw [k0, e2, e1] at e3
  have := (dg n p).le_toInt
  have := (dg n p).toInt_lt
  refine ⟨?_, hn0⟩
  have e4 : ((dg n p).toInt - (48 + n.toInt / P % 10)) % 4294967296 = 0 := e3
  omega
theorem dg_dig {n p : Int32} {P : Nat} (hn : ¬ n < 0) (hp : p.toInt = P) (h1 : p ≠ -1) (hP : 0 < P) : Dig (dg n p) := by
  have e := (dg_int hn hp h1 hP).1
  apply Dig.of; omega
theorem dg_i2c {n p : Int32} {P : Nat} (hn : ¬ n < 0) (hp : p.toInt = P) (h1 : p ≠ -1) (hP : 0 < P) : (48 + n / p % 10).toUInt32.toUInt16.toUInt32.toInt32 = dg n p := by
  have d := (dg_dig hn hp h1 hP).int
  have e := c_i2c (dg n p)
  apply Int32.toInt_inj.mp
  show (dg n p).toUInt32.toUInt16.toUInt32.toInt32.toInt = _
  omega
theorem dv_dg {n p : Int32} (P : Nat) (hn : ¬ n < 0) (hp : p.toInt = P) (h1 : p ≠ -1) (hP : 0 < P) (rest : List Int32) : dv (dg n p :: rest) (n.toNatClampNeg / (P * 10)) = dv rest (n.toNatClampNeg / P) := by
  obtain ⟨e, hn0⟩ := dg_int hn hp h1 hP
  have d := dg_dig hn hp h1 hP
  have d1 := d.nat
  have en : (n.toNatClampNeg : Int) = n.toInt := by rw [← Int32.toNat_toInt]; omega
  show dv rest _ = dv rest _
  have k : (n.toInt / (P : Int)) = ((n.toNatClampNeg / P : Nat) : Int) := by rw [← en]; rfl
  rw [k] at e
  rw [← Nat.div_div_eq_div_mul]
  congr 1
  omega
theorem dg_lead {n p : Int32} {P : Nat} (hn : ¬ n < 0) (hp : p.toInt = P) (h1 : p ≠ -1) (hP : 0 < P) (lo : ¬ n < p) (hi : n.toInt < 10 * (P : Int)) : ¬ dg n p = 48 := by
  obtain ⟨e, hn0⟩ := dg_int hn hp h1 hP
  intro q
  rw [q] at e
  have k0 : (48 : Int32).toInt = 48 := rfl
  rw [k0] at e
  rw [Int32.lt_iff_toInt_lt, hp] at lo
  have a1 : 1 ≤ n.toInt / (P : Int) := (Int.le_ediv_iff_mul_le (by omega)).mpr (by omega)
  have a2 : n.toInt / (P : Int) < 10 := Int.ediv_lt_of_lt_mul (by omega) (by omega)
  omega
/-- the plain decimal form of n -/
def Good (cs : List Int32) (n : Int32) : Prop := (0 < cs.length ∧ cs.length ≤ 10) ∧ (∀ c ∈ cs, Dig c) ∧ (∀ c, cs[0]? = some c → 1 < cs.length → ¬ c = 48) ∧ dv cs 0 = n.toNatClampNeg
variable {args : Array Value} {s : State} {t : Term}
theorem own_isref (h : (Jvm.Cond.isRef t).value args s none s [] = some true) : ∃ v, t.eval args s none [] s = some v ∧ v.isRef = true := by
  simp only [Jvm.Cond.value] at h
  cases q : t.eval args s none [] s with
  | none => simp [q] at h
  | some v => exact ⟨v, rfl, by cases v <;> simp_all [Value.isRef]⟩
theorem hasL_self {c : Cell} : ∀ (r : List Value) (i : Nat), c.slots.toList.drop i = r → HasL c i r
  | [], _, _ => trivial
  | v :: r, i, h => by
    refine ⟨?_, hasL_self r (i + 1) ?_⟩
    · have := congrArg (fun l => l[0]?) h
      simpa [List.getElem?_drop] using this
    · have := congrArg List.tail h
      simpa [List.tail_drop] using this
/-- an array that stood at the start, its length told; what the sheet says of a component -/
theorem arrStart2 (hf : Fit s) {va : Addr} {ty : FieldType} (ht : t.eval args s none [] s = some (.ref va)) (h1 : (Jvm.Cond.arrayOf t ty).value args s none s [] = some true) {n : Nat} (hn : n < 2147483648) (h2 : (Jvm.Cond.eq (.length t) (.int (Int32.ofNat n))).value args s none s [] = some true) :
    ∃ k vs, OA s s.heap va k ty vs ∧ vs.length = n ∧ ∀ (j : Int32) v, (Term.elem t (.int j)).eval args s none [] s = some v → vs[j.toNatClampNeg]? = some v := by
  obtain ⟨c, A⟩ := Arr.start ht h1
  have hlen : (Term.length t).eval args s none [] s = some (.int (Int32.ofNat n)) := eqv h2 rfl (Or.inr ⟨_, rfl⟩)
  obtain ⟨sd, SA, hev, harrAt, -⟩ := Term.length_spec hlen
  have e0 : sd = va := by have := hev.symm.trans ht; injection this with q; injection q
  subst e0
  have h31 := SBG.length_lt hev harrAt hlen
  have hA : s.arrayAt? sd = some c := A.fin (U := s) (Vm.Alike.refl _)
  cases harrAt.symm.trans hA
  have e : (Term.length t).eval args s none [] s = some (.int c.slots.size.toInt32) := len_f hev hA h31
  have e2 : c.slots.size.toInt32 = Int32.ofNat n := by have := e.symm.trans hlen; injection this with q; injection q
  have e3 : c.slots.size = n := by
    have := congrArg Int32.toNatClampNeg e2
    rw [n_cl hn] at this
    rw [← this]; exact (n_cl h31).symm
  obtain ⟨k, O⟩ := arrStart hf ht h1 hn h2 (vs := c.slots.toList) (by simpa using e3) (fun c' hc' => by
    have := hc'.symm.trans A.1
    cases this
    exact hasL_self _ 0 (by simp))
  refine ⟨k, _, O, by simpa using e3, fun j v hv => ?_⟩
  obtain ⟨a, j', cell, q1, q2, q3, -, q5⟩ := Term.elem_spec hv
  cases q1.symm.trans ht
  cases q3.symm.trans hA
  have : j' = j := by have q : some (Value.int j) = some (Value.int j') := q2; injection q with q; injection q with q; exact q.symm
  subst this
  simpa using q5
end Dig
end Jvm.OwnK
namespace Jvm.OwnK
open Jvm Sem ClassFile Op Lib Jvm.Stand Jvm.Free Jvm.LawKit Jvm.RoadKit Bundle
section Copy
variable {p : Program} {l : Launch} {e : Env} {R : Room} {s : State} {m : MethodId} {args : Array Value} {below : List Frame} {meth : Method} {c : Code} {Z : State} {a0 : Array Value} {EL : List (String × Nat)} {nb : Bool} {own : String} {code : ByteArray} {ml : Nat} {ret : Option FieldType} {nm : String} {vm : Vm} {T : State} {locs : List Loc} {ce sl : Nat} {h : Heap} {pc : Nat} {ls : Array Slot} {st : List Value}
abbrev acM : MethodName := ⟨"java/lang/System", "arraycopy", "(Ljava/lang/Object;ILjava/lang/Object;II)V"⟩
/-- what a copy leaves -/
def cpy (ys xs : List Value) (o q n : Nat) : List Value := ys.take q ++ ((xs.drop o).take n ++ ys.drop (q + n))
theorem cpy_len {ys xs : List Value} {o q n : Nat} (h4 : o + n ≤ xs.length) (h5 : q + n ≤ ys.length) : (cpy ys xs o q n).length = ys.length := by
  simp only [cpy, List.length_append, List.length_take, List.length_drop]; omega
theorem cpy_at {ys xs : List Value} {o q n j : Nat} (h4 : o + n ≤ xs.length) (h5 : q + n ≤ ys.length) : (cpy ys xs o q n)[j]? = if q ≤ j ∧ j < q + n then xs[o + (j - q)]? else ys[j]? := by
  have l1 : (ys.take q).length = q := by rw [List.length_take]; omega
  have l2 : ((xs.drop o).take n).length = n := by rw [List.length_take, List.length_drop]; omega
  unfold cpy
  by_cases c1 : j < q
  · rw [if_neg (by omega), List.getElem?_append_left (by omega), List.getElem?_take, if_pos c1]
  · rw [List.getElem?_append_right (by omega), l1]
    by_cases c2 : j < q + n
    · rw [if_pos ⟨by omega, c2⟩, List.getElem?_append_left (by omega), List.getElem?_take, if_pos (by omega), List.getElem?_drop]
    · rw [if_neg (by omega), List.getElem?_append_right (by omega), l2, List.getElem?_drop]
      congr 1; omega
/-- System.arraycopy between two byte arrays, the second made since the law began -/
theorem oCopy (W : OW p l e R s m args below meth c Z a0 EL nb own code ml ret nm vm T locs ce sl h) {idx : Nat} {a b : Addr} {ka kb : ClassId} {xs ys : List Value} (A : OA Z h a ka .byte xs) (B : OA Z h b kb .byte ys) {o q n : Nat} (h4 : o + n ≤ xs.length) (h5 : q + n ≤ ys.length) (hfr : Z.heap.size ≤ b) (hS : Safe Z EL vm h b)
    (w1 : (Jvm.Cond.methodLink own idx acM).before a0 Z = true) (w2 : (Jvm.Cond.native acM).before a0 Z = true) (w3 : (Jvm.Cond.static acM).before a0 Z = true) (w4 : (Jvm.Cond.initialized "java/lang/System").before a0 Z = true)
    (hsz : ls.size = ml) (hd : decode code pc = .ok (.invokestatic idx, 3)) {V : Nat} (hV : (st.map fun v => v.category).sum ≤ V) (hf : 1 ≤ R.frames) (hl : V + 40 ≤ R.locals) :
    ∃ T' h', OW p l e R s m args below meth c Z a0 EL nb own code ml ret nm vm T' (locs ++ copyLocs b q n) ce sl h' ∧ Keep h h' [b] ∧ OA Z h' b kb .byte (cpy ys xs o q n) ∧ CHr Z EL vm h vm h' ∧
      Lt p e below T (mkF m pc ls (.int (Int32.ofNat n) :: .int (Int32.ofNat q) :: .ref b :: .int (Int32.ofNat o) :: .ref a :: st)) T' (mkF m (pc + 3) ls st) := by
  obtain ⟨n1, d1, ⟨cA, A1, hk1, hs1, hn1, H1, G1⟩, r1⟩ := A
  obtain ⟨n2, d2, ⟨cB, B1, hk2, hs2, hn2, H2, G2⟩, r2⟩ := B
  have b1 : cA.slots.size < 2 ^ 31 := by rw [hs1, ← Int32.toNat_toInt]; have := n1.toInt_lt; omega
  have b2 : cB.slots.size < 2 ^ 31 := by rw [hs2, ← Int32.toNat_toInt]; have := n2.toInt_lt; omega
  have eT := W.heap
  have hZ := W.warm
  have hTv : (s.setVm vm).vm.Alike T.vm := W.2.1.warmed.alike
  have XA : XT.Arr .byte a cA T := ⟨by rw [eT]; exact A1.1, State.isArrayOf_alike (hZ.alike.trans hTv) A1.2.1, A1.2.2, b1⟩
  have XB : XT.Arr .byte b cB T := ⟨by rw [eT]; exact B1.1, State.isArrayOf_alike (hZ.alike.trans hTv) B1.2.1, B1.2.2, b2⟩
  have xl : xs.length = cA.slots.size := by rw [← r1, hs1]
  have yl : ys.length = cB.slots.size := by rw [← r2, hs2]
  have gx : ∀ j, j < cA.slots.size → cA.slots[j]? = xs[j]? := fun j hj => by
    rw [H1 j hj, List.getD_eq_getElem?_getD, List.getElem?_eq_getElem (by omega)]; rfl
  have gy : ∀ j, j < cB.slots.size → cB.slots[j]? = ys[j]? := fun j hj => by
    rw [H2 j hj, List.getD_eq_getElem?_getD, List.getElem?_eq_getElem (by omega)]; rfl
  have gd : ∀ j, j < cA.slots.size → cA.slots.getD j .null = xs.getD j d1 := fun j hj => by
    rw [Array.getD_eq_getD_getElem?, H1 j hj]; rfl
  obtain ⟨T', B', X', P, e1, e2, e3, e4, st'⟩ := W.2.1.acopy W.1.1 W.owns (index := idx) (fun w hw => by
      simp only [XT.acW, List.mem_cons, List.not_mem_nil, or_false] at hw
      rcases hw with rfl | rfl | rfl | rfl
      · exact (mvT hZ w1 : (Jvm.Cond.methodLink own idx acM).before args (s.setVm vm) = true)
      · exact (mvT hZ w2 : (Jvm.Cond.native acM).before args (s.setVm vm) = true)
      · exact (mvT hZ w3 : (Jvm.Cond.static acM).before args (s.setVm vm) = true)
      · exact mvT hZ w4) XA XB (by decide) (o := o) (q := q) (n := n) rfl rfl rfl (by omega) (by omega)
    (fun i hi => ⟨by rw [gd _ (by omega)]; exact G1 _ (by omega), fun hr => by cases hr⟩) (g := mkF m pc ls (.int (Int32.ofNat n) :: .int (Int32.ofNat q) :: .ref b :: .int (Int32.ofNat o) :: .ref a :: st)) rfl (hsz.trans W.1.2.2.1.symm) rfl (oDec W hd) (W := V) (by show 2 * 0 + _ ≤ _; omega) hf hl
  have hb : b < h.size := B1.lt
  have K : Keep h T'.heap [b] := by
    refine ⟨by rw [P.2.2, eT]; exact Nat.le_refl _, fun x c' hx hn => ?_, fun x c' hx => ?_⟩
    · rw [P.2.1 x (fun q => hn (by rw [q]; exact List.mem_singleton.mpr rfl)), eT]; exact hx
    · by_cases q : x = b
      · subst q
        cases B1.1.symm.trans hx
        exact ⟨B', P.1, e1, e2, e3⟩
      · exact ⟨c', by rw [P.2.1 x q, eT]; exact hx, rfl, rfl, rfl⟩
  have hC : CHr Z EL vm h vm T'.heap := CHr.keep K (fun x hx => by cases List.mem_singleton.mp hx; exact hS) W.chv
  refine ⟨T', T'.heap, W.step X' rfl hC (W.fr.app fun y hy => ?_) (exK W.ext K (fun x hx => by cases List.mem_singleton.mp hx; exact hfr)), K, ⟨n2, d2, ⟨B', ⟨P.1, ⟨by rw [e2]; exact B1.2.1.1, by rw [e1]; exact B1.2.1.2⟩, by rw [e2]; exact B1.2.2⟩, by rw [e1]; exact hk2, by rw [e3]; exact hs2, hn2, fun j hj => ?_, fun j hj => ?_⟩, by rw [cpy_len h4 h5]; exact r2⟩, hC, st'⟩
  · simp only [copyLocs, List.mem_map] at hy
    obtain ⟨i, -, rfl⟩ := hy
    exact hfr
  · rw [e3] at hj
    rw [List.getD_eq_getElem?_getD, cpy_at h4 h5, e4 j]
    split
    · rename_i hq
      rw [gd _ (by omega), List.getD_eq_getElem?_getD, List.getElem?_eq_getElem (by omega)]; rfl
    · rw [gy j hj, List.getElem?_eq_getElem (by omega)]; rfl
  · rw [e3] at hj
    rw [List.getD_eq_getElem?_getD, cpy_at h4 h5]
    split
    · rename_i hq
      have := G1 (o + (j - q)) (by omega)
      rw [List.getD_eq_getElem?_getD, List.getElem?_eq_getElem (by omega)] at this
      rw [List.getElem?_eq_getElem (by omega)]; exact this
    · have := G2 j hj
      rw [List.getD_eq_getElem?_getD, List.getElem?_eq_getElem (by omega)] at this
      rw [List.getElem?_eq_getElem (by omega)]; exact this
end Copy
end Jvm.OwnK
namespace Jvm.OwnK
open Jvm Sem ClassFile Op Lib Jvm.Stand Jvm.Free Jvm.LawKit Jvm.RoadKit Bundle
section Sup
variable {p : Program} {l : Launch} {e : Env} {R : Room} {s : State} {m : MethodId} {args : Array Value} {below : List Frame} {meth : Method} {c : Code} {Z : State} {a0 : Array Value} {EL : List (String × Nat)} {nb : Bool} {own : String} {code : ByteArray} {ml : Nat} {ret : Option FieldType} {nm : String} {vm : Vm} {T : State} {locs : List Loc} {ce sl : Nat} {h : Heap} {pc : Nat} {ls : Array Slot} {st : List Value}
  {y : MethodName} {bytes : ByteArray} {maxL : Nat} {ret' : Option FieldType} {rm : Room} {as' : Array Value} {sf : List Addr} {Q' : Option Value → Vm → Heap → Prop}
/-- a class that some call lands in is no interface -/
theorem own_class {C : String} {z : MethodName} (w : (Jvm.Cond.selects C z z).before a0 Z = true) : ∃ cid k, Z.vm.findClass z.cls = some cid ∧ Z.vm.classes[cid]? = some k ∧ k.isInterface = false := by
  obtain ⟨c2, r2, m2, q1, q2, q3, q4, kP, hkP, hkPi⟩ := Cond.selects_spec w
  exact ⟨_, kP, findClass_of_methodNamed q3, hkP, hkPi⟩
theorem own_same (hy : y.cls ≠ "java/lang/invoke/MethodHandle" ∧ y.cls ≠ "java/lang/invoke/VarHandle") (wd : (Jvm.Cond.declares y).before a0 Z = true) (F : ∃ cid k, Z.vm.findClass y.cls = some cid ∧ Z.vm.classes[cid]? = some k ∧ k.isInterface = false) : (Jvm.Cond.sameMethod y.cls y.cls y.name y.desc).before a0 Z = true := by
  obtain ⟨r0, r, hn, hrm, -, -⟩ := Cond.declares_spec wd
  obtain ⟨cid, k, h1, h2, h3⟩ := F
  have hf := State.methodFound?_of_named hn hy
  have hn' : Z.methodNamed? ⟨y.cls, y.name, y.desc⟩ = some r0 := hn
  simp [Jvm.Cond.before, Jvm.Cond.holds, Jvm.Cond.value, h1, hf, hn', h2, h3]
/-- NotFace of a method whose class is told so -/
theorem own_nf (F : ∃ cid k, Z.vm.findClass y.cls = some cid ∧ Z.vm.classes[cid]? = some k ∧ k.isInterface = false) : NotFace Z y := fun r0 h0 => by
  obtain ⟨cid, k, h1, h2, h3⟩ := F
  cases (findClass_of_methodNamed h0).symm.trans h1
  exact ⟨k, h2, h3⟩
/-- super.m(..) -/
theorem oCallU (W : OW p l e R s m args below meth c Z a0 EL nb own code ml ret nm vm T locs ce sl h) {idx : Nat} {K : String} {argsL : List Value} {a : Addr} (F : Ins Z h a K true) (hM : OC l Z EL nb [] y bytes maxL ret' rm (.ref a :: argsL).toArray h sf Q') (hsf : ∀ x ∈ sf, x < h.size ∧ Safe Z EL vm h x) (w1 : (Jvm.Cond.methodLink own idx y).before a0 Z = true) (w2 : (Jvm.Cond.sameMethod y.cls y.cls y.name y.desc).before a0 Z = true) (w3 : (Jvm.Cond.instanceMethod y).before a0 Z = true) (w4 : (Jvm.Cond.superclass own y.cls).before a0 Z = true) (hn : y.name ≠ "<init>") (wz : (Jvm.Cond.initialized y.cls).before a0 Z = true) (wc : (Jvm.Cond.code y bytes maxL ret').before a0 Z = true)
    {na : Nat} (hna : argsL.length = na) (har : XT.arity y.desc = some na) (hsz : ls.size = ml) {stk : List Value} (hst : stk = argsL.reverse ++ .ref a :: st) (hd : decode code pc = .ok (.invokespecial idx, 3))
    {V : Nat} (hV : (st.map fun v => v.category).sum ≤ V) (hf : rm.frames + 1 ≤ R.frames) (hl : V + (maxL + 11) + rm.locals ≤ R.locals) (hc : ce + rm.cells ≤ R.cells) (hs : sl + rm.slots ≤ R.slots) :
    ∃ v T' L h' vm', OW p l e R s m args below meth c Z a0 EL nb own code ml ret nm vm' T' (locs ++ L) (ce + rm.cells) (sl + rm.slots) h' ∧ Q' v vm' h' ∧ CHr Z EL vm h vm' h' ∧ Lt p e below T (mkF m pc ls stk) T' (mkF m (pc + 3) ls (v.toList ++ st)) := by
  obtain ⟨v, vm₁, B, hW, X', hS, hgr, hP, st'⟩ := RoadKit.superBackS W.2.1 W.1.1 W.warm (y := y) W.owns w1 w2 w3 w4 hn (oBack W hM hsf wc wz hf hl) W.heap F (g := mkF m pc ls stk) rfl (hsz.trans W.1.2.2.1.symm) wc (argsL := argsL) (rest := st) (XT.arity_len har hna) hst (by show 2 * 0 + _ ≤ _; omega) (oDec W hd) (fun _ _ => ⟨rfl, W.heap, hc, hs⟩)
  exact ⟨v, oCalled W hW X' hS hP st'⟩
end Sup
end Jvm.OwnK
namespace Jvm.OwnK
open Jvm Sem ClassFile Op Lib Jvm.Stand Jvm.Free Jvm.LawKit Jvm.RoadKit Bundle
section Lists
variable {p : Program} {l : Launch} {e : Env} {R : Room} {s : State} {m : MethodId} {args : Array Value} {below : List Frame} {meth : Method} {c : Code} {Z : State} {a0 : Array Value} {EL : List (String × Nat)} {nb : Bool} {own : String} {code : ByteArray} {ml : Nat} {ret : Option FieldType} {nm : String} {vm : Vm} {T : State} {locs : List Loc} {ce sl : Nat} {h : Heap} {pc : Nat} {ls : Array Slot} {st : List Value}
  {y : MethodName} {bytes : ByteArray} {maxL : Nat} {ret' : Option FieldType} {rm : Room} {as' : Array Value} {sf : List Addr} {Q' : Option Value → Vm → Heap → Prop}
/-- a new array of references -/
theorem oNewR (W : OW p l e R s m args below meth c Z a0 EL nb own code ml ret nm vm T locs ce sl h) {idx : Nat} {C : String} (w1 : (Jvm.Cond.classLink own idx C).before a0 Z = true) (w2 : (Jvm.Cond.arrayOver (.object C)).before a0 Z = true) (hd : decode code pc = .ok (.anewarray idx, 3)) {n : Int32} (hn : ¬ n < 0) {cap : Nat} (hcap : n.toNatClampNeg ≤ cap) (hb : cap * 8 ≤ 536870912) (hc : ce + 1 ≤ R.cells) (hl : sl + cap ≤ R.slots) :
    ∃ T' h' a k, OW p l e R s m args below meth c Z a0 EL nb own code ml ret nm vm T' locs (ce + 1) (sl + cap) h' ∧ h.size ≤ a ∧ Ext h h' ∧ OA Z h' a k (.object C) (List.replicate n.toNatClampNeg .null) ∧ Ovr Z k C ∧ CHr Z EL vm h vm h' ∧
      Lt p e below T (mkF m pc ls (.int n :: st)) T' (mkF m (pc + 3) ls (.ref a :: st)) := by
  obtain ⟨T', h', cA, X', eT, E, A, O, st'⟩ := RoadKit.newR W.2.1 W.1.1 W.warm W.owns w1 w2 W.heap (g := mkF m pc ls (.int n :: st)) rfl (oDec W hd) rfl hn hcap hb hc hl
  have hC : CHr Z EL vm h vm h' := CHr.ext E W.chv
  have F := (Arv.new A hn).pad (vs' := [] ++ List.replicate n.toNatClampNeg (defaultValue (.object C))) (pad_rep [] _ _)
  exact ⟨T', h', h.size, cA, W.step X' eT hC W.fr (exT W.ext E), Nat.le_refl _, E, ⟨n, _, F, by simp⟩, O, hC, st'⟩
/-- a store into such an array -/
theorem oPutR (W : OW p l e R s m args below meth c Z a0 EL nb own code ml ret nm vm T locs ce sl h) {a x : Addr} {k : ClassId} {C : String} {vs : List Value} (A : OA Z h a k (.object C) vs) (O : Ovr Z k C) (I : Ins Z h x C true) {j : Int32} (hj : ¬ j < 0) {i : Nat} (hji : j.toNatClampNeg = i) (hlt : i < vs.length) (hfr : Z.heap.size ≤ a) (hd : decode code pc = .ok (.aastore, 1)) :
    ∃ T' h', OW p l e R s m args below meth c Z a0 EL nb own code ml ret nm vm T' (locs ++ [⟨a, i⟩]) ce sl h' ∧ Wr h h' a i (.ref x) ∧ OA Z h' a k (.object C) (vs.set i (.ref x)) ∧ CHr Z EL vm h vm h' ∧ Lt p e below T (mkF m pc ls (.ref x :: .int j :: .ref a :: st)) T' (mkF m (pc + 1) ls st) := by
  have hS : Safe Z EL vm h a := A.safe W.warm.alike (by simp)
  obtain ⟨n, d, ⟨cl, A1, hk, hs, hn, H, G⟩, r⟩ := A
  subst hji
  have hin : ¬ (j < 0 ∨ cl.slots.size ≤ j.toNatClampNeg) := fun q => q.elim hj (fun q => by rw [hs, r] at q; omega)
  obtain ⟨T', h', X', eT, Wr', st'⟩ := RoadKit.stR W.2.1 W.1.1 W.warm W.heap A1 hin rfl (Sto.ofV A1 hk O I) (g := mkF m pc ls (.ref x :: .int j :: .ref a :: st)) rfl rfl (oDec W hd)
  have hC : CHr Z EL vm h vm h' := CHr.wr Wr' hS W.chv
  exact ⟨T', h', W.step X' eT hC (frS W.fr hfr) (exW W.ext Wr' hfr), Wr', ⟨n, d, Arv.set A1 hk hs hn H G rfl Wr' _ rfl hlt, by simpa using r⟩, hC, st'⟩
/-- a call through an interface -/
theorem oCallI (W : OW p l e R s m args below meth c Z a0 EL nb own code ml ret nm vm T locs ce sl h) {idx cnt : Nat} {x : MethodName} {C : String} {argsL : List Value} {a : Addr} (E : Exa Z h a C) (hM : OC l Z EL nb [] y bytes maxL ret' rm (.ref a :: argsL).toArray h sf Q') (hsf : ∀ x ∈ sf, x < h.size ∧ Safe Z EL vm h x) (w1 : (Jvm.Cond.methodLink own idx x).before a0 Z = true) (w2 : (Jvm.Cond.declares x).before a0 Z = true) (wf : (Jvm.Cond.interfaceMethod x.cls x.cls x.name x.desc).before a0 Z = true) (kf : ((Jvm.Cond.interfaceMethod x.cls x.cls x.name x.desc).onTables && (Jvm.Cond.interfaceMethod x.cls x.cls x.name x.desc).keepsFace) = true) (w3 : (Jvm.Cond.selects C x y).before a0 Z = true) (w4 : (Jvm.Cond.instanceMethod y).before a0 Z = true) (wp : (Jvm.Cond.publicMethod y).before a0 Z = true) (wu : (Jvm.Cond.unhidden C x.name x.desc).before a0 Z = true) (wk : (Jvm.Cond.castable C x.cls).before a0 Z = true) (wz : (Jvm.Cond.initialized y.cls).before a0 Z = true) (wc : (Jvm.Cond.code y bytes maxL ret').before a0 Z = true)
    (hy : x.cls ≠ "java/lang/invoke/MethodHandle" ∧ x.cls ≠ "java/lang/invoke/VarHandle") {na : Nat} (hna : argsL.length = na) (har : XT.arity x.desc = some na) (hsz : ls.size = ml) {stk : List Value} (hst : stk = argsL.reverse ++ .ref a :: st) (hd : decode code pc = .ok (.invokeinterface idx cnt, 5))
    {V : Nat} (hV : (st.map fun v => v.category).sum ≤ V) (hf : rm.frames + 1 ≤ R.frames) (hl : V + (maxL + 11) + rm.locals ≤ R.locals) (hc : ce + rm.cells ≤ R.cells) (hs : sl + rm.slots ≤ R.slots) :
    ∃ v T' L h' vm', OW p l e R s m args below meth c Z a0 EL nb own code ml ret nm vm' T' (locs ++ L) (ce + rm.cells) (sl + rm.slots) h' ∧ Q' v vm' h' ∧ CHr Z EL vm h vm' h' ∧ Lt p e below T (mkF m pc ls stk) T' (mkF m (pc + 5) ls (v.toList ++ st)) := by
  obtain ⟨cB, kB, i1, i2, i3⟩ := isOf (s := s.setVm vm) (T := T) W.warm W.heap E
  obtain ⟨v, vm₁, B, hW, X', hS, hgr, hP, st'⟩ := W.2.1.interfaceBackS W.1.1 (xi := x) (y := y) W.owns (mvT W.warm w1) (mvT W.warm w2) (mvT W.warm wf kf) (mvT W.warm w3) (mvT W.warm w4) (mvT W.warm wp) (mvT W.warm wu) (mvT W.warm wk) hy (oBack W hM hsf wc wz hf hl) i1 i2 i3 (g := mkF m pc ls stk) rfl (hsz.trans W.1.2.2.1.symm) (Steps.refl _) (argsL := argsL) (rest := st) (XT.arity_len har hna) hst (by show 2 * 0 + _ ≤ _; omega) (oDec W hd) (fun _ _ => ⟨rfl, W.heap, hc, hs⟩)
  exact ⟨v, oCalled W hW X' hS hP st'⟩
/-- an instance method with a body is declared -/
theorem own_decl {y : MethodName} (wi : (Jvm.Cond.instanceMethod y).before a0 Z = true) (wc : (Jvm.Cond.code y bytes maxL ret').before a0 Z = true) : (Jvm.Cond.declares y).before a0 Z = true := by
  obtain ⟨mk, me, hn, hm, hst, -⟩ := Cond.instanceMethod_spec wi
  obtain ⟨me', c', h1, -, -, -, -, -, -, h8⟩ := Cond.code_spec hn wc
  cases hm.symm.trans h1
  simp [Jvm.Cond.before, Jvm.Cond.holds, Jvm.Cond.value, hn, hm, hst, h8]
end Lists
end Jvm.OwnK
namespace Jvm.OwnK
open Jvm Sem ClassFile Op Lib Jvm.Stand Jvm.Free Jvm.LawKit Jvm.RoadKit Bundle
section Refs
variable {p : Program} {l : Launch} {e : Env} {R : Room} {s : State} {m : MethodId} {args : Array Value} {below : List Frame} {meth : Method} {c : Code} {Z : State} {a0 : Array Value} {EL : List (String × Nat)} {nb : Bool} {own : String} {code : ByteArray} {ml : Nat} {ret : Option FieldType} {nm : String} {vm : Vm} {T : State} {locs : List Loc} {ce sl : Nat} {h : Heap} {pc : Nat} {ls : Array Slot} {st : List Value}
/-- getfield of an entry that is told to be resolved already -/
theorem oGetFR (W : OW p l e R s m args below meth c Z a0 EL nb own code ml ret nm vm T locs ce sl h) {idx : Nat} {R0 O n d : String} (w : (Jvm.Cond.fieldRef own idx R0 n d).before a0 Z = true) (via : Via Z R0 O n d) {a : Addr} {v : Value} (F : Fld Z h a O n d v) (hd : decode code pc = .ok (.getfield idx, 3)) :
    ∃ T', OW p l e R s m args below meth c Z a0 EL nb own code ml ret nm vm T' locs ce sl h ∧ Lt p e below T (mkF m pc ls (.ref a :: st)) T' (mkF m (pc + 3) ls (v :: st)) := by
  obtain ⟨cell, cf, k, i, f, h1, h2, h3, h4, -, -, h7⟩ := F
  have X := W.2.1
  have hZ : Z.Warmed39 T.vm := RoadKit.wtrans (s := s.setVm vm) (U := T) W.warm X.warmed
  obtain ⟨k', hi, -⟩ := State.fieldFound?_setVm (s := Z) hZ.alike (via _ h2)
  have hcur : (Z.setVm T.vm).vm.findClass own = some m.cls := (X.warmed.alike.findClass own none).trans W.owns
  obtain ⟨c2, k2, i2, f2, hj, hr⟩ := Cond.fieldRef_spec hcur (Cond.fieldRef_warmed39 hZ w)
  cases hi.symm.trans hj
  exact ⟨T, W, fun t ht => (Stand.getfieldR X W.1.1 (g := mkF m pc ls (.ref a :: st)) rfl hr h3 rfl (by rw [W.heap]; exact h1) h4 h7 (oDec W hd) (Steps.refl _)).trans ht⟩
theorem oMono (W : OW p l e R s m args below meth c Z a0 EL nb own code ml ret nm vm T locs ce sl h) {ce' sl' : Nat} (hc : ce ≤ ce') (hs : sl ≤ sl') : OW p l e R s m args below meth c Z a0 EL nb own code ml ret nm vm T locs ce' sl' h := ⟨W.1, W.2.1.mono hc hs, W.2.2⟩
end Refs
end Jvm.OwnK
namespace Jvm.Pilot.@@N@@
open Jvm Jvm.ClassFile Sem Op Lib Jvm.Free Jvm.Stand Jvm.LawKit Jvm.RoadKit Bundle Jvm.Pilot.@@N@@.Jvm.D Jvm.OwnK
section OwnStr
abbrev mI1 : MethodName := ⟨"java/lang/String", "<init>", "([C)V"⟩
abbrev mI4 : MethodName := ⟨"java/lang/String", "<init>", "([CIILjava/lang/Void;)V"⟩
abbrev mC3 : MethodName := ⟨"java/lang/StringUTF16", "compress", "([CII)[B"⟩
abbrev mC5 : MethodName := ⟨"java/lang/StringUTF16", "compress", "([CI[BII)I"⟩
abbrev mCL : MethodName := ⟨"java/lang/StringUTF16", "coderFromArrayLen", "([BI)B"⟩
/-- the words on String's constructor -/
def sW : List Jvm.Cond := [.methodLink "java/lang/String" 27 mI4, .instanceMethod mI4, .code mI4 jdk_42_method_149_code 6 none, .methodLink "java/lang/String" 1 ⟨"java/lang/Object", "<init>", "()V"⟩, .instanceMethod ⟨"java/lang/Object", "<init>", "()V"⟩, .code ⟨"java/lang/Object", "<init>", "()V"⟩ object_method_1_code 1 none,
  .fieldLink "java/lang/String" 38 "java/lang/String" "COMPACT_STRINGS" "Z", .methodLink "java/lang/String" 177 mC3, .static mC3, .initialized "java/lang/StringUTF16", .code mC3 jdk_52_method_16_code 6 (some (.array .byte)), .arrayClass .byte,
  .methodLink "java/lang/StringUTF16" 115 mC5, .static mC5, .code mC5 jdk_52_method_21_code 7 (some .int), .methodLink "java/lang/String" 47 mCL, .static mCL, .code mCL jdk_52_method_15_code 2 (some .byte),
  .fieldLink "java/lang/String" 15 "java/lang/String" "coder" "B", .laysFinal "java/lang/String" "java/lang/String" "coder" "B", .fieldLink "java/lang/String" 9 "java/lang/String" "value" "[B", .laysFinal "java/lang/String" "java/lang/String" "value" "[B", .initialized "java/lang/String", .instantiable "java/lang/String" 4, .code mI1 jdk_42_method_3_code 2 none]
theorem sW_in : ∀ d ∈ sW, d ∈ tables_1 := by decide +kernel
/-- a String of Latin-1 chars -/
def Str (Z : State) (h : Heap) (x : Addr) (cs : List Int32) : Prop := ∃ t k, Exa Z h x "java/lang/String" ∧ Fld Z h x "java/lang/String" "coder" "B" (.int 0) ∧ Fld Z h x "java/lang/String" "value" "[B" (.ref t) ∧ OA Z h t k .byte (cs.map fun c => Value.int c.toInt8.toInt32) ∧ ∀ c ∈ cs, ¬ c < 0 ∧ ¬ (255 : Int32) < c
theorem Str.ext {Z : State} {h h' : Heap} {x : Addr} {cs : List Int32} (F : Str Z h x cs) (E : Ext h h') : Str Z h' x cs := by
  obtain ⟨t, k, h1, h2, h3, h4, h5⟩ := F
  exact ⟨t, k, h1.ext E, h2.ext E, h3.ext E, h4.ext E, h5⟩
theorem Str.exa {Z : State} {h : Heap} {x : Addr} {cs : List Int32} (F : Str Z h x cs) : Exa Z h x "java/lang/String" := by obtain ⟨t, k, h1, -⟩ := F; exact h1
variable {l : Launch} {Z : State} {a0 : Array Value} {EL : List (String × Nat)} {nb : Bool} {h0 : Heap}
/-- what every String call leans on -/
def SC (Z : State) (a0 : Array Value) (EL : List (String × Nat)) : Prop := (∀ d ∈ sW, d.before a0 Z = true) ∧ EW Z a0 EL ∧ ∃ z, Sta Z Z.heap "java/lang/String" "COMPACT_STRINGS" "Z" (.int z) ∧ ¬ z = 0
abbrev rm0 : Room := { frames := 0, cells := 0, slots := 0, locals := 0 }
theorem k_CL (hE : EW Z a0 EL) {t : Addr} {k : ClassId} {vs : List Value} {n : Int32} (A : OA Z h0 t k .byte vs) :
    OC l Z EL nb [] mCL jdk_52_method_15_code 2 (some .byte) rm0 #[.ref t, .int n] h0 [] (fun v _ h => v = some (.int (XT.ushr (n - vs.length.toInt32) (31 : Int32)).toInt8.toInt32) ∧ h = h0) := by
  refine oEnter (by decide +kernel) hE ?_
  intro p e s m below meth c T0 W0 _
  refine oEq (g' := mkF m 0 #[.val (.ref t), .val (.int n)] []) (by first | (simp [entryFrame, mkF, argsToLocals, Value.category]; done) | rfl) ?_
  refine oGo W0 [.iload_n 1, .aload_n 0] (by decide +kernel) (ls' := #[.val (.ref t), .val (.int n)]) (st' := [.ref t, .int n]) rfl rfl (pc' := 2) rfl ?_
  refine oLen W0 A (by decide +kernel) ?_
  refine oGo W0 [.isub, .bipush 31, .iushr, .i2b] (by decide +kernel) (ls' := #[.val (.ref t), .val (.int n)]) (st' := [.int (XT.ushr (n - vs.length.toInt32) (31 : Int32)).toInt8.toInt32]) rfl rfl (pc' := 8) rfl ?_
  exact oRetN (by simp) W0 (nar_b _) (by decide +kernel) (lb rfl) (lb rfl) (fun _ _ => ⟨rfl, rfl⟩)
def bigAt : List Int32 → Nat
  | [] => 0
  | c :: cs => if (255 : Int32) < c then 0 else bigAt cs + 1
theorem bigAt_all : ∀ {cs : List Int32}, (∀ c ∈ cs, ¬ (255 : Int32) < c) → bigAt cs = cs.length
  | [], _ => rfl
  | c :: cs, h => by
    rw [bigAt, if_neg (h c (List.mem_cons_self ..)), bigAt_all (fun d hd => h d (List.mem_cons_of_mem _ hd)), List.length_cons]
theorem bigAt_at : ∀ {cs : List Int32} {k : Nat} (hk : k < cs.length), (∀ c ∈ cs.take k, ¬ (255 : Int32) < c) → (255 : Int32) < cs[k] → bigAt cs = k
  | [], k, hk, _, _ => absurd hk (Nat.not_lt_zero _)
  | c :: cs, 0, hk, _, hb => by rw [bigAt, if_pos (by simpa using hb)]
  | c :: cs, k + 1, hk, h, hb => by
    rw [List.take_succ_cons] at h
    rw [bigAt, if_neg (h c (List.mem_cons_self ..)), bigAt_at (k := k) (by simpa using hk) (fun d hd => h d (List.mem_cons_of_mem _ hd)) (by simpa using hb)]
def Q5 (Z : State) (h0 : Heap) (d : Addr) (kd : ClassId) (cs : List Int32) (v : Option Value) (_ : Vm) (h : Heap) : Prop := v = some (.int (Int32.ofNat (bigAt cs))) ∧ Keep h0 h [d] ∧ (bigAt cs = cs.length → OA Z h d kd .byte (cs.map fun c => Value.int c.toInt8.toInt32))
theorem set_step {cs : List Int32} {k r : Nat} (hk : k + (r + 1) = cs.length) (hlt : k < cs.length) :
    ((cs.take k).map (fun c : Int32 => Value.int c.toInt8.toInt32) ++ List.replicate (r + 1) (Value.int 0)).set k (Value.int cs[k].toInt8.toInt32) = (cs.take (k + 1)).map (fun c : Int32 => Value.int c.toInt8.toInt32) ++ List.replicate r (Value.int 0) := by
  have e1 : ((cs.take k).map (fun c : Int32 => Value.int c.toInt8.toInt32)).length = k := by simp; omega
  rw [List.set_append_right _ _ (by omega), e1, Nat.sub_self, List.replicate_succ, List.set_cons_zero, List.take_succ_eq_append_getElem hlt, List.map_append, List.append_assoc]
  rfl
theorem k_C5_loop {p : Program} {e : Env} {R : Room} {s : State} {m : MethodId} {args : Array Value} {below : List Frame} {meth : Method} {c : Code} {nm : String} {ck sk : Nat} {b d : Addr} {kb kd : ClassId} {cs : List Int32} (hl : cs.length < 2147483648) (hbd : b ≠ d) (hdf : Z.heap.size ≤ d) :
    ∀ (r k : Nat), k + r = cs.length → ∀ {vm : Vm} {T : State} {locs : List Loc} {h : Heap} {s6 : Slot}, OW p l e R s m args below meth c Z a0 EL nb "java/lang/StringUTF16" jdk_52_method_21_code 7 (some .int) nm vm T locs 0 0 h → OA Z h b kb .char (cs.map Value.int) →
      OA Z h d kd .byte ((cs.take k).map (fun c : Int32 => Value.int c.toInt8.toInt32) ++ List.replicate r (.int 0)) → Safe Z EL vm h d → Keep h0 h [d] → (∀ c ∈ cs.take k, ¬ (255 : Int32) < c) → (s6 = .unset ∨ ∃ x, s6 = .val (.int x)) →
      OG p e below s Z EL nb (Q5 Z h0 d kd cs) ck sk T (mkF m 3 #[.val (.ref b), .val (.int (Int32.ofNat k)), .val (.ref d), .val (.int (Int32.ofNat k)), .val (.int (Int32.ofNat cs.length)), .val (.int (Int32.ofNat k)), s6] [])
  | 0, k, hk, _, T, locs, h, s6, W, A, B, S, K, hsm, h6 => by
    have hkl : k = cs.length := by omega
    subst hkl
    refine oGo W [.iload 5, .iload 4] (by decide +kernel) (ls' := #[.val (.ref b), .val (.int (Int32.ofNat cs.length)), .val (.ref d), .val (.int (Int32.ofNat cs.length)), .val (.int (Int32.ofNat cs.length)), .val (.int (Int32.ofNat cs.length)), s6]) (st' := [.int (Int32.ofNat cs.length), .int (Int32.ofNat cs.length)]) rfl rfl (pc' := 7) rfl ?_
    refine oIcT W (cd := .ge) (o := 37) (by decide +kernel) (XT.ii_ge_t (fun q => Int32.lt_irrefl q)) (pc' := 44) (by decide) (by decide) ?_
    refine oGo W [.iload 4] (by decide +kernel) (ls' := #[.val (.ref b), .val (.int (Int32.ofNat cs.length)), .val (.ref d), .val (.int (Int32.ofNat cs.length)), .val (.int (Int32.ofNat cs.length)), .val (.int (Int32.ofNat cs.length)), s6]) (st' := [.int (Int32.ofNat cs.length)]) rfl rfl (pc' := 46) rfl ?_
    rw [List.take_length] at hsm B
    have hb := bigAt_all hsm
    exact oRetI W (by decide +kernel) (Nat.zero_le _) (Nat.zero_le _) (fun _ _ => ⟨by rw [hb], K, fun _ => by simpa using B⟩)
  | r + 1, k, hk, _, T, locs, h, s6, W, A, B, S, K, hsm, h6 => by
    have hlt : k < cs.length := by omega
    refine oGo W [.iload 5, .iload 4] (by decide +kernel) (ls' := #[.val (.ref b), .val (.int (Int32.ofNat k)), .val (.ref d), .val (.int (Int32.ofNat k)), .val (.int (Int32.ofNat cs.length)), .val (.int (Int32.ofNat k)), s6]) (st' := [.int (Int32.ofNat cs.length), .int (Int32.ofNat k)]) rfl rfl (pc' := 7) rfl ?_
    refine oIcF W (cd := .ge) (o := 37) (by decide +kernel) (XT.ii_ge_f ((n_lt (by omega) hl).mpr hlt)) (pc' := 10) rfl ?_
    refine oGo W [.aload_n 0, .iload_n 1] (by decide +kernel) (ls' := #[.val (.ref b), .val (.int (Int32.ofNat k)), .val (.ref d), .val (.int (Int32.ofNat k)), .val (.int (Int32.ofNat cs.length)), .val (.int (Int32.ofNat k)), s6]) (st' := [.int (Int32.ofNat k), .ref b]) rfl rfl (pc' := 12) rfl ?_
    refine oGet W A (n_nn (by omega)) (v := .int cs[k]) (by rw [n_cl (by omega)]; simp [hlt]) (Or.inl ⟨rfl, rfl⟩) (by decide +kernel) ?_
    have go6 : OG p e below s Z EL nb (Q5 Z h0 d kd cs) ck sk T (mkF m 20 #[.val (.ref b), .val (.int (Int32.ofNat k)), .val (.ref d), .val (.int (Int32.ofNat k)), .val (.int (Int32.ofNat cs.length)), .val (.int (Int32.ofNat k)), .val (.int cs[k])] [.int (255 : Int32), .int cs[k]]) := by
      by_cases hc : (255 : Int32) < cs[k]
      · refine oIcF W (cd := .le) (o := 6) (by decide +kernel) (XT.ii_le_f hc) (pc' := 23) rfl ?_
        refine oGo W [.iload 5] (by decide +kernel) (ls' := #[.val (.ref b), .val (.int (Int32.ofNat k)), .val (.ref d), .val (.int (Int32.ofNat k)), .val (.int (Int32.ofNat cs.length)), .val (.int (Int32.ofNat k)), .val (.int cs[k])]) (st' := [.int (Int32.ofNat k)]) rfl rfl (pc' := 25) rfl ?_
        have hb := bigAt_at hlt hsm hc
        exact oRetI W (by decide +kernel) (Nat.zero_le _) (Nat.zero_le _) (fun _ _ => ⟨by rw [hb], K, fun q => absurd (hb.symm.trans q) (by omega)⟩)
      · refine oIcT W (cd := .le) (o := 6) (by decide +kernel) (XT.ii_le_t hc) (pc' := 26) (by decide) (by decide) ?_
        refine oGo W [.aload_n 2, .iload_n 3, .iload 6, .i2b] (by decide +kernel) (ls' := #[.val (.ref b), .val (.int (Int32.ofNat k)), .val (.ref d), .val (.int (Int32.ofNat k)), .val (.int (Int32.ofNat cs.length)), .val (.int (Int32.ofNat k)), .val (.int cs[k])]) (st' := [.int (cs[k].toInt8.toInt32), .int (Int32.ofNat k), .ref d]) rfl rfl (pc' := 31) rfl ?_
        obtain ⟨T1, h1, W1, Wr1, B1, C1, st1⟩ := oPut W B (j := Int32.ofNat k) (pc := 31) (ls := #[.val (.ref b), .val (.int (Int32.ofNat k)), .val (.ref d), .val (.int (Int32.ofNat k)), .val (.int (Int32.ofNat cs.length)), .val (.int (Int32.ofNat k)), .val (.int cs[k])]) (st := []) (n_nn (by omega)) (i := k) (n_cl (by omega)) (by simp; omega) hdf S (ins := .bastore) (Or.inr (Or.inl ⟨rfl, rfl, nar_b _⟩)) (by decide +kernel)
        refine oLift st1 ?_
        refine oGo W1 [.iinc 1 1, .iinc 3 1, .iinc 5 1, .goto (-38)] (by decide +kernel) (ls' := #[.val (.ref b), .val (.int (Int32.ofNat k + 1)), .val (.ref d), .val (.int (Int32.ofNat k + 1)), .val (.int (Int32.ofNat cs.length)), .val (.int (Int32.ofNat k + 1)), .val (.int cs[k])]) (st' := []) rfl rfl (pc' := 3) rfl ?_
        rw [n_in]
        rw [set_step hk hlt] at B1
        refine k_C5_loop hl hbd hdf r (k + 1) (by omega) W1 (A.other Wr1 hbd) B1 (C1.safe B.lt S) (K.wr Wr1 (Or.inl (List.mem_singleton.mpr rfl))) ?_ (Or.inr ⟨_, rfl⟩)
        intro c hcm
        rw [List.take_succ_eq_append_getElem hlt, List.mem_append, List.mem_singleton] at hcm
        rcases hcm with hcm | rfl
        · exact hsm c hcm
        · exact hc
    rcases h6 with rfl | ⟨x, rfl⟩
    · exact oGo W [.istore 6, .iload 6, .sipush 255] (by decide +kernel) (ls' := #[.val (.ref b), .val (.int (Int32.ofNat k)), .val (.ref d), .val (.int (Int32.ofNat k)), .val (.int (Int32.ofNat cs.length)), .val (.int (Int32.ofNat k)), .val (.int cs[k])]) (st' := [.int (255 : Int32), .int cs[k]]) rfl rfl (pc' := 20) rfl go6
    · exact oGo W [.istore 6, .iload 6, .sipush 255] (by decide +kernel) (ls' := #[.val (.ref b), .val (.int (Int32.ofNat k)), .val (.ref d), .val (.int (Int32.ofNat k)), .val (.int (Int32.ofNat cs.length)), .val (.int (Int32.ofNat k)), .val (.int cs[k])]) (st' := [.int (255 : Int32), .int cs[k]]) rfl rfl (pc' := 20) rfl go6
theorem k_C5 (hE : EW Z a0 EL) {b d : Addr} {kb kd : ClassId} {cs : List Int32} (hl : cs.length < 2147483648) (hbd : b ≠ d) (hdf : Z.heap.size ≤ d) (A : OA Z h0 b kb .char (cs.map Value.int)) (B : OA Z h0 d kd .byte (List.replicate cs.length (.int 0))) :
    OC l Z EL nb [] mC5 jdk_52_method_21_code 7 (some .int) rm0 #[.ref b, .int 0, .ref d, .int 0, .int (Int32.ofNat cs.length)] h0 [d] (Q5 Z h0 d kd cs) := by
  refine oEnter (by decide +kernel) hE ?_
  intro p e s m below meth c T0 W0 S0
  refine oEq (g' := mkF m 0 #[.val (.ref b), .val (.int 0), .val (.ref d), .val (.int 0), .val (.int (Int32.ofNat cs.length)), .unset, .unset] []) (by first | (simp [entryFrame, mkF, argsToLocals, Value.category]; done) | rfl) ?_
  refine oGo W0 [.iconst 0, .istore 5] (by decide +kernel) (ls' := #[.val (.ref b), .val (.int 0), .val (.ref d), .val (.int 0), .val (.int (Int32.ofNat cs.length)), .val (.int 0), .unset]) (st' := []) rfl rfl (pc' := 3) rfl ?_
  exact k_C5_loop hl hbd hdf cs.length 0 (by omega) W0 A (by simpa using B) (S0 d (List.mem_singleton.mpr rfl)) (Keep.refl _ _) (by simp) (Or.inl rfl)
abbrev rmC3 (n : Nat) : Room := { frames := 1, cells := 1, slots := n, locals := 18 }
theorem k_C3 (K : SC Z a0 EL) {b : Addr} {kb : ClassId} {cs : List Int32} (hl : cs.length ≤ 4000) (A : OA Z h0 b kb .char (cs.map Value.int)) (hsm : ∀ c ∈ cs, ¬ (255 : Int32) < c) :
    OC l Z EL nb [] mC3 jdk_52_method_16_code 6 (some (.array .byte)) (rmC3 cs.length) #[.ref b, .int 0, .int (Int32.ofNat cs.length)] h0 [] (fun v _ h => ∃ d k, v = some (.ref d) ∧ h0.size ≤ d ∧ Ext h0 h ∧ OA Z h d k .byte (cs.map fun c => Value.int c.toInt8.toInt32)) := by
  have hs := K.1
  refine oEnter (by decide +kernel) K.2.1 ?_
  intro p e s m below meth c T0 W0 _
  refine oEq (g' := mkF m 0 #[.val (.ref b), .val (.int 0), .val (.int (Int32.ofNat cs.length)), .unset, .unset, .unset] []) (by first | (simp [entryFrame, mkF, argsToLocals, Value.category]; done) | rfl) ?_
  refine oGo W0 [.iload_n 2] (by decide +kernel) (ls' := #[.val (.ref b), .val (.int 0), .val (.int (Int32.ofNat cs.length)), .unset, .unset, .unset]) (st' := [.int (Int32.ofNat cs.length)]) rfl rfl (pc' := 1) rfl ?_
  have hcl : (Int32.ofNat cs.length).toNatClampNeg = cs.length := n_cl (by omega)
  obtain ⟨T1, h1, d, kd, W1, g1, E1, B1, S1, C1, st1⟩ := oNewA W0 (aty := .byte) (pc := 1) (ls := #[.val (.ref b), .val (.int 0), .val (.int (Int32.ofNat cs.length)), .unset, .unset, .unset]) (st := []) (hs _ (List.mem_of_getElem? (i := 11) rfl)) (by decide +kernel) (n := Int32.ofNat cs.length) (n_nn (by omega)) (cap := cs.length) (by rw [hcl]; exact Nat.le_refl _) (by omega) (lb rfl) (by show 0 + cs.length ≤ cs.length; omega)
  refine oLift st1 ?_
  rw [hcl] at B1
  refine oGo W1 [.astore_n 3, .aload_n 0, .iload_n 1, .aload_n 3, .iconst 0, .iload_n 2] (by decide +kernel) (ls' := #[.val (.ref b), .val (.int 0), .val (.int (Int32.ofNat cs.length)), .val (.ref d), .unset, .unset]) (st' := [.int (Int32.ofNat cs.length), .int 0, .ref d, .int 0, .ref b]) rfl rfl (pc' := 9) rfl ?_
  have hbd : b ≠ d := Nat.ne_of_lt (Nat.lt_of_lt_of_le A.lt g1)
  obtain ⟨v2, T2, L2, h2, vm2, W2, ⟨rfl, K2, B2⟩, C2, st2⟩ := oCallS W1 (idx := 115) (pc := 9) (ls := #[.val (.ref b), .val (.int 0), .val (.int (Int32.ofNat cs.length)), .val (.ref d), .unset, .unset]) (st := []) (argsL := [.ref b, .int 0, .ref d, .int 0, .int (Int32.ofNat cs.length)]) (k_C5 (h0 := h1) K.2.1 (by omega) hbd (Nat.le_trans W0.ext.1 g1) (A.ext E1) B1)
    (fun x hx => by cases List.mem_singleton.mp hx; exact ⟨B1.lt, S1⟩) (hs _ (List.mem_of_getElem? (i := 12) rfl)) (hs _ (List.mem_of_getElem? (i := 13) rfl)) (hs _ (List.mem_of_getElem? (i := 9) rfl)) (hs _ (List.mem_of_getElem? (i := 14) rfl)) (by decide) (na := 5) rfl (by decide +kernel) rfl (stk := [.int (Int32.ofNat cs.length), .int 0, .ref d, .int 0, .ref b]) rfl (by decide +kernel) (V := 0) (lb rfl) (lb rfl) (lb rfl) (lb rfl) (by show 0 + cs.length + 0 ≤ cs.length; omega)
  refine oLift st2 ?_
  have hb := bigAt_all hsm
  rw [hb]
  refine oGo W2 [.istore 4, .iload 4, .iload_n 2] (by decide +kernel) (ls' := #[.val (.ref b), .val (.int 0), .val (.int (Int32.ofNat cs.length)), .val (.ref d), .val (.int (Int32.ofNat cs.length)), .unset]) (st' := [.int (Int32.ofNat cs.length), .int (Int32.ofNat cs.length)]) rfl rfl (pc' := 17) rfl ?_
  refine oIcT W2 (cd := .eq) (o := 40) (by decide +kernel) (XT.ii_eq_t rfl) (pc' := 57) (by decide) (by decide) ?_
  refine oGo W2 [.aload_n 3] (by decide +kernel) (ls' := #[.val (.ref b), .val (.int 0), .val (.int (Int32.ofNat cs.length)), .val (.ref d), .val (.int (Int32.ofNat cs.length)), .unset]) (st' := [.ref d]) rfl rfl (pc' := 58) rfl ?_
  exact oRetA rfl W2 rfl rfl (by decide +kernel) (lb rfl) (by show 0 + cs.length + 0 ≤ cs.length; omega) (fun _ _ => ⟨d, kd, rfl, g1, exK E1 K2 (fun x hx => by cases List.mem_singleton.mp hx; exact g1), B2 hb⟩)
theorem slots_vc (K : SC Z a0 EL) : RoadKit.slotOf Z "java/lang/String" "coder" "B" ≠ RoadKit.slotOf Z "java/lang/String" "value" "[B" :=
  slot_ne (a0 := a0) (C := "java/lang/String") (Or.inr (K.1 _ (List.mem_of_getElem? (i := 19) rfl))) (Or.inr (K.1 _ (List.mem_of_getElem? (i := 21) rfl))) (by decide) (t := .byte) (t' := .array .byte) (by decide) (by decide)
abbrev rmI4 (n : Nat) : Room := { frames := 2, cells := 1, slots := n, locals := 35 }
theorem k_I4 (K : SC Z a0 EL) {x b : Addr} {kb : ClassId} {cs : List Int32} {v0 c0 : Value} (hl : cs.length ≤ 4000) (hl0 : 0 < cs.length) (A : OA Z h0 b kb .char (cs.map Value.int)) (hsm : ∀ c ∈ cs, ¬ c < 0 ∧ ¬ (255 : Int32) < c) (hxf : Z.heap.size ≤ x) (E : Exa Z h0 x "java/lang/String") (Fc : Fld Z h0 x "java/lang/String" "coder" "B" c0) (Fv : Fld Z h0 x "java/lang/String" "value" "[B" v0) :
    OC l Z EL nb [] mI4 jdk_42_method_149_code 6 none (rmI4 cs.length) #[.ref x, .ref b, .int 0, .int (Int32.ofNat cs.length), .null] h0 [x] (fun v _ h => v = none ∧ Keep h0 h [x] ∧ Str Z h x cs) := by
  have hs := K.1
  obtain ⟨z, hz, hz0⟩ := K.2.2
  refine oEnter (by decide +kernel) K.2.1 ?_
  intro p e s m below meth c T0 W0 S0
  refine oEq (g' := mkF m 0 #[.val (.ref x), .val (.ref b), .val (.int 0), .val (.int (Int32.ofNat cs.length)), .val .null, .unset] []) (by first | (simp [entryFrame, mkF, argsToLocals, Value.category]; done) | rfl) ?_
  refine oGo W0 [.aload_n 0] (by decide +kernel) (ls' := #[.val (.ref x), .val (.ref b), .val (.int 0), .val (.int (Int32.ofNat cs.length)), .val .null, .unset]) (st' := [.ref x]) rfl rfl (pc' := 1) rfl ?_
  obtain ⟨T1, W1, st1⟩ := oInit W0 (idx := 1) (pc := 1) (ls := #[.val (.ref x), .val (.ref b), .val (.int 0), .val (.int (Int32.ofNat cs.length)), .val .null, .unset]) (st := []) (a := x) (hs _ (List.mem_of_getElem? (i := 3) rfl)) (hs _ (List.mem_of_getElem? (i := 4) rfl)) (hs _ (List.mem_of_getElem? (i := 5) rfl)) rfl (by decide +kernel) (lb rfl) (V := 0) (lb rfl) (lb rfl)
  refine oLift st1 ?_
  refine oGo W1 [.iload_n 3] (by decide +kernel) (ls' := #[.val (.ref x), .val (.ref b), .val (.int 0), .val (.int (Int32.ofNat cs.length)), .val .null, .unset]) (st' := [.int (Int32.ofNat cs.length)]) rfl rfl (pc' := 5) rfl ?_
  have hn0 : ¬ Int32.ofNat cs.length = 0 := fun q => by
    have := congrArg Int32.toNatClampNeg q
    rw [n_cl (by omega)] at this
    exact absurd this (by show ¬ cs.length = 0; omega)
  refine oIfT W1 (cd := .ne) (o := 22) (by decide +kernel) (XT.i0_ne_t hn0) (pc' := 27) (by decide) (by decide) ?_
  obtain ⟨T2, W2, st2⟩ := oGetS W1 (pc := 27) (ls := #[.val (.ref x), .val (.ref b), .val (.int 0), .val (.int (Int32.ofNat cs.length)), .val .null, .unset]) (st := []) (hs _ (List.mem_of_getElem? (i := 6) rfl)) Via.refl (hz.ext W1.ext) (by decide +kernel)
  refine oLift st2 ?_
  refine oIfF W2 (cd := .eq) (o := 28) (by decide +kernel) (XT.i0_eq_f hz0) (pc' := 33) rfl ?_
  refine oGo W2 [.aload_n 1, .iload_n 2, .iload_n 3] (by decide +kernel) (ls' := #[.val (.ref x), .val (.ref b), .val (.int 0), .val (.int (Int32.ofNat cs.length)), .val .null, .unset]) (st' := [.int (Int32.ofNat cs.length), .int 0, .ref b]) rfl rfl (pc' := 36) rfl ?_
  obtain ⟨v3, T3, L3, h3, vm3, W3, ⟨d, kd, rfl, g3, E3, B3⟩, C3, st3⟩ := oCallS W2 (idx := 177) (pc := 36) (ls := #[.val (.ref x), .val (.ref b), .val (.int 0), .val (.int (Int32.ofNat cs.length)), .val .null, .unset]) (st := []) (argsL := [.ref b, .int 0, .int (Int32.ofNat cs.length)]) (k_C3 (h0 := h0) K hl A (fun c hc => (hsm c hc).2))
    (fun x hx => nomatch hx) (hs _ (List.mem_of_getElem? (i := 7) rfl)) (hs _ (List.mem_of_getElem? (i := 8) rfl)) (hs _ (List.mem_of_getElem? (i := 9) rfl)) (hs _ (List.mem_of_getElem? (i := 10) rfl)) (by decide) (na := 3) rfl (by decide +kernel) rfl (stk := [.int (Int32.ofNat cs.length), .int 0, .ref b]) rfl (by decide +kernel) (V := 0) (lb rfl) (lb rfl) (lb rfl) (lb rfl) (by show 0 + cs.length ≤ cs.length; omega)
  refine oLift st3 ?_
  refine oGo W3 [.astore 5, .aload_n 0, .aload 5, .iload_n 3] (by decide +kernel) (ls' := #[.val (.ref x), .val (.ref b), .val (.int 0), .val (.int (Int32.ofNat cs.length)), .val .null, .val (.ref d)]) (st' := [.int (Int32.ofNat cs.length), .ref d, .ref x]) rfl rfl (pc' := 45) rfl ?_
  obtain ⟨v4, T4, L4, h4, vm4, W4, ⟨rfl, e4⟩, C4, st4⟩ := oCallS W3 (idx := 47) (pc := 45) (ls := #[.val (.ref x), .val (.ref b), .val (.int 0), .val (.int (Int32.ofNat cs.length)), .val .null, .val (.ref d)]) (st := [.ref x]) (argsL := [.ref d, .int (Int32.ofNat cs.length)]) (k_CL (h0 := h3) K.2.1 B3)
    (fun x hx => nomatch hx) (hs _ (List.mem_of_getElem? (i := 15) rfl)) (hs _ (List.mem_of_getElem? (i := 16) rfl)) (hs _ (List.mem_of_getElem? (i := 9) rfl)) (hs _ (List.mem_of_getElem? (i := 17) rfl)) (by decide) (na := 2) rfl (by decide +kernel) rfl (stk := [.int (Int32.ofNat cs.length), .ref d, .ref x]) rfl (by decide +kernel) (V := 1) (lb rfl) (lb rfl) (lb rfl) (lb rfl) (by show 0 + cs.length + 0 ≤ cs.length; omega)
  refine oLift st4 ?_
  subst e4
  have hc0 : (XT.ushr (Int32.ofNat cs.length - (cs.map fun c : Int32 => Value.int c.toInt8.toInt32).length.toInt32) (31 : Int32)).toInt8.toInt32 = 0 := by
    rw [List.length_map]
    show (XT.ushr (Int32.ofNat cs.length - Int32.ofNat cs.length) (31 : Int32)).toInt8.toInt32 = 0
    rw [Int32.sub_self]; decide
  rw [hc0]
  have S4 : Safe Z EL vm4 h4 x := C4.safe (E.ext E3).lt (C3.safe E.lt (S0 x (List.mem_singleton.mpr rfl)))
  obtain ⟨T5, h5, W5, Wr5, Fc5, E5, C5, st5⟩ := oPutF W4 (idx := 15) (pc := 48) (ls := #[.val (.ref x), .val (.ref b), .val (.int 0), .val (.int (Int32.ofNat cs.length)), .val .null, .val (.ref d)]) (st := []) (v := .int 0) (hs _ (List.mem_of_getElem? (i := 18) rfl)) Via.refl (Fc.ext E3) (E.ext E3) (Or.inr ⟨hs _ (List.mem_of_getElem? (i := 19) rfl), rfl, rfl⟩) (hs _ (List.mem_of_getElem? (i := 23) rfl)) (ty := .byte) (by decide) rfl rfl hxf S4 (by decide +kernel)
  refine oLift st5 ?_
  refine oGo W5 [.aload_n 0, .aload 5] (by decide +kernel) (ls' := #[.val (.ref x), .val (.ref b), .val (.int 0), .val (.int (Int32.ofNat cs.length)), .val .null, .val (.ref d)]) (st' := [.ref d, .ref x]) rfl rfl (pc' := 54) rfl ?_
  have hdx : d ≠ x := Nat.ne_of_gt (Nat.lt_of_lt_of_le E.lt g3)
  obtain ⟨T6, h6, W6, Wr6, Fv6, E6, C6, st6⟩ := oPutF W5 (idx := 9) (pc := 54) (ls := #[.val (.ref x), .val (.ref b), .val (.int 0), .val (.int (Int32.ofNat cs.length)), .val .null, .val (.ref d)]) (st := []) (v := .ref d) (hs _ (List.mem_of_getElem? (i := 20) rfl)) Via.refl ((Fv.ext E3).other Wr5 (Or.inr (Ne.symm (slots_vc K)))) E5 (Or.inr ⟨hs _ (List.mem_of_getElem? (i := 21) rfl), rfl, rfl⟩) (hs _ (List.mem_of_getElem? (i := 23) rfl)) (ty := .array .byte) (by decide) rfl rfl hxf (C5.safe (E.ext E3).lt S4) (by decide +kernel)
  refine oLift st6 ?_
  exact oRet0 W6 (by decide +kernel) (lb rfl) (by show 0 + cs.length + 0 ≤ cs.length; omega) (fun _ _ => ⟨rfl, (((Keep.refl h0 [x]).ext E3).wr Wr5 (Or.inl (List.mem_singleton.mpr rfl))).wr Wr6 (Or.inl (List.mem_singleton.mpr rfl)),
    d, kd, E6, Fc5.other Wr6 (Or.inr (slots_vc K)), Fv6, (B3.other Wr5 hdx).other Wr6 hdx, hsm⟩)
abbrev rmI1 (n : Nat) : Room := { frames := 3, cells := 1, slots := n, locals := 52 }
/-- new String(char[]): one to 4,000 chars of 0 to 255 -/
theorem k_I1 (K : SC Z a0 EL) {x b : Addr} {kb : ClassId} (cs : List Int32) {v0 c0 : Value} (hl : cs.length ≤ 4000) (hl0 : 0 < cs.length) (A : OA Z h0 b kb .char (cs.map Value.int)) (hsm : ∀ c ∈ cs, ¬ c < 0 ∧ ¬ (255 : Int32) < c) (hxf : Z.heap.size ≤ x) (E : Exa Z h0 x "java/lang/String") (Fc : Fld Z h0 x "java/lang/String" "coder" "B" c0) (Fv : Fld Z h0 x "java/lang/String" "value" "[B" v0) :
    OC l Z EL nb [] mI1 jdk_42_method_3_code 2 none (rmI1 cs.length) #[.ref x, .ref b] h0 [x] (fun v _ h => v = none ∧ Keep h0 h [x] ∧ Str Z h x cs) := by
  have hs := K.1
  refine oEnter (by decide +kernel) K.2.1 ?_
  intro p e s m below meth c T0 W0 S0
  refine oEq (g' := mkF m 0 #[.val (.ref x), .val (.ref b)] []) (by first | (simp [entryFrame, mkF, argsToLocals, Value.category]; done) | rfl) ?_
  refine oGo W0 [.aload_n 0, .aload_n 1, .iconst 0, .aload_n 1] (by decide +kernel) (ls' := #[.val (.ref x), .val (.ref b)]) (st' := [.ref b, .int 0, .ref b, .ref x]) rfl rfl (pc' := 4) rfl ?_
  refine oLen W0 A (by decide +kernel) ?_
  rw [List.length_map]
  refine oGo W0 [.aconst_null] (by decide +kernel) (ls' := #[.val (.ref x), .val (.ref b)]) (st' := [.null, .int (Int32.ofNat cs.length), .int 0, .ref b, .ref x]) rfl rfl (pc' := 6) rfl ?_
  obtain ⟨v1, T1, L1, h1, vm1, W1, ⟨rfl, K1, F1⟩, C1, st1⟩ := oCallN W0 (idx := 27) (pc := 6) (ls := #[.val (.ref x), .val (.ref b)]) (st := []) (a := x) (argsL := [.ref b, .int 0, .int (Int32.ofNat cs.length), .null]) (k_I4 (h0 := h0) K hl hl0 A hsm hxf E Fc Fv)
    (fun y hy => by cases List.mem_singleton.mp hy; exact ⟨E.lt, S0 x (List.mem_singleton.mpr rfl)⟩) rfl (hs _ (List.mem_of_getElem? (i := 0) rfl)) (hs _ (List.mem_of_getElem? (i := 1) rfl)) (hs _ (List.mem_of_getElem? (i := 22) rfl)) (hs _ (List.mem_of_getElem? (i := 2) rfl)) (by decide) (na := 4) rfl (by decide +kernel) rfl (stk := [.null, .int (Int32.ofNat cs.length), .int 0, .ref b, .ref x]) rfl (by decide +kernel) (V := 0) (lb rfl) (lb rfl) (lb rfl) (lb rfl) (by show 0 + cs.length ≤ cs.length; omega)
  refine oLift st1 ?_
  exact oRet0 W1 (by decide +kernel) (lb rfl) (by show 0 + cs.length ≤ cs.length; omega) (fun _ _ => ⟨rfl, K1, F1⟩)
end OwnStr
end Jvm.Pilot.@@N@@
namespace Jvm.Pilot.@@N@@
open Jvm Jvm.ClassFile Sem Op Lib Jvm.Free Jvm.Stand Jvm.LawKit Jvm.RoadKit Bundle Jvm.Pilot.@@N@@.Jvm.D Jvm.OwnK
section OwnEq
abbrev mEq : MethodName := ⟨"java/lang/String", "equals", "(Ljava/lang/Object;)Z"⟩
abbrev mEL : MethodName := ⟨"java/lang/StringLatin1", "equals", "([B[B)Z"⟩
def eW : List Jvm.Cond := [.classLink "java/lang/String" 10 "java/lang/String", .methodLink "java/lang/String" 541 mEL, .static mEL, .initialized "java/lang/StringLatin1", .code mEL jdk_43_method_13_code 3 (some .boolean)]
theorem eW_in : ∀ d ∈ eW, d ∈ tables_1 := by decide +kernel
variable {l : Launch} {Z : State} {a0 : Array Value} {EL : List (String × Nat)} {nb : Bool} {h0 : Heap}
def QE (xs ys : List Int32) (h0 : Heap) (v : Option Value) (_ : Vm) (h : Heap) : Prop := v = some (.int (if xs = ys then 1 else 0)) ∧ h = h0
theorem k_EL_loop {p : Program} {e : Env} {R : Room} {s : State} {m : MethodId} {args : Array Value} {below : List Frame} {meth : Method} {c : Code} {nm : String} {ck sk : Nat} {a b : Addr} {ka kb : ClassId} {xs ys : List Int32} (hl : xs.length < 2147483648) (hxy : xs.length = ys.length)
    {vm : Vm} {T : State} {locs : List Loc} (W : OW p l e R s m args below meth c Z a0 EL nb "java/lang/StringLatin1" jdk_43_method_13_code 3 (some .boolean) nm vm T locs 0 0 h0) (A : OA Z h0 a ka .byte (xs.map Value.int)) (B : OA Z h0 b kb .byte (ys.map Value.int)) :
    ∀ (r i : Nat), i + r = xs.length → xs.take i = ys.take i → OG p e below s Z EL nb (QE xs ys h0) ck sk T (mkF m 9 #[.val (.ref a), .val (.ref b), .val (.int (Int32.ofNat i))] [])
  | 0, i, hi, ht => by
    have hil : i = xs.length := by omega
    subst hil
    refine oGo W [.iload_n 2, .aload_n 0] (by decide +kernel) (ls' := #[.val (.ref a), .val (.ref b), .val (.int (Int32.ofNat xs.length))]) (st' := [.ref a, .int (Int32.ofNat xs.length)]) rfl rfl (pc' := 11) rfl ?_
    refine oLen W A (by decide +kernel) ?_
    rw [List.length_map]
    refine oIcT W (cd := .ge) (o := 20) (by decide +kernel) (XT.ii_ge_t (fun q => Int32.lt_irrefl q)) (pc' := 32) (by decide) (by decide) ?_
    refine oGo W [.iconst 1] (by decide +kernel) (ls' := #[.val (.ref a), .val (.ref b), .val (.int (Int32.ofNat xs.length))]) (st' := [.int (1 : Int32)]) rfl rfl (pc' := 33) rfl ?_
    have e : xs = ys := by rw [List.take_length, hxy, List.take_length] at ht; exact ht
    exact oRetN (by simp) W rfl (by decide +kernel) (Nat.zero_le _) (Nat.zero_le _) (fun _ _ => ⟨by rw [if_pos e], rfl⟩)
  | r + 1, i, hi, ht => by
    have hlt : i < xs.length := by omega
    have hlt2 : i < ys.length := by omega
    refine oGo W [.iload_n 2, .aload_n 0] (by decide +kernel) (ls' := #[.val (.ref a), .val (.ref b), .val (.int (Int32.ofNat i))]) (st' := [.ref a, .int (Int32.ofNat i)]) rfl rfl (pc' := 11) rfl ?_
    refine oLen W A (by decide +kernel) ?_
    rw [List.length_map]
    refine oIcF W (cd := .ge) (o := 20) (by decide +kernel) (XT.ii_ge_f ((n_lt (by omega) hl).mpr hlt)) (pc' := 15) rfl ?_
    refine oGo W [.aload_n 0, .iload_n 2] (by decide +kernel) (ls' := #[.val (.ref a), .val (.ref b), .val (.int (Int32.ofNat i))]) (st' := [.int (Int32.ofNat i), .ref a]) rfl rfl (pc' := 17) rfl ?_
    refine oGet W A (n_nn (by omega)) (v := .int xs[i]) (by rw [n_cl (by omega)]; simp [hlt]) (Or.inr (Or.inl ⟨rfl, rfl⟩)) (by decide +kernel) ?_
    refine oGo W [.aload_n 1, .iload_n 2] (by decide +kernel) (ls' := #[.val (.ref a), .val (.ref b), .val (.int (Int32.ofNat i))]) (st' := [.int (Int32.ofNat i), .ref b, .int xs[i]]) rfl rfl (pc' := 20) rfl ?_
    refine oGet W B (n_nn (by omega)) (v := .int ys[i]) (by rw [n_cl (by omega)]; simp [hlt2]) (Or.inr (Or.inl ⟨rfl, rfl⟩)) (by decide +kernel) ?_
    by_cases hc : xs[i] = ys[i]
    · refine oIcT W (cd := .eq) (o := 5) (by decide +kernel) (XT.ii_eq_t hc) (pc' := 26) (by decide) (by decide) ?_
      refine oGo W [.iinc 2 1, .goto (-20)] (by decide +kernel) (ls' := #[.val (.ref a), .val (.ref b), .val (.int (Int32.ofNat i + 1))]) (st' := []) rfl rfl (pc' := 9) rfl ?_
      rw [n_in]
      refine k_EL_loop hl hxy W A B r (i + 1) (by omega) ?_
      rw [List.take_succ_eq_append_getElem hlt, List.take_succ_eq_append_getElem hlt2, ht, hc]
    · refine oIcF W (cd := .eq) (o := 5) (by decide +kernel) (XT.ii_eq_f hc) (pc' := 24) rfl ?_
      refine oGo W [.iconst 0] (by decide +kernel) (ls' := #[.val (.ref a), .val (.ref b), .val (.int (Int32.ofNat i))]) (st' := [.int (0 : Int32)]) rfl rfl (pc' := 25) rfl ?_
      have e : ¬ xs = ys := fun q => hc (by subst q; rfl)
      exact oRetN (by simp) W rfl (by decide +kernel) (Nat.zero_le _) (Nat.zero_le _) (fun _ _ => ⟨by rw [if_neg e], rfl⟩)
theorem k_EL (hE : EW Z a0 EL) {a b : Addr} {ka kb : ClassId} {xs ys : List Int32} (hl : xs.length < 2147483648) (hl2 : ys.length < 2147483648) (A : OA Z h0 a ka .byte (xs.map Value.int)) (B : OA Z h0 b kb .byte (ys.map Value.int)) :
    OC l Z EL nb [] mEL jdk_43_method_13_code 3 (some .boolean) rm0 #[.ref a, .ref b] h0 [] (QE xs ys h0) := by
  refine oEnter (by decide +kernel) hE ?_
  intro p e s m below meth c T0 W0 _
  refine oEq (g' := mkF m 0 #[.val (.ref a), .val (.ref b), .unset] []) (by first | (simp [entryFrame, mkF, argsToLocals, Value.category]; done) | rfl) ?_
  refine oGo W0 [.aload_n 0] (by decide +kernel) (ls' := #[.val (.ref a), .val (.ref b), .unset]) (st' := [.ref a]) rfl rfl (pc' := 1) rfl ?_
  refine oLen W0 A (by decide +kernel) ?_
  refine oGo W0 [.aload_n 1] (by decide +kernel) (ls' := #[.val (.ref a), .val (.ref b), .unset]) (st' := [.ref b, .int (xs.map Value.int).length.toInt32]) rfl rfl (pc' := 3) rfl ?_
  refine oLen W0 B (by decide +kernel) ?_
  rw [List.length_map, List.length_map]
  by_cases hc : xs.length = ys.length
  · refine oIcF W0 (cd := .ne) (o := 30) (by decide +kernel) (XT.ii_ne_f (by rw [hc])) (pc' := 7) rfl ?_
    refine oGo W0 [.iconst 0, .istore_n 2] (by decide +kernel) (ls' := #[.val (.ref a), .val (.ref b), .val (.int (0 : Int32))]) (st' := []) rfl rfl (pc' := 9) rfl ?_
    exact k_EL_loop hl hc W0 A B xs.length 0 (by omega) (by simp)
  · have hne : ¬ Int32.ofNat xs.length = Int32.ofNat ys.length := fun q => hc (by have := congrArg Int32.toNatClampNeg q; rwa [n_cl hl, n_cl hl2] at this)
    refine oIcT W0 (cd := .ne) (o := 30) (by decide +kernel) (XT.ii_ne_t hne) (pc' := 34) (by decide) (by decide) ?_
    refine oGo W0 [.iconst 0] (by decide +kernel) (ls' := #[.val (.ref a), .val (.ref b), .unset]) (st' := [.int (0 : Int32)]) rfl rfl (pc' := 35) rfl ?_
    have e : ¬ xs = ys := fun q => hc (by rw [q])
    exact oRetN (by simp) W0 rfl (by decide +kernel) (Nat.zero_le _) (Nat.zero_le _) (fun _ _ => ⟨by rw [if_neg e], rfl⟩)
theorem lo8_inj {c d : Int32} (hc : ¬ c < 0 ∧ ¬ (255 : Int32) < c) (hd : ¬ d < 0 ∧ ¬ (255 : Int32) < d) (h : c.toInt8.toInt32 = d.toInt8.toInt32) : c = d := by
  have e1 := (c_i2b c).1
  have e2 := (c_i2b d).1
  rw [h] at e1
  simp only [Int32.lt_iff_toInt_lt] at hc hd
  have k0 : (0 : Int32).toInt = 0 := rfl
  have k1 : (255 : Int32).toInt = 255 := rfl
  rw [k0, k1] at hc hd
  apply Int32.toInt_inj.mp
  omega
theorem lo8_inj_map : ∀ {cs ds : List Int32}, (∀ c ∈ cs, ¬ c < 0 ∧ ¬ (255 : Int32) < c) → (∀ c ∈ ds, ¬ c < 0 ∧ ¬ (255 : Int32) < c) → cs.map (fun c => c.toInt8.toInt32) = ds.map (fun c => c.toInt8.toInt32) → cs = ds
  | [], [], _, _, _ => rfl
  | [], _ :: _, _, _, h => by simp at h
  | _ :: _, [], _, _, h => by simp at h
  | c :: cs, d :: ds, hc, hd, h => by
    simp only [List.map_cons, List.cons.injEq] at h
    rw [lo8_inj (hc c (List.mem_cons_self ..)) (hd d (List.mem_cons_self ..)) h.1, lo8_inj_map (fun c q => hc c (List.mem_cons_of_mem _ q)) (fun c q => hd c (List.mem_cons_of_mem _ q)) h.2]
theorem Str.uniq {h : Heap} {x : Addr} {cs ds : List Int32} (F : Str Z h x cs) (G : Str Z h x ds) : cs = ds := by
  obtain ⟨t, k, -, -, v1, A, p1⟩ := F
  obtain ⟨t', k', -, -, v2, B, p2⟩ := G
  have e : t = t' := by
    by_cases q : t = t'
    · exact q
    · exact absurd rfl (Fld.ne v1 v2 (fun r => q (by injection r)))
  subst e
  obtain ⟨n, d, ⟨c1, a1, -, s1, -, H1, -⟩, r1⟩ := A
  obtain ⟨n', d', ⟨c2, a2, -, s2, -, H2, -⟩, r2⟩ := B
  cases a1.1.symm.trans a2.1
  have hl : (cs.map fun c : Int32 => Value.int c.toInt8.toInt32).length = (ds.map fun c : Int32 => Value.int c.toInt8.toInt32).length := by rw [← r1, ← r2, ← s1, ← s2]
  have hm : (cs.map fun c : Int32 => Value.int c.toInt8.toInt32) = (ds.map fun c : Int32 => Value.int c.toInt8.toInt32) := by
    apply List.ext_getElem hl
    intro i h1 h2
    have q1 := H1 i (by rw [s1, r1]; exact h1)
    have q2 := H2 i (by rw [s2, r2]; exact h2)
    rw [q1] at q2
    rw [List.getD_eq_getElem?_getD, List.getD_eq_getElem?_getD, List.getElem?_eq_getElem h1, List.getElem?_eq_getElem h2] at q2
    exact Option.some.inj q2
  apply lo8_inj_map p1 p2
  have := congrArg (List.map fun v => match v with | Value.int z => z | _ => 0) hm
  simpa [List.map_map, Function.comp_def] using this
abbrev rmEq : Room := { frames := 1, cells := 0, slots := 0, locals := 14 }
/-- equals of two Strings of Latin-1 chars -/
theorem k_Eq (K : SC Z a0 EL) (he : ∀ d ∈ eW, d.before a0 Z = true) {x y : Addr} {cs ds : List Int32} (hl : cs.length ≤ 4000) (hl2 : ds.length ≤ 4000) (F : Str Z h0 x cs) (G : Str Z h0 y ds) :
    OC l Z EL nb [] mEq jdk_42_method_66_code 3 (some .boolean) rmEq #[.ref x, .ref y] h0 [] (QE cs ds h0) := by
  have hs := K.1
  obtain ⟨z, hz, hz0⟩ := K.2.2
  refine oEnter (by decide +kernel) K.2.1 ?_
  intro p e s m below meth c T0 W0 _
  refine oEq (g' := mkF m 0 #[.val (.ref x), .val (.ref y), .unset] []) (by first | (simp [entryFrame, mkF, argsToLocals, Value.category]; done) | rfl) ?_
  refine oGo W0 [.aload_n 0, .aload_n 1] (by decide +kernel) (ls' := #[.val (.ref x), .val (.ref y), .unset]) (st' := [.ref y, .ref x]) rfl rfl (pc' := 2) rfl ?_
  by_cases hxy : x = y
  · subst hxy
    refine oAcF W0 (cd := .ne) (o := 5) (by decide +kernel) rfl rfl (by simp [XT.acmp]) (pc' := 5) rfl ?_
    refine oGo W0 [.iconst 1] (by decide +kernel) (ls' := #[.val (.ref x), .val (.ref x), .unset]) (st' := [.int (1 : Int32)]) rfl rfl (pc' := 6) rfl ?_
    exact oRetN (by simp) W0 rfl (by decide +kernel) (lb rfl) (lb rfl) (fun _ _ => ⟨by rw [if_pos (F.uniq G)], rfl⟩)
  refine oAcT W0 (cd := .ne) (o := 5) (by decide +kernel) rfl rfl (by simp [XT.acmp, hxy]) (pc' := 7) (by decide) (by decide) ?_
  refine oGo W0 [.aload_n 1] (by decide +kernel) (ls' := #[.val (.ref x), .val (.ref y), .unset]) (st' := [.ref y]) rfl rfl (pc' := 8) rfl ?_
  obtain ⟨t, k, x1, x2, x3, A, pA⟩ := F
  obtain ⟨u, k', y1, y2, y3, B, pB⟩ := G
  obtain ⟨T1, W1, st1⟩ := oInst W0 (idx := 10) (pc := 8) (ls := #[.val (.ref x), .val (.ref y), .unset]) (st := []) (he _ (List.mem_of_getElem? (i := 0) rfl)) (Ins.self y1) (by decide +kernel)
  refine oLift st1 ?_
  refine oIfF W1 (cd := .eq) (o := 43) (by decide +kernel) (by decide) (pc' := 14) rfl ?_
  refine oGo W1 [.aload_n 1] (by decide +kernel) (ls' := #[.val (.ref x), .val (.ref y), .unset]) (st' := [.ref y]) rfl rfl (pc' := 15) rfl ?_
  obtain ⟨T2, W2, st2⟩ := oCast W1 (idx := 10) (pc := 15) (ls := #[.val (.ref x), .val (.ref y), .unset]) (st := []) (he _ (List.mem_of_getElem? (i := 0) rfl)) (Ins.self y1) (by decide +kernel)
  refine oLift st2 ?_
  refine oGo W2 [.astore_n 2] (by decide +kernel) (ls' := #[.val (.ref x), .val (.ref y), .val (.ref y)]) (st' := []) rfl rfl (pc' := 19) rfl ?_
  obtain ⟨T3, W3, st3⟩ := oGetS W2 (pc := 19) (ls := #[.val (.ref x), .val (.ref y), .val (.ref y)]) (st := []) (hs _ (List.mem_of_getElem? (i := 6) rfl)) Via.refl (hz.ext W2.ext) (by decide +kernel)
  refine oLift st3 ?_
  refine oIfF W3 (cd := .eq) (o := 14) (by decide +kernel) (XT.i0_eq_f hz0) (pc' := 25) rfl ?_
  refine oGo W3 [.aload_n 0] (by decide +kernel) (ls' := #[.val (.ref x), .val (.ref y), .val (.ref y)]) (st' := [.ref x]) rfl rfl (pc' := 26) rfl ?_
  obtain ⟨T4, W4, st4⟩ := oGetF W3 (pc := 26) (ls := #[.val (.ref x), .val (.ref y), .val (.ref y)]) (st := []) (hs _ (List.mem_of_getElem? (i := 18) rfl)) Via.refl x2 (by decide +kernel)
  refine oLift st4 ?_
  refine oGo W4 [.aload_n 2] (by decide +kernel) (ls' := #[.val (.ref x), .val (.ref y), .val (.ref y)]) (st' := [.ref y, .int 0]) rfl rfl (pc' := 30) rfl ?_
  obtain ⟨T5, W5, st5⟩ := oGetF W4 (pc := 30) (ls := #[.val (.ref x), .val (.ref y), .val (.ref y)]) (st := [.int 0]) (hs _ (List.mem_of_getElem? (i := 18) rfl)) Via.refl y2 (by decide +kernel)
  refine oLift st5 ?_
  refine oIcF W5 (cd := .ne) (o := 21) (by decide +kernel) (XT.ii_ne_f rfl) (pc' := 36) rfl ?_
  refine oGo W5 [.aload_n 0] (by decide +kernel) (ls' := #[.val (.ref x), .val (.ref y), .val (.ref y)]) (st' := [.ref x]) rfl rfl (pc' := 37) rfl ?_
  obtain ⟨T6, W6, st6⟩ := oGetF W5 (pc := 37) (ls := #[.val (.ref x), .val (.ref y), .val (.ref y)]) (st := []) (hs _ (List.mem_of_getElem? (i := 20) rfl)) Via.refl x3 (by decide +kernel)
  refine oLift st6 ?_
  refine oGo W6 [.aload_n 2] (by decide +kernel) (ls' := #[.val (.ref x), .val (.ref y), .val (.ref y)]) (st' := [.ref y, .ref t]) rfl rfl (pc' := 41) rfl ?_
  obtain ⟨T7, W7, st7⟩ := oGetF W6 (pc := 41) (ls := #[.val (.ref x), .val (.ref y), .val (.ref y)]) (st := [.ref t]) (hs _ (List.mem_of_getElem? (i := 20) rfl)) Via.refl y3 (by decide +kernel)
  refine oLift st7 ?_
  have A' : OA Z h0 t k .byte ((cs.map fun c => c.toInt8.toInt32).map Value.int) := by rw [List.map_map]; exact A
  have B' : OA Z h0 u k' .byte ((ds.map fun c => c.toInt8.toInt32).map Value.int) := by rw [List.map_map]; exact B
  obtain ⟨v8, T8, L8, h8, vm8, W8, ⟨rfl, e8⟩, C8, st8⟩ := oCallS W7 (idx := 541) (pc := 44) (ls := #[.val (.ref x), .val (.ref y), .val (.ref y)]) (st := []) (argsL := [.ref t, .ref u]) (k_EL (h0 := h0) K.2.1 (by rw [List.length_map]; omega) (by rw [List.length_map]; omega) A' B')
    (fun x hx => nomatch hx) (he _ (List.mem_of_getElem? (i := 1) rfl)) (he _ (List.mem_of_getElem? (i := 2) rfl)) (he _ (List.mem_of_getElem? (i := 3) rfl)) (he _ (List.mem_of_getElem? (i := 4) rfl)) (by decide) (na := 2) rfl (by decide +kernel) rfl (stk := [.ref u, .ref t]) rfl (by decide +kernel) (V := 0) (lb rfl) (lb rfl) (lb rfl) (lb rfl) (lb rfl)
  refine oLift st8 ?_
  rw [e8] at W8 C8
  by_cases hq : (cs.map fun c => c.toInt8.toInt32) = (ds.map fun c => c.toInt8.toInt32)
  · rw [if_pos hq]
    have hcd := lo8_inj_map pA pB hq
    refine oIfF W8 (cd := .eq) (o := 7) (by decide +kernel) (by decide) (pc' := 50) rfl ?_
    refine oGo W8 [.iconst 1, .goto 4] (by decide +kernel) (ls' := #[.val (.ref x), .val (.ref y), .val (.ref y)]) (st' := [.int (1 : Int32)]) rfl rfl (pc' := 55) rfl ?_
    exact oRetN (by simp) W8 rfl (by decide +kernel) (lb rfl) (lb rfl) (fun _ _ => ⟨by rw [if_pos hcd], rfl⟩)
  · rw [if_neg hq]
    have hcd : ¬ cs = ds := fun q => hq (by rw [q])
    refine oIfT W8 (cd := .eq) (o := 7) (by decide +kernel) (by decide) (pc' := 54) (by decide) (by decide) ?_
    refine oGo W8 [.iconst 0] (by decide +kernel) (ls' := #[.val (.ref x), .val (.ref y), .val (.ref y)]) (st' := [.int (0 : Int32)]) rfl rfl (pc' := 55) rfl ?_
    exact oRetN (by simp) W8 rfl (by decide +kernel) (lb rfl) (lb rfl) (fun _ _ => ⟨by rw [if_neg hcd], rfl⟩)
end OwnEq
end Jvm.Pilot.@@N@@
namespace Jvm.Pilot.@@N@@
open Jvm Jvm.ClassFile Sem Op Lib Jvm.Free Jvm.Stand Jvm.LawKit Jvm.RoadKit Bundle Jvm.Pilot.@@N@@.Jvm.D Jvm.OwnK
/-- a String that stood at the start, told by the sheet -/
theorem strStart {args : Array Value} {s : State} {t : Term} (hf : Fit s) {x : Addr} (ht : t.eval args s none [] s = some (.ref x)) (h1 : (Jvm.Cond.exactly t "java/lang/String").value args s none s [] = some true) (h2 : (Jvm.Cond.eq (.field t "java/lang/String" "coder" "B") (.int 0)).value args s none s [] = some true)
    (h3 : (Jvm.Cond.arrayOf (.field t "java/lang/String" "value" "[B") .byte).value args s none s [] = some true) {n : Nat} (hn : n < 2147483648) (h4 : (Jvm.Cond.eq (.length (.field t "java/lang/String" "value" "[B")) (.int (Int32.ofNat n))).value args s none s [] = some true)
    {cs : List Int32} (hl : cs.length = n) (hp : ∀ c ∈ cs, ¬ c < 0 ∧ ¬ (255 : Int32) < c) (H : ∀ va c, (Term.field t "java/lang/String" "value" "[B").eval args s none [] s = some (.ref va) → s.heap[va]? = some c → HasL c 0 (cs.map fun c => .int c.toInt8.toInt32)) : Str s s.heap x cs := by
  obtain ⟨va, hv⟩ := arr_v h3
  obtain ⟨k, A⟩ := arrStart hf hv h3 hn h4 (vs := cs.map fun c => .int c.toInt8.toInt32) (by rw [List.length_map]; exact hl) (fun c hc => H va c hv hc)
  have hc := eqv h2 rfl (Or.inr ⟨_, rfl⟩)
  exact ⟨va, k, Exa.start ht h1, Fld.start (by rw [← fld_at ht]; exact hc), Fld.start (by rw [← fld_at ht]; exact hv), A, hp⟩
end Jvm.Pilot.@@N@@
namespace Jvm.Pilot.@@N@@
open Jvm Jvm.ClassFile Sem Op Lib Jvm.Free Jvm.Stand Jvm.LawKit Jvm.RoadKit Bundle Jvm.Pilot.@@N@@.Jvm.D Jvm.OwnK
abbrev EL : List (String × Nat) := [("com/example/gentle_hub/gentlehub/core/ChannelName", 62), ("com/example/gentle_hub/gentlehub/core/ChannelName", 68), ("com/example/gentle_hub/gentlehub/core/ChannelName", 88)]
theorem sA_in : ∀ d ∈ Bundle.stringAtoms, d ∈ tables_1 := by decide +kernel
def Sx (Z : State) : Prop := ∃ v, Sta Z Z.heap "jdk/internal/util/Preconditions" "SIOOBE_FORMATTER" "Ljava/util/function/BiFunction;" v ∧ v.isRef = true
def Ctx (Z : State) (a0 : Array Value) : Prop := (∀ d ∈ tables_1, d.before a0 Z = true) ∧ SC Z a0 EL ∧ (∀ a ∈ Bundle.stringAtoms, a.before a0 Z = true) ∧ Sx Z ∧ (∀ d ∈ eW, d.before a0 Z = true)
theorem wK {Z : State} {a0 : Array Value} (K : Ctx Z a0) (i : Nat) {d : Jvm.Cond} (h : tables_1[i]? = some d) : d.before a0 Z = true := K.1 d (List.mem_of_getElem? h)
abbrev rm_c_coder : Room := { frames := 0, cells := 0, slots := 0, locals := 0 }
set_option maxRecDepth 65536 in
set_option maxHeartbeats 40000000 in
theorem c_coder {l : Launch} {Z : State} {a0 : Array Value} {nb : Bool} (K : Ctx Z a0) {x : Addr} {h0 : Heap} {n : Int32} (hn : nar .byte n = n) (F : Fld Z h0 x "java/lang/String" "coder" "B" (.int n)) :
    OC l Z EL nb [] (⟨"java/lang/String", "coder", "()B"⟩ : MethodName) jdk_42_method_152_code 1 (some .byte) rm_c_coder #[(.ref x)] h0 [] (fun v _ h => v = some (.int n) ∧ h = h0) := by
  have hw := K.1
  have hS : ∀ a ∈ Bundle.stringAtoms, a.before a0 Z = true := K.2.2.1
  obtain ⟨z, hz, hz0⟩ := K.2.1.2.2
  refine oEnter (by decide +kernel) K.2.1.2.1 ?_
  intro _p _e _s m _below _meth _c T0 W0 S0
  refine oEq (g' := mkF m 0 #[.val (.ref x)] []) (by first | (simp [entryFrame, mkF, argsToLocals, Value.category]; done) | rfl) ?_
  obtain ⟨T1, W1, st1⟩ := oGetS W0 (pc := 0) (ls := #[sR x]) (st := []) (wK K 22 rfl) Via.refl (hz.ext W0.ext) (by decide +kernel)
  refine oLift st1 ?_
  refine oIfF W1 (cd := .eq) (o := 10) (by decide +kernel) (XT.i0_eq_f hz0) (pc' := 6) rfl ?_
  refine oGo W1 [.aload_n 0] (by decide +kernel) (ls' := #[sR x]) (st' := [(.ref x)]) rfl rfl (pc' := 7) rfl ?_
  obtain ⟨T2, W2, st2⟩ := oGetF W1 (pc := 7) (ls := #[sR x]) (st := []) (wK K 34 rfl) Via.refl F (by decide +kernel)
  refine oLift st2 ?_
  refine oGo W2 [.goto 4] (by decide +kernel) (ls' := #[sR x]) (st' := [(.int n)]) rfl rfl (pc' := 14) rfl ?_
  exact oRetN (by simp) W2 hn (by decide +kernel) (lb rfl) (lb rfl) (fun vm' hv => ⟨rfl, rfl⟩)
abbrev rm_c_len : Room := { frames := 1, cells := 0, slots := 0, locals := 13 }
set_option maxRecDepth 65536 in
set_option maxHeartbeats 40000000 in
theorem c_len {l : Launch} {Z : State} {a0 : Array Value} {nb : Bool} (K : Ctx Z a0) {x : Addr} {cs : List Int32} {h0 : Heap} (F : Str Z h0 x cs) :
    OC l Z EL nb [] (⟨"java/lang/String", "length", "()I"⟩ : MethodName) jdk_42_method_54_code 1 (some .int) rm_c_len #[(.ref x)] h0 [] (fun v _ h => v = some (.int (Int32.ofNat cs.length)) ∧ h = h0) := by
  have hw := K.1
  have hS : ∀ a ∈ Bundle.stringAtoms, a.before a0 Z = true := K.2.2.1
  obtain ⟨t, kt, X1, Fc, Fv, A, P⟩ := id F
  refine oEnter (by decide +kernel) K.2.1.2.1 ?_
  intro _p _e _s m _below _meth _c T0 W0 S0
  refine oEq (g' := mkF m 0 #[.val (.ref x)] []) (by first | (simp [entryFrame, mkF, argsToLocals, Value.category]; done) | rfl) ?_
  refine oGo W0 [.aload_n 0] (by decide +kernel) (ls' := #[sR x]) (st' := [(.ref x)]) rfl rfl (pc' := 1) rfl ?_
  obtain ⟨T1, W1, st1⟩ := oGetF W0 (pc := 1) (ls := #[sR x]) (st := []) (wK K 36 rfl) Via.refl Fv (by decide +kernel)
  refine oLift st1 ?_
  refine oLen W1 A (by decide +kernel) ?_
  rw [List.length_map]
  refine oGo W1 [.aload_n 0] (by decide +kernel) (ls' := #[sR x]) (st' := [(.ref x), (.int (Int32.ofNat cs.length))]) rfl rfl (pc' := 6) rfl ?_
  obtain ⟨v2, T2, L2, h2, vm2, W2, ⟨rfl, e2⟩, C2, st2⟩ := oCallV W1 (idx := 335) (pc := 6) (ls := #[sR x]) (st := [(.int (Int32.ofNat cs.length))]) (argsL := []) X1 (c_coder K rfl Fc) (fun x hx => nomatch hx) (wK K 73 rfl) (wK K 74 rfl) (notFace_of_selects (args := #[]) (mvT W1.warm (wK K 76 rfl))) (wK K 76 rfl) (wK K 75 rfl) (wK K 10 rfl) (wK K 77 rfl) (by decide) (na := 0) rfl (by decide +kernel) rfl (stk := [(.ref x), (.int (Int32.ofNat cs.length))]) rfl (by decide +kernel) (V := 1) (lb rfl) (lb rfl) (lb rfl) (lb rfl) (lb rfl)
  refine oLift st2 ?_
  rw [e2] at W2 C2
  show OG _ _ _ _ _ _ _ _ _ _ _ (mkF m 9 #[sR x] [(.int 0), (.int (Int32.ofNat cs.length))])
  refine oGo W2 [.ishr] (by decide +kernel) (ls' := #[sR x]) (st' := [(.int ((Int32.ofNat cs.length) >>> ((0 : Int32) &&& 31)))]) rfl rfl (pc' := 10) rfl ?_
  exact oRetI W2 (by decide +kernel) (lb rfl) (lb rfl) (fun vm' hv => ⟨by rw [shr0], rfl⟩)
abbrev rm_c_emp : Room := { frames := 0, cells := 0, slots := 0, locals := 0 }
set_option maxRecDepth 65536 in
set_option maxHeartbeats 40000000 in
theorem c_emp {l : Launch} {Z : State} {a0 : Array Value} {nb : Bool} (K : Ctx Z a0) {x : Addr} {cs : List Int32} {h0 : Heap} (F : Str Z h0 x cs) (hl : cs.length ≤ 4000) :
    OC l Z EL nb [] (⟨"java/lang/String", "isEmpty", "()Z"⟩ : MethodName) jdk_42_method_55_code 1 (some .boolean) rm_c_emp #[(.ref x)] h0 [] (fun v _ h => v = some (.int (if cs = [] then 1 else 0)) ∧ h = h0) := by
  have hw := K.1
  have hS : ∀ a ∈ Bundle.stringAtoms, a.before a0 Z = true := K.2.2.1
  obtain ⟨t, kt, X1, Fc, Fv, A, P⟩ := id F
  refine oEnter (by decide +kernel) K.2.1.2.1 ?_
  intro _p _e _s m _below _meth _c T0 W0 S0
  refine oEq (g' := mkF m 0 #[.val (.ref x)] []) (by first | (simp [entryFrame, mkF, argsToLocals, Value.category]; done) | rfl) ?_
  refine oGo W0 [.aload_n 0] (by decide +kernel) (ls' := #[sR x]) (st' := [(.ref x)]) rfl rfl (pc' := 1) rfl ?_
  obtain ⟨T1, W1, st1⟩ := oGetF W0 (pc := 1) (ls := #[sR x]) (st := []) (wK K 36 rfl) Via.refl Fv (by decide +kernel)
  refine oLift st1 ?_
  refine oLen W1 A (by decide +kernel) ?_
  rw [List.length_map]
  by_cases hc2 : (Int32.ofNat cs.length) = (0 : Int32)
  · refine oIfF W1 (cd := .ne) (o := 7) (by decide +kernel) (XT.i0_ne_f hc2) (pc' := 8) rfl ?_
    refine oGo W1 [.iconst 1, .goto 4] (by decide +kernel) (ls' := #[sR x]) (st' := [(.int 1)]) rfl rfl (pc' := 13) rfl ?_
    exact oRetN (by simp) W1 rfl (by decide +kernel) (lb rfl) (lb rfl) (fun vm' hv => ⟨by rw [if_pos (own_len0 hl hc2)], rfl⟩)
  refine oIfT W1 (cd := .ne) (o := 7) (by decide +kernel) (XT.i0_ne_t hc2) (pc' := 12) (by decide) (by decide) ?_
  refine oGo W1 [.iconst 0] (by decide +kernel) (ls' := #[sR x]) (st' := [(.int 0)]) rfl rfl (pc' := 13) rfl ?_
  exact oRetN (by simp) W1 rfl (by decide +kernel) (lb rfl) (lb rfl) (fun vm' hv => ⟨by rw [if_neg (fun q => hc2 (by rw [q]; rfl))], rfl⟩)
abbrev rm_c_pci : Room := { frames := 0, cells := 0, slots := 0, locals := 0 }
set_option maxRecDepth 65536 in
set_option maxHeartbeats 40000000 in
theorem c_pci {l : Launch} {Z : State} {a0 : Array Value} {nb : Bool} (K : Ctx Z a0) {i n : Int32} {f : Value} {h0 : Heap} (h_f : f.isRef = true) (hi : ¬ i < 0) (hn : i < n) :
    OC l Z EL nb [] (⟨"jdk/internal/util/Preconditions", "checkIndex", "(IILjava/util/function/BiFunction;)I"⟩ : MethodName) jdk_41_method_11_code 3 (some .int) rm_c_pci #[(.int i), (.int n), f] h0 [] (fun v _ h => v = some (.int i) ∧ h = h0) := by
  have hw := K.1
  have hS : ∀ a ∈ Bundle.stringAtoms, a.before a0 Z = true := K.2.2.1
  refine oEnter (by decide +kernel) K.2.1.2.1 ?_
  intro _p _e _s m _below _meth _c T0 W0 S0
  refine oEq (g' := mkF m 0 #[.val (.int i), .val (.int n), .val f] []) ((own_ef (vs := [(.int i), (.int n), f]) (List.forall_mem_cons.mpr ⟨rfl, (List.forall_mem_cons.mpr ⟨rfl, (List.forall_mem_cons.mpr ⟨refCat h_f, (fun _ h => nomatch h)⟩)⟩)⟩)).trans rfl) ?_
  refine oGo W0 [.iload_n 0] (by decide +kernel) (ls' := #[sI i, sI n, .val f]) (st' := [(.int i)]) rfl rfl (pc' := 1) rfl ?_
  refine oIfF W0 (cd := .lt) (o := 8) (by decide +kernel) (XT.i0_lt_f hi) (pc' := 4) rfl ?_
  refine oGo W0 [.iload_n 0, .iload_n 1] (by decide +kernel) (ls' := #[sI i, sI n, .val f]) (st' := [(.int n), (.int i)]) rfl rfl (pc' := 6) rfl ?_
  refine oIcT W0 (cd := .lt) (o := 10) (by decide +kernel) (XT.ii_lt_t hn) (pc' := 16) (by decide) (by decide) ?_
  refine oGo W0 [.iload_n 0] (by decide +kernel) (ls' := #[sI i, sI n, .val f]) (st' := [(.int i)]) rfl rfl (pc' := 17) rfl ?_
  exact oRetI W0 (by decide +kernel) (lb rfl) (lb rfl) (fun vm' hv => ⟨rfl, rfl⟩)
abbrev rm_c_sci : Room := { frames := 1, cells := 0, slots := 0, locals := 14 }
set_option maxRecDepth 65536 in
set_option maxHeartbeats 40000000 in
theorem c_sci {l : Launch} {Z : State} {a0 : Array Value} {nb : Bool} (K : Ctx Z a0) {i n : Int32} {h0 : Heap} (G : Sx Z) (hi : ¬ i < 0) (hn : i < n) :
    OC l Z EL nb [] (⟨"java/lang/String", "checkIndex", "(II)V"⟩ : MethodName) jdk_42_method_155_code 2 none rm_c_sci #[(.int i), (.int n)] h0 [] (fun v _ h => v = none ∧ h = h0) := by
  have hw := K.1
  have hS : ∀ a ∈ Bundle.stringAtoms, a.before a0 Z = true := K.2.2.1
  obtain ⟨f, hf, h_f⟩ := G
  refine oEnter (by decide +kernel) K.2.1.2.1 ?_
  intro _p _e _s m _below _meth _c T0 W0 S0
  refine oEq (g' := mkF m 0 #[.val (.int i), .val (.int n)] []) (by first | (simp [entryFrame, mkF, argsToLocals, Value.category]; done) | rfl) ?_
  refine oGo W0 [.iload_n 0, .iload_n 1] (by decide +kernel) (ls' := #[sI i, sI n]) (st' := [(.int n), (.int i)]) rfl rfl (pc' := 2) rfl ?_
  obtain ⟨T1, W1, st1⟩ := oGetS W0 (pc := 2) (ls := #[sI i, sI n]) (st := [(.int n), (.int i)]) (wK K 95 rfl) Via.refl (hf.ext W0.ext) (by decide +kernel)
  refine oLift st1 ?_
  obtain ⟨v2, T2, L2, h2, vm2, W2, ⟨rfl, e2⟩, C2, st2⟩ := oCallS W1 (idx := 1059) (pc := 5) (ls := #[sI i, sI n]) (st := []) (argsL := [(.int i), (.int n), f]) (c_pci K h_f hi hn) (fun x hx => nomatch hx) (wK K 97 rfl) (wK K 98 rfl) (wK K 96 rfl) (wK K 99 rfl) (by decide) (na := 3) rfl (by decide +kernel) rfl (stk := [f, (.int n), (.int i)]) rfl (by decide +kernel) (V := 0) (lb rfl) (lb rfl) (lb rfl) (lb rfl) (lb rfl)
  refine oLift st2 ?_
  rw [e2] at W2 C2
  show OG _ _ _ _ _ _ _ _ _ _ _ (mkF m 8 #[sI i, sI n] [(.int i)])
  refine oGo W2 [.pop] (by decide +kernel) (ls' := #[sI i, sI n]) (st' := []) rfl rfl (pc' := 9) rfl ?_
  exact oRet0 W2 (by decide +kernel) (lb rfl) (lb rfl) (fun vm' hv => ⟨rfl, rfl⟩)
abbrev rm_c_isl : Room := { frames := 0, cells := 0, slots := 0, locals := 0 }
set_option maxRecDepth 65536 in
set_option maxHeartbeats 40000000 in
theorem c_isl {l : Launch} {Z : State} {a0 : Array Value} {nb : Bool} (K : Ctx Z a0) {x : Addr} {h0 : Heap} {n : Int32} (F : Fld Z h0 x "java/lang/String" "coder" "B" (.int n)) :
    OC l Z EL nb [] (⟨"java/lang/String", "isLatin1", "()Z"⟩ : MethodName) jdk_42_method_154_code 1 (some .boolean) rm_c_isl #[(.ref x)] h0 [] (fun v _ h => v = some (.int (if n = 0 then 1 else 0)) ∧ h = h0) := by
  have hw := K.1
  have hS : ∀ a ∈ Bundle.stringAtoms, a.before a0 Z = true := K.2.2.1
  obtain ⟨z, hz, hz0⟩ := K.2.1.2.2
  refine oEnter (by decide +kernel) K.2.1.2.1 ?_
  intro _p _e _s m _below _meth _c T0 W0 S0
  refine oEq (g' := mkF m 0 #[.val (.ref x)] []) (by first | (simp [entryFrame, mkF, argsToLocals, Value.category]; done) | rfl) ?_
  obtain ⟨T1, W1, st1⟩ := oGetS W0 (pc := 0) (ls := #[sR x]) (st := []) (wK K 22 rfl) Via.refl (hz.ext W0.ext) (by decide +kernel)
  refine oLift st1 ?_
  refine oIfF W1 (cd := .eq) (o := 14) (by decide +kernel) (XT.i0_eq_f hz0) (pc' := 6) rfl ?_
  refine oGo W1 [.aload_n 0] (by decide +kernel) (ls' := #[sR x]) (st' := [(.ref x)]) rfl rfl (pc' := 7) rfl ?_
  obtain ⟨T2, W2, st2⟩ := oGetF W1 (pc := 7) (ls := #[sR x]) (st := []) (wK K 34 rfl) Via.refl F (by decide +kernel)
  refine oLift st2 ?_
  by_cases hc3 : n = (0 : Int32)
  · refine oIfF W2 (cd := .ne) (o := 7) (by decide +kernel) (XT.i0_ne_f hc3) (pc' := 13) rfl ?_
    refine oGo W2 [.iconst 1, .goto 4] (by decide +kernel) (ls' := #[sR x]) (st' := [(.int 1)]) rfl rfl (pc' := 18) rfl ?_
    exact oRetN (by simp) W2 rfl (by decide +kernel) (lb rfl) (lb rfl) (fun vm' hv => ⟨by rw [if_pos hc3], rfl⟩)
  refine oIfT W2 (cd := .ne) (o := 7) (by decide +kernel) (XT.i0_ne_t hc3) (pc' := 17) (by decide) (by decide) ?_
  refine oGo W2 [.iconst 0] (by decide +kernel) (ls' := #[sR x]) (st' := [(.int 0)]) rfl rfl (pc' := 18) rfl ?_
  exact oRetN (by simp) W2 rfl (by decide +kernel) (lb rfl) (lb rfl) (fun vm' hv => ⟨by rw [if_neg hc3], rfl⟩)
abbrev rm_c_lch : Room := { frames := 2, cells := 0, slots := 0, locals := 27 }
set_option maxRecDepth 65536 in
set_option maxHeartbeats 40000000 in
theorem c_lch {l : Launch} {Z : State} {a0 : Array Value} {nb : Bool} (K : Ctx Z a0) {t : Addr} {kt : ClassId} {cs : List Int32} {i : Int32} {h0 : Heap} (G : Sx Z) (A : OA Z h0 t kt .byte (cs.map fun c => .int c.toInt8.toInt32)) (P : ∀ c ∈ cs, ¬ c < 0 ∧ ¬ (255 : Int32) < c) (hl : cs.length ≤ 4000) (hi : ¬ i < 0) {c : Int32} (hc : cs[i.toNatClampNeg]? = some c) :
    OC l Z EL nb [] (⟨"java/lang/StringLatin1", "charAt", "([BI)C"⟩ : MethodName) jdk_43_method_2_code 2 (some .char) rm_c_lch #[(.ref t), (.int i)] h0 [] (fun v _ h => v = some (.int c) ∧ h = h0) := by
  have hw := K.1
  have hS : ∀ a ∈ Bundle.stringAtoms, a.before a0 Z = true := K.2.2.1
  have hlt : i < Int32.ofNat cs.length := own_ltn hi hl (List.getElem?_eq_some_iff.mp hc).1
  have hP := P c (List.mem_of_getElem? hc)
  refine oEnter (by decide +kernel) K.2.1.2.1 ?_
  intro _p _e _s m _below _meth _c T0 W0 S0
  refine oEq (g' := mkF m 0 #[.val (.ref t), .val (.int i)] []) (by first | (simp [entryFrame, mkF, argsToLocals, Value.category]; done) | rfl) ?_
  refine oGo W0 [.iload_n 1, .aload_n 0] (by decide +kernel) (ls' := #[sR t, sI i]) (st' := [(.ref t), (.int i)]) rfl rfl (pc' := 2) rfl ?_
  refine oLen W0 A (by decide +kernel) ?_
  rw [List.length_map]
  obtain ⟨v1, T1, L1, h1, vm1, W1, ⟨rfl, e1⟩, C1, st1⟩ := oCallS W0 (idx := 9) (pc := 3) (ls := #[sR t, sI i]) (st := []) (argsL := [(.int i), (.int (Int32.ofNat cs.length))]) (c_sci K G hi hlt) (fun x hx => nomatch hx) (wK K 92 rfl) (wK K 93 rfl) (wK K 10 rfl) (wK K 94 rfl) (by decide) (na := 2) rfl (by decide +kernel) rfl (stk := [(.int (Int32.ofNat cs.length)), (.int i)]) rfl (by decide +kernel) (V := 0) (lb rfl) (lb rfl) (lb rfl) (lb rfl) (lb rfl)
  refine oLift st1 ?_
  rw [e1] at W1 C1
  show OG _ _ _ _ _ _ _ _ _ _ _ (mkF m 6 #[sR t, sI i] [])
  refine oGo W1 [.aload_n 0, .iload_n 1] (by decide +kernel) (ls' := #[sR t, sI i]) (st' := [(.int i), (.ref t)]) rfl rfl (pc' := 8) rfl ?_
  refine oGet W1 A (v := (.int c.toInt8.toInt32)) hi (by rw [List.getElem?_map, hc]; rfl) (Or.inr (Or.inl ⟨rfl, rfl⟩)) (by decide +kernel) ?_
  refine oGo W1 [.sipush 255, .iand, .i2c] (by decide +kernel) (ls' := #[sR t, sI i]) (st' := [(.int ((c.toInt8.toInt32 &&& (255 : Int32)).toUInt32.toUInt16.toUInt32.toInt32))]) rfl rfl (pc' := 14) rfl ?_
  rw [own_lo8c hP]
  exact oRetN (by simp) W1 (narC hP) (by decide +kernel) (lb rfl) (lb rfl) (fun vm' hv => ⟨rfl, rfl⟩)
abbrev rm_c_chr : Room := { frames := 3, cells := 0, slots := 0, locals := 40 }
set_option maxRecDepth 65536 in
set_option maxHeartbeats 40000000 in
theorem c_chr {l : Launch} {Z : State} {a0 : Array Value} {nb : Bool} (K : Ctx Z a0) {x : Addr} {cs : List Int32} {i : Int32} {h0 : Heap} (G : Sx Z) (F : Str Z h0 x cs) (hl : cs.length ≤ 4000) (hi : ¬ i < 0) {c : Int32} (hc : cs[i.toNatClampNeg]? = some c) :
    OC l Z EL nb [] (⟨"java/lang/String", "charAt", "(I)C"⟩ : MethodName) jdk_42_method_56_code 2 (some .char) rm_c_chr #[(.ref x), (.int i)] h0 [] (fun v _ h => v = some (.int c) ∧ h = h0) := by
  have hw := K.1
  have hS : ∀ a ∈ Bundle.stringAtoms, a.before a0 Z = true := K.2.2.1
  obtain ⟨t, kt, X1, Fc, Fv, A, P⟩ := id F
  have hP := P c (List.mem_of_getElem? hc)
  refine oEnter (by decide +kernel) K.2.1.2.1 ?_
  intro _p _e _s m _below _meth _c T0 W0 S0
  refine oEq (g' := mkF m 0 #[.val (.ref x), .val (.int i)] []) (by first | (simp [entryFrame, mkF, argsToLocals, Value.category]; done) | rfl) ?_
  refine oGo W0 [.aload_n 0] (by decide +kernel) (ls' := #[sR x, sI i]) (st' := [(.ref x)]) rfl rfl (pc' := 1) rfl ?_
  obtain ⟨v1, T1, L1, h1, vm1, W1, ⟨rfl, e1⟩, C1, st1⟩ := oCallV W0 (idx := 492) (pc := 1) (ls := #[sR x, sI i]) (st := []) (argsL := []) X1 (c_isl K Fc) (fun x hx => nomatch hx) (wK K 83 rfl) (wK K 84 rfl) (notFace_of_selects (args := #[]) (mvT W0.warm (wK K 86 rfl))) (wK K 86 rfl) (wK K 85 rfl) (wK K 10 rfl) (wK K 87 rfl) (by decide) (na := 0) rfl (by decide +kernel) rfl (stk := [(.ref x)]) rfl (by decide +kernel) (V := 0) (lb rfl) (lb rfl) (lb rfl) (lb rfl) (lb rfl)
  refine oLift st1 ?_
  rw [e1] at W1 C1
  show OG _ _ _ _ _ _ _ _ _ _ _ (mkF m 4 #[sR x, sI i] [(.int 1)])
  refine oIfF W1 (cd := .eq) (o := 12) (by decide +kernel) (XT.i0_eq_f (by decide)) (pc' := 7) rfl ?_
  refine oGo W1 [.aload_n 0] (by decide +kernel) (ls' := #[sR x, sI i]) (st' := [(.ref x)]) rfl rfl (pc' := 8) rfl ?_
  obtain ⟨T2, W2, st2⟩ := oGetF W1 (pc := 8) (ls := #[sR x, sI i]) (st := []) (wK K 36 rfl) Via.refl Fv (by decide +kernel)
  refine oLift st2 ?_
  refine oGo W2 [.iload_n 1] (by decide +kernel) (ls' := #[sR x, sI i]) (st' := [(.int i), (.ref t)]) rfl rfl (pc' := 12) rfl ?_
  obtain ⟨v3, T3, L3, h3, vm3, W3, ⟨rfl, e3⟩, C3, st3⟩ := oCallS W2 (idx := 495) (pc := 12) (ls := #[sR x, sI i]) (st := []) (argsL := [(.ref t), (.int i)]) (c_lch K G A P hl hi hc) (fun x hx => nomatch hx) (wK K 88 rfl) (wK K 89 rfl) (wK K 90 rfl) (wK K 91 rfl) (by decide) (na := 2) rfl (by decide +kernel) rfl (stk := [(.int i), (.ref t)]) rfl (by decide +kernel) (V := 0) (lb rfl) (lb rfl) (lb rfl) (lb rfl) (lb rfl)
  refine oLift st3 ?_
  rw [e3] at W3 C3
  show OG _ _ _ _ _ _ _ _ _ _ _ (mkF m 15 #[sR x, sI i] [(.int c)])
  exact oRetN (by simp) W3 (narC hP) (by decide +kernel) (lb rfl) (lb rfl) (fun vm' hv => ⟨rfl, rfl⟩)
theorem cpy_all (xs : List Value) (z : Value) (o n : Nat) (h : o + n ≤ xs.length) : cpy (List.replicate n z) xs o 0 n = (xs.drop o).take n := by
  simp [cpy]
theorem sub_n {a b : Nat} (h : b ≤ a) : (Int32.ofNat a - Int32.ofNat b : Int32) = Int32.ofNat (a - b) := XT.sub32n h
theorem ofNat0 {n : Nat} (hn : n ≤ 4000) (h : Int32.ofNat n = 0) : n = 0 := by
  have := congrArg Int32.toNatClampNeg h
  rw [n_cl (by omega)] at this
  exact this
theorem ofNat_inj {a b : Nat} (ha : a ≤ 4000) (hb : b ≤ 4000) (h : Int32.ofNat a = Int32.ofNat b) : a = b := by
  have := congrArg Int32.toNatClampNeg h
  rwa [n_cl (by omega), n_cl (by omega)] at this
abbrev rm_c_min : Room := { frames := 0, cells := 0, slots := 0, locals := 0 }
set_option maxRecDepth 65536 in
set_option maxHeartbeats 40000000 in
theorem c_min {l : Launch} {Z : State} {a0 : Array Value} {nb : Bool} (K : Ctx Z a0) {a b : Nat} {h0 : Heap} (ha : a ≤ 4000) (hb : b ≤ a) :
    OC l Z EL nb [] (⟨"java/lang/Math", "min", "(II)I"⟩ : MethodName) jdk_29_method_69_code 2 (some .int) rm_c_min #[(.int (Int32.ofNat a)), (.int (Int32.ofNat b))] h0 [] (fun v _ h => v = some (.int (Int32.ofNat b)) ∧ h = h0) := by
  have hw := K.1
  have hS : ∀ a ∈ Bundle.stringAtoms, a.before a0 Z = true := K.2.2.1
  refine oEnter (by decide +kernel) K.2.1.2.1 ?_
  intro _p _e _s m _below _meth _c T0 W0 S0
  refine oEq (g' := mkF m 0 #[.val (.int (Int32.ofNat a)), .val (.int (Int32.ofNat b))] []) (by first | (simp [entryFrame, mkF, argsToLocals, Value.category]; done) | rfl) ?_
  refine oGo W0 [.iload_n 0, .iload_n 1] (by decide +kernel) (ls' := #[sI (Int32.ofNat a), sI (Int32.ofNat b)]) (st' := [(.int (Int32.ofNat b)), (.int (Int32.ofNat a))]) rfl rfl (pc' := 2) rfl ?_
  by_cases hc1 : (Int32.ofNat b) < (Int32.ofNat a)
  · refine oIcT W0 (cd := .gt) (o := 7) (by decide +kernel) (XT.ii_gt_t hc1) (pc' := 9) (by decide) (by decide) ?_
    refine oGo W0 [.iload_n 1] (by decide +kernel) (ls' := #[sI (Int32.ofNat a), sI (Int32.ofNat b)]) (st' := [(.int (Int32.ofNat b))]) rfl rfl (pc' := 10) rfl ?_
    exact oRetI W0 (by decide +kernel) (lb rfl) (lb rfl) (fun vm' hv => ⟨rfl, rfl⟩)
  refine oIcF W0 (cd := .gt) (o := 7) (by decide +kernel) (XT.ii_gt_f hc1) (pc' := 5) rfl ?_
  refine oGo W0 [.iload_n 0, .goto 4] (by decide +kernel) (ls' := #[sI (Int32.ofNat a), sI (Int32.ofNat b)]) (st' := [(.int (Int32.ofNat a))]) rfl rfl (pc' := 10) rfl ?_
  exact oRetI W0 (by decide +kernel) (lb rfl) (lb rfl) (fun vm' hv => ⟨by rw [show a = b from Nat.le_antisymm (Nat.le_of_not_lt fun q => hc1 ((n_lt (by omega) (by omega)).mpr q)) hb], rfl⟩)
abbrev rm_c_ckl : Room := { frames := 0, cells := 0, slots := 0, locals := 0 }
set_option maxRecDepth 65536 in
set_option maxHeartbeats 40000000 in
theorem c_ckl {l : Launch} {Z : State} {a0 : Array Value} {nb : Bool} (K : Ctx Z a0) {a b : Nat} {h0 : Heap} (hb : b ≤ 4000) (ha : a ≤ b) :
    OC l Z EL nb [] (⟨"java/util/Arrays", "checkLength", "(II)V"⟩ : MethodName) jdk_65_method_131_code 2 none rm_c_ckl #[(.int (Int32.ofNat a)), (.int (Int32.ofNat b))] h0 [] (fun v _ h => v = none ∧ h = h0) := by
  have hw := K.1
  have hS : ∀ a ∈ Bundle.stringAtoms, a.before a0 Z = true := K.2.2.1
  refine oEnter (by decide +kernel) K.2.1.2.1 ?_
  intro _p _e _s m _below _meth _c T0 W0 S0
  refine oEq (g' := mkF m 0 #[.val (.int (Int32.ofNat a)), .val (.int (Int32.ofNat b))] []) (by first | (simp [entryFrame, mkF, argsToLocals, Value.category]; done) | rfl) ?_
  refine oGo W0 [.iload_n 1, .iload_n 0] (by decide +kernel) (ls' := #[sI (Int32.ofNat a), sI (Int32.ofNat b)]) (st' := [(.int (Int32.ofNat a)), (.int (Int32.ofNat b))]) rfl rfl (pc' := 2) rfl ?_
  refine oIcT W0 (cd := .ge) (o := 35) (by decide +kernel) (XT.ii_ge_t (fun q => absurd ((n_lt (by omega) (by omega)).mp q) (by omega))) (pc' := 37) (by decide) (by decide) ?_
  exact oRet0 W0 (by decide +kernel) (lb rfl) (lb rfl) (fun vm' hv => ⟨rfl, rfl⟩)
abbrev rm_c_crb : Room := { frames := 1, cells := 1, slots := 32, locals := 40 }
set_option maxRecDepth 65536 in
set_option maxHeartbeats 40000000 in
theorem c_crb {l : Launch} {Z : State} {a0 : Array Value} {nb : Bool} (K : Ctx Z a0) {t : Addr} {k : ClassId} {vs : List Value} {o e : Nat} {h0 : Heap} (A : OA Z h0 t k .byte vs) (hv : vs.length ≤ 32) (ho : o ≤ e) (he : e ≤ vs.length) :
    OC l Z EL nb [] (⟨"java/util/Arrays", "copyOfRangeByte", "([BII)[B"⟩ : MethodName) jdk_65_method_133_code 5 (some (.array .byte)) rm_c_crb #[(.ref t), (.int (Int32.ofNat o)), (.int (Int32.ofNat e))] h0 [] (fun v _ h => ∃ d kd, v = some (.ref d) ∧ h0.size ≤ d ∧ Ext h0 h ∧ OA Z h d kd .byte ((vs.drop o).take (e - o))) := by
  have hw := K.1
  have hS : ∀ a ∈ Bundle.stringAtoms, a.before a0 Z = true := K.2.2.1
  refine oEnter (by decide +kernel) K.2.1.2.1 ?_
  intro _p _e _s m _below _meth _c T0 W0 S0
  refine oEq (g' := mkF m 0 #[.val (.ref t), .val (.int (Int32.ofNat o)), .val (.int (Int32.ofNat e)), .unset, .unset] []) (by first | (simp [entryFrame, mkF, argsToLocals, Value.category]; done) | rfl) ?_
  refine oGo W0 [.iload_n 1, .iload_n 2] (by decide +kernel) (ls' := #[sR t, sI (Int32.ofNat o), sI (Int32.ofNat e), sU, sU]) (st' := [(.int (Int32.ofNat e)), (.int (Int32.ofNat o))]) rfl rfl (pc' := 2) rfl ?_
  obtain ⟨v1, T1, L1, h1, vm1, W1, ⟨rfl, e1⟩, C1, st1⟩ := oCallS W0 (idx := 343) (pc := 2) (ls := #[sR t, sI (Int32.ofNat o), sI (Int32.ofNat e), sU, sU]) (st := []) (argsL := [(.int (Int32.ofNat o)), (.int (Int32.ofNat e))]) (c_ckl K (by omega) ho) (fun x hx => nomatch hx) (wK K 229 rfl) (wK K 230 rfl) (wK K 224 rfl) (wK K 231 rfl) (by decide) (na := 2) rfl (by decide +kernel) rfl (stk := [(.int (Int32.ofNat e)), (.int (Int32.ofNat o))]) rfl (by decide +kernel) (V := 0) (lb rfl) (lb rfl) (lb rfl) (lb rfl) (lb rfl)
  refine oLift st1 ?_
  rw [e1] at W1 C1
  show OG _ _ _ _ _ _ _ _ _ _ _ (mkF m 5 #[sR t, sI (Int32.ofNat o), sI (Int32.ofNat e), sU, sU] [])
  refine oGo W1 [.iload_n 2, .iload_n 1, .isub, .istore_n 3, .iload_n 3] (by decide +kernel) (ls' := #[sR t, sI (Int32.ofNat o), sI (Int32.ofNat e), sI ((Int32.ofNat e) - (Int32.ofNat o)), sU]) (st' := [(.int ((Int32.ofNat e) - (Int32.ofNat o)))]) rfl rfl (pc' := 10) rfl ?_
  rw [sub_n ho]
  obtain ⟨T2, h2, d, kd, W2, g2, E2, A2, S2, C2, st2⟩ := oNewA W1 (aty := .byte) (pc := 10) (ls := #[sR t, sI (Int32.ofNat o), sI (Int32.ofNat e), sI (Int32.ofNat (e - o)), sU]) (st := []) (wK K 27 rfl) (by decide +kernel) (n := Int32.ofNat (e - o)) (n_nn (by omega)) (cap := 32) (by rw [n_cl (by omega)]; omega) (lb rfl) (lb rfl) (lb rfl)
  refine oLift st2 ?_
  rw [n_cl (by omega)] at A2
  refine oGo W2 [.astore 4, .aload_n 0, .iload_n 1, .aload 4, .iconst 0, .aload_n 0] (by decide +kernel) (ls' := #[sR t, sI (Int32.ofNat o), sI (Int32.ofNat e), sI (Int32.ofNat (e - o)), sR d]) (st' := [(.ref t), (.int 0), (.ref d), (.int (Int32.ofNat o)), (.ref t)]) rfl rfl (pc' := 20) rfl ?_
  refine oLen W2 (A.ext E2) (by decide +kernel) ?_
  refine oGo W2 [.iload_n 1, .isub, .iload_n 3] (by decide +kernel) (ls' := #[sR t, sI (Int32.ofNat o), sI (Int32.ofNat e), sI (Int32.ofNat (e - o)), sR d]) (st' := [(.int (Int32.ofNat (e - o))), (.int ((Int32.ofNat vs.length) - (Int32.ofNat o))), (.int 0), (.ref d), (.int (Int32.ofNat o)), (.ref t)]) rfl rfl (pc' := 24) rfl ?_
  rw [sub_n (show o ≤ vs.length by omega)]
  obtain ⟨v3, T3, L3, h3, vm3, W3, ⟨rfl, e3⟩, C3, st3⟩ := oCallS W2 (idx := 304) (pc := 24) (ls := #[sR t, sI (Int32.ofNat o), sI (Int32.ofNat e), sI (Int32.ofNat (e - o)), sR d]) (st := [(.int 0), (.ref d), (.int (Int32.ofNat o)), (.ref t)]) (argsL := [(.int (Int32.ofNat (vs.length - o))), (.int (Int32.ofNat (e - o)))]) (c_min K (a := vs.length - o) (b := e - o) (by omega) (by omega)) (fun x hx => nomatch hx) (wK K 232 rfl) (wK K 233 rfl) (wK K 234 rfl) (wK K 235 rfl) (by decide) (na := 2) rfl (by decide +kernel) rfl (stk := [(.int (Int32.ofNat (e - o))), (.int (Int32.ofNat (vs.length - o))), (.int 0), (.ref d), (.int (Int32.ofNat o)), (.ref t)]) rfl (by decide +kernel) (V := 4) (lb rfl) (lb rfl) (lb rfl) (lb rfl) (lb rfl)
  refine oLift st3 ?_
  rw [e3] at W3 C3
  show OG _ _ _ _ _ _ _ _ _ _ _ (mkF m 27 #[sR t, sI (Int32.ofNat o), sI (Int32.ofNat e), sI (Int32.ofNat (e - o)), sR d] [(.int (Int32.ofNat (e - o))), (.int 0), (.ref d), (.int (Int32.ofNat o)), (.ref t)])
  obtain ⟨T4, h4, W4, K4, A4, C4, st4⟩ := oCopy W3 (idx := 150) (pc := 27) (ls := #[sR t, sI (Int32.ofNat o), sI (Int32.ofNat e), sI (Int32.ofNat (e - o)), sR d]) (st := []) (A.ext E2) A2 (o := o) (q := 0) (n := (e - o)) (by omega) (by rw [List.length_replicate]; omega) (Nat.le_trans W0.ext.1 g2) (C3.safe A2.lt S2) (wK K 236 rfl) (wK K 186 rfl) (wK K 184 rfl) (wK K 185 rfl) rfl (by decide +kernel) (V := 0) (lb rfl) (lb rfl) (lb rfl)
  refine oLift st4 ?_
  refine oGo W4 [.aload 4] (by decide +kernel) (ls' := #[sR t, sI (Int32.ofNat o), sI (Int32.ofNat e), sI (Int32.ofNat (e - o)), sR d]) (st' := [(.ref d)]) rfl rfl (pc' := 32) rfl ?_
  have hcp := cpy_all vs (.int 0) o (e - o) (by omega)
  exact oRetA rfl W4 rfl rfl (by decide +kernel) (lb rfl) (lb rfl) (fun vm' hv => ⟨d, kd, rfl, g2, exK E2 K4 (fun y hy => by cases List.mem_singleton.mp hy; exact g2), hcp ▸ A4⟩)
abbrev rm_c_cr : Room := { frames := 2, cells := 1, slots := 32, locals := 56 }
set_option maxRecDepth 65536 in
set_option maxHeartbeats 40000000 in
theorem c_cr {l : Launch} {Z : State} {a0 : Array Value} {nb : Bool} (K : Ctx Z a0) {t : Addr} {k : ClassId} {vs : List Value} {o e : Nat} {h0 : Heap} (A : OA Z h0 t k .byte vs) (hv : vs.length ≤ 32) (ho : o ≤ e) (he : e ≤ vs.length) (hne : o = 0 → e ≠ vs.length) :
    OC l Z EL nb [] (⟨"java/util/Arrays", "copyOfRange", "([BII)[B"⟩ : MethodName) jdk_65_method_132_code 3 (some (.array .byte)) rm_c_cr #[(.ref t), (.int (Int32.ofNat o)), (.int (Int32.ofNat e))] h0 [] (fun v _ h => ∃ d kd, v = some (.ref d) ∧ h0.size ≤ d ∧ Ext h0 h ∧ OA Z h d kd .byte ((vs.drop o).take (e - o))) := by
  have hw := K.1
  have hS : ∀ a ∈ Bundle.stringAtoms, a.before a0 Z = true := K.2.2.1
  refine oEnter (by decide +kernel) K.2.1.2.1 ?_
  intro _p _e _s m _below _meth _c T0 W0 S0
  refine oEq (g' := mkF m 0 #[.val (.ref t), .val (.int (Int32.ofNat o)), .val (.int (Int32.ofNat e))] []) (by first | (simp [entryFrame, mkF, argsToLocals, Value.category]; done) | rfl) ?_
  refine oGo W0 [.iload_n 1] (by decide +kernel) (ls' := #[sR t, sI (Int32.ofNat o), sI (Int32.ofNat e)]) (st' := [(.int (Int32.ofNat o))]) rfl rfl (pc' := 1) rfl ?_
  by_cases hc1 : (Int32.ofNat o) = (0 : Int32)
  · refine oIfF W0 (cd := .ne) (o := 9) (by decide +kernel) (XT.i0_ne_f hc1) (pc' := 4) rfl ?_
    refine oGo W0 [.iload_n 2, .aload_n 0] (by decide +kernel) (ls' := #[sR t, sI (Int32.ofNat o), sI (Int32.ofNat e)]) (st' := [(.ref t), (.int (Int32.ofNat e))]) rfl rfl (pc' := 6) rfl ?_
    refine oLen W0 A (by decide +kernel) ?_
    refine oIcF W0 (cd := .eq) (o := 10) (by decide +kernel) (XT.ii_eq_f (fun q => hne (ofNat0 (by omega) hc1) (ofNat_inj (by omega) (by omega) q))) (pc' := 10) rfl ?_
    refine oGo W0 [.aload_n 0, .iload_n 1, .iload_n 2] (by decide +kernel) (ls' := #[sR t, sI (Int32.ofNat o), sI (Int32.ofNat e)]) (st' := [(.int (Int32.ofNat e)), (.int (Int32.ofNat o)), (.ref t)]) rfl rfl (pc' := 13) rfl ?_
    obtain ⟨v2, T2, L2, h2, vm2, W2, ⟨d, kd, rfl, g2, E2, B2⟩, C2, st2⟩ := oCallS W0 (idx := 339) (pc := 13) (ls := #[sR t, sI (Int32.ofNat o), sI (Int32.ofNat e)]) (st := []) (argsL := [(.ref t), (.int (Int32.ofNat o)), (.int (Int32.ofNat e))]) (c_crb K A hv ho he) (fun x hx => nomatch hx) (wK K 226 rfl) (wK K 227 rfl) (wK K 224 rfl) (wK K 228 rfl) (by decide) (na := 3) rfl (by decide +kernel) rfl (stk := [(.int (Int32.ofNat e)), (.int (Int32.ofNat o)), (.ref t)]) rfl (by decide +kernel) (V := 0) (lb rfl) (lb rfl) (lb rfl) (lb rfl) (lb rfl)
    refine oLift st2 ?_
    show OG _ _ _ _ _ _ _ _ _ _ _ (mkF m 16 #[sR t, sI (Int32.ofNat o), sI (Int32.ofNat e)] [(.ref d)])
    exact oRetA rfl W2 rfl rfl (by decide +kernel) (lb rfl) (lb rfl) (fun vm' hv => ⟨d, kd, rfl, g2, E2, B2⟩)
  · refine oIfT W0 (cd := .ne) (o := 9) (by decide +kernel) (XT.i0_ne_t hc1) (pc' := 10) (by decide) (by decide) ?_
    refine oGo W0 [.aload_n 0, .iload_n 1, .iload_n 2] (by decide +kernel) (ls' := #[sR t, sI (Int32.ofNat o), sI (Int32.ofNat e)]) (st' := [(.int (Int32.ofNat e)), (.int (Int32.ofNat o)), (.ref t)]) rfl rfl (pc' := 13) rfl ?_
    obtain ⟨v3, T3, L3, h3, vm3, W3, ⟨d, kd, rfl, g3, E3, B3⟩, C3, st3⟩ := oCallS W0 (idx := 339) (pc := 13) (ls := #[sR t, sI (Int32.ofNat o), sI (Int32.ofNat e)]) (st := []) (argsL := [(.ref t), (.int (Int32.ofNat o)), (.int (Int32.ofNat e))]) (c_crb K A hv ho he) (fun x hx => nomatch hx) (wK K 226 rfl) (wK K 227 rfl) (wK K 224 rfl) (wK K 228 rfl) (by decide) (na := 3) rfl (by decide +kernel) rfl (stk := [(.int (Int32.ofNat e)), (.int (Int32.ofNat o)), (.ref t)]) rfl (by decide +kernel) (V := 0) (lb rfl) (lb rfl) (lb rfl) (lb rfl) (lb rfl)
    refine oLift st3 ?_
    show OG _ _ _ _ _ _ _ _ _ _ _ (mkF m 16 #[sR t, sI (Int32.ofNat o), sI (Int32.ofNat e)] [(.ref d)])
    exact oRetA rfl W3 rfl rfl (by decide +kernel) (lb rfl) (lb rfl) (fun vm' hv => ⟨d, kd, rfl, g3, E3, B3⟩)
def SBd (Z : State) (h : Heap) (b t : Addr) (kt : ClassId) (vs : List Value) (n : Nat) : Prop := Exa Z h b "java/lang/StringBuilder" ∧ Fld Z h b "java/lang/AbstractStringBuilder" "value" "[B" (.ref t) ∧ Fld Z h b "java/lang/AbstractStringBuilder" "coder" "B" (.int 0) ∧ Fld Z h b "java/lang/AbstractStringBuilder" "count" "I" (.int (Int32.ofNat n)) ∧ OA Z h t kt .byte vs ∧ Z.heap.size ≤ t ∧ t ≠ b
abbrev byt (cs : List Int32) : List Value := cs.map fun c => Value.int c.toInt8.toInt32
theorem shl0 (x : Int32) : x <<< ((0 : Int32) &&& 31) = x := by
  apply Int32.toInt_inj.mp
  have e := c_ishl x 0 0 (by decide)
  have k0 : ((2 ^ 0 : Nat) : Int) = 1 := by decide
  rw [k0] at e
  have := (x <<< ((0 : Int32) &&& 31)).le_toInt
  have := (x <<< ((0 : Int32) &&& 31)).toInt_lt
  have := x.le_toInt
  have := x.toInt_lt
  omega
theorem add_n (a b : Nat) : (Int32.ofNat a + Int32.ofNat b : Int32) = Int32.ofNat (a + b) := XT.add32n a b
theorem sub_le0 {m n : Nat} (hm : m ≤ n) (hn : n ≤ 4000) : ¬ (0 : Int32) < Int32.ofNat m - Int32.ofNat n := by
  rw [Int32.lt_iff_toInt_lt]
  have e := c_isub (Int32.ofNat m) (Int32.ofNat n)
  rw [Int32.toInt_ofNat_small (by omega), Int32.toInt_ofNat_small (by omega)] at e
  have := (Int32.ofNat m - Int32.ofNat n).le_toInt
  have := (Int32.ofNat m - Int32.ofNat n).toInt_lt
  have k0 : (0 : Int32).toInt = 0 := rfl
  rw [k0]; omega
abbrev rm_c_asi : Room := { frames := 1, cells := 1, slots := 16, locals := 12 }
set_option maxRecDepth 65536 in
set_option maxHeartbeats 40000000 in
theorem c_asi {l : Launch} {Z : State} {a0 : Array Value} {nb : Bool} (K : Ctx Z a0) {b : Addr} {v0 v1 : Value} {h0 : Heap} (hfr : Z.heap.size ≤ b) (X : Exa Z h0 b "java/lang/StringBuilder") (Fv : Fld Z h0 b "java/lang/AbstractStringBuilder" "value" "[B" v0) (Fc : Fld Z h0 b "java/lang/AbstractStringBuilder" "coder" "B" v1) (Fn : Fld Z h0 b "java/lang/AbstractStringBuilder" "count" "I" (.int 0)) :
    OC l Z EL nb [] (⟨"java/lang/AbstractStringBuilder", "<init>", "(I)V"⟩ : MethodName) jdk_68_method_2_code 2 none rm_c_asi #[(.ref b), (.int 16)] h0 [] (fun v vm h => v = none ∧ ∃ t kt, h0.size ≤ t ∧ Keep h0 h [b] ∧ SBd Z h b t kt (List.replicate 16 (.int 0)) 0 ∧ Safe Z EL vm h t) := by
  have hw := K.1
  have hS : ∀ a ∈ Bundle.stringAtoms, a.before a0 Z = true := K.2.2.1
  obtain ⟨z, hz, hz0⟩ := K.2.1.2.2
  refine oEnter (by decide +kernel) K.2.1.2.1 ?_
  intro _p _e _s m _below _meth _c T0 W0 S0
  refine oEq (g' := mkF m 0 #[.val (.ref b), .val (.int 16)] []) (by first | (simp [entryFrame, mkF, argsToLocals, Value.category]; done) | rfl) ?_
  refine oGo W0 [.aload_n 0] (by decide +kernel) (ls' := #[sR b, sI 16]) (st' := [(.ref b)]) rfl rfl (pc' := 1) rfl ?_
  obtain ⟨T1, W1, st1⟩ := oInit W0 (idx := 3) (pc := 1) (ls := #[sR b, sI 16]) (st := []) (a := b) (wK K 141 rfl) (wK K 20 rfl) (wK K 21 rfl) rfl (by decide +kernel) (lb rfl) (V := 0) (lb rfl) (lb rfl)
  refine oLift st1 ?_
  obtain ⟨T2, W2, st2⟩ := oGetS W1 (pc := 4) (ls := #[sR b, sI 16]) (st := []) (wK K 142 rfl) Via.refl (hz.ext W1.ext) (by decide +kernel)
  refine oLift st2 ?_
  refine oIfF W2 (cd := .eq) (o := 18) (by decide +kernel) (XT.i0_eq_f hz0) (pc' := 10) rfl ?_
  refine oGo W2 [.aload_n 0, .iload_n 1] (by decide +kernel) (ls' := #[sR b, sI 16]) (st' := [(.int 16), (.ref b)]) rfl rfl (pc' := 12) rfl ?_
  obtain ⟨T3, h3, t, kt, W3, g3, E3, A3, S3, C3, st3⟩ := oNewA W2 (aty := .byte) (pc := 12) (ls := #[sR b, sI 16]) (st := [(.ref b)]) (wK K 27 rfl) (by decide +kernel) (n := Int32.ofNat 16) (n_nn (by omega)) (cap := 16) (by rw [n_cl (by omega)]; omega) (lb rfl) (lb rfl) (lb rfl)
  refine oLift st3 ?_
  rw [n_cl (by omega)] at A3
  have htb : t ≠ b := Nat.ne_of_gt (Nat.lt_of_lt_of_le X.lt g3)
  obtain ⟨T4, h4, W4, Wr4, F4, X4, C4, st4⟩ := oPutF W3 (idx := 15) (pc := 14) (ls := #[sR b, sI 16]) (st := []) (v := (.ref t)) (wK K 143 rfl) Via.refl (Fv.ext E3) (X.ext E3) (Or.inl (wK K 144 rfl)) (wK K 130 rfl) (ty := (.array .byte)) (by decide) rfl rfl hfr (Safe.exa W3.warm.alike (X.ext E3) (by decide) (by decide)) (by decide +kernel)
  refine oLift st4 ?_
  refine oGo W4 [.aload_n 0, .iconst 0] (by decide +kernel) (ls' := #[sR b, sI 16]) (st' := [(.int 0), (.ref b)]) rfl rfl (pc' := 19) rfl ?_
  obtain ⟨T5, h5, W5, Wr5, F5, X5, C5, st5⟩ := oPutF W4 (idx := 22) (pc := 19) (ls := #[sR b, sI 16]) (st := []) (v := (.int 0)) (wK K 145 rfl) Via.refl ((Fc.ext E3).other Wr4 (Or.inr (slot_ne (a0 := a0) (C := "java/lang/StringBuilder") (Or.inl (wK K 146 rfl)) (Or.inl (wK K 144 rfl)) (by decide) (t := .byte) (t' := (.array .byte)) (by decide) (by decide)))) X4 (Or.inl (wK K 146 rfl)) (wK K 130 rfl) (ty := .byte) (by decide) rfl rfl hfr (Safe.exa W4.warm.alike X4 (by decide) (by decide)) (by decide +kernel)
  refine oLift st5 ?_
  refine oGo W5 [.goto 16] (by decide +kernel) (ls' := #[sR b, sI 16]) (st' := []) rfl rfl (pc' := 38) rfl ?_
  exact oRet0 W5 (by decide +kernel) (lb rfl) (lb rfl) (fun vm' hv => ⟨rfl, t, kt, g3, ((((Keep.refl _ [b]).ext E3).wr Wr4 (Or.inl (List.mem_singleton.mpr rfl))).wr Wr5 (Or.inl (List.mem_singleton.mpr rfl))), ⟨X5, (F4.other Wr5 (Or.inr (slot_ne (a0 := a0) (C := "java/lang/StringBuilder") (Or.inl (wK K 144 rfl)) (Or.inl (wK K 146 rfl)) (by decide) (t := (.array .byte)) (t' := .byte) (by decide) (by decide)))), F5, (((Fn.ext E3).other Wr4 (Or.inr (slot_ne (a0 := a0) (C := "java/lang/StringBuilder") (Or.inl (wK K 161 rfl)) (Or.inl (wK K 144 rfl)) (by decide) (t := .int) (t' := (.array .byte)) (by decide) (by decide)))).other Wr5 (Or.inr (slot_ne (a0 := a0) (C := "java/lang/StringBuilder") (Or.inl (wK K 161 rfl)) (Or.inl (wK K 146 rfl)) (by decide) (t := .int) (t' := .byte) (by decide) (by decide)))), ((A3.other Wr4 htb).other Wr5 htb), Nat.le_trans W0.ext.1 g3, htb⟩, hv.safe ((A3.other Wr4 htb).other Wr5 htb).lt (C5.safe (A3.other Wr4 htb).lt (C4.safe A3.lt S3))⟩)
abbrev rm_c_sbi : Room := { frames := 2, cells := 1, slots := 16, locals := 25 }
set_option maxRecDepth 65536 in
set_option maxHeartbeats 40000000 in
theorem c_sbi {l : Launch} {Z : State} {a0 : Array Value} {nb : Bool} (K : Ctx Z a0) {b : Addr} {v0 v1 : Value} {h0 : Heap} (hfr : Z.heap.size ≤ b) (X : Exa Z h0 b "java/lang/StringBuilder") (Fv : Fld Z h0 b "java/lang/AbstractStringBuilder" "value" "[B" v0) (Fc : Fld Z h0 b "java/lang/AbstractStringBuilder" "coder" "B" v1) (Fn : Fld Z h0 b "java/lang/AbstractStringBuilder" "count" "I" (.int 0)) :
    OC l Z EL nb [] (⟨"java/lang/StringBuilder", "<init>", "()V"⟩ : MethodName) jdk_67_method_1_code 1 none rm_c_sbi #[(.ref b)] h0 [] (fun v vm h => v = none ∧ ∃ t kt, h0.size ≤ t ∧ Keep h0 h [b] ∧ SBd Z h b t kt (List.replicate 16 (.int 0)) 0 ∧ Safe Z EL vm h t) := by
  have hw := K.1
  have hS : ∀ a ∈ Bundle.stringAtoms, a.before a0 Z = true := K.2.2.1
  refine oEnter (by decide +kernel) K.2.1.2.1 ?_
  intro _p _e _s m _below _meth _c T0 W0 S0
  refine oEq (g' := mkF m 0 #[.val (.ref b)] []) (by first | (simp [entryFrame, mkF, argsToLocals, Value.category]; done) | rfl) ?_
  refine oGo W0 [.aload_n 0, .bipush 16] (by decide +kernel) (ls' := #[sR b]) (st' := [(.int 16), (.ref b)]) rfl rfl (pc' := 3) rfl ?_
  obtain ⟨v1, T1, L1, h1, vm1, W1, ⟨rfl, t, kt, g1, K1, B1, S1⟩, C1, st1⟩ := oCallN W0 (idx := 1) (pc := 3) (ls := #[sR b]) (st := []) (a := b) (argsL := [(.int 16)]) (c_asi K hfr X Fv Fc Fn) (fun x hx => nomatch hx) rfl (wK K 135 rfl) (wK K 136 rfl) (wK K 139 rfl) (wK K 140 rfl) (by decide) (na := 1) rfl (by decide +kernel) rfl (stk := [(.int 16), (.ref b)]) rfl (by decide +kernel) (V := 0) (lb rfl) (lb rfl) (lb rfl) (lb rfl) (lb rfl)
  refine oLift st1 ?_
  show OG _ _ _ _ _ _ _ _ _ _ _ (mkF m 6 #[sR b] [])
  exact oRet0 W1 (by decide +kernel) (lb rfl) (lb rfl) (fun vm' hv => ⟨rfl, t, kt, g1, K1, B1, hv.safe B1.2.2.2.2.1.lt S1⟩)
abbrev rm_c_eci : Room := { frames := 0, cells := 0, slots := 0, locals := 0 }
set_option maxRecDepth 65536 in
set_option maxHeartbeats 40000000 in
theorem c_eci {l : Launch} {Z : State} {a0 : Array Value} {nb : Bool} (K : Ctx Z a0) {b t : Addr} {kt : ClassId} {vs : List Value} {n : Nat} {h0 : Heap} (hB : SBd Z h0 b t kt vs n) (hv16 : vs.length = 16) {q : Nat} (hq : q ≤ 16) :
    OC l Z EL nb [] (⟨"java/lang/AbstractStringBuilder", "ensureCapacityInternal", "(I)V"⟩ : MethodName) jdk_68_method_9_code 3 none rm_c_eci #[(.ref b), (.int (Int32.ofNat q))] h0 [] (fun v _ h => v = none ∧ h = h0) := by
  have hw := K.1
  have hS : ∀ a ∈ Bundle.stringAtoms, a.before a0 Z = true := K.2.2.1
  obtain ⟨X, Fv, Fc, Fn, At, hzt, htb⟩ := id hB
  refine oEnter (by decide +kernel) K.2.1.2.1 ?_
  intro _p _e _s m _below _meth _c T0 W0 S0
  refine oEq (g' := mkF m 0 #[.val (.ref b), .val (.int (Int32.ofNat q)), .unset] []) (by first | (simp [entryFrame, mkF, argsToLocals, Value.category]; done) | rfl) ?_
  refine oGo W0 [.aload_n 0] (by decide +kernel) (ls' := #[sR b, sI (Int32.ofNat q), sU]) (st' := [(.ref b)]) rfl rfl (pc' := 1) rfl ?_
  obtain ⟨T1, W1, st1⟩ := oGetF W0 (pc := 1) (ls := #[sR b, sI (Int32.ofNat q), sU]) (st := []) (wK K 143 rfl) Via.refl Fv (by decide +kernel)
  refine oLift st1 ?_
  refine oLen W1 At (by decide +kernel) ?_
  rw [hv16]
  refine oGo W1 [.aload_n 0] (by decide +kernel) (ls' := #[sR b, sI (Int32.ofNat q), sU]) (st' := [(.ref b), (.int (Int32.ofNat 16))]) rfl rfl (pc' := 6) rfl ?_
  obtain ⟨T2, W2, st2⟩ := oGetF W1 (pc := 6) (ls := #[sR b, sI (Int32.ofNat q), sU]) (st := [(.int (Int32.ofNat 16))]) (wK K 145 rfl) Via.refl Fc (by decide +kernel)
  refine oLift st2 ?_
  refine oGo W2 [.ishr, .istore_n 2, .iload_n 1, .iload_n 2, .isub] (by decide +kernel) (ls' := #[sR b, sI (Int32.ofNat q), sI ((Int32.ofNat 16) >>> ((0 : Int32) &&& 31))]) (st' := [(.int ((Int32.ofNat q) - ((Int32.ofNat 16) >>> ((0 : Int32) &&& 31))))]) rfl rfl (pc' := 14) rfl ?_
  rw [shr0]
  refine oIfT W2 (cd := .le) (o := 24) (by decide +kernel) (XT.i0_le_t (sub_le0 hq (by omega))) (pc' := 38) (by decide) (by decide) ?_
  exact oRet0 W2 (by decide +kernel) (lb rfl) (lb rfl) (fun vm' hv => ⟨rfl, rfl⟩)
abbrev rm_c_inf : Room := { frames := 1, cells := 0, slots := 0, locals := 13 }
set_option maxRecDepth 65536 in
set_option maxHeartbeats 40000000 in
theorem c_inf {l : Launch} {Z : State} {a0 : Array Value} {nb : Bool} (K : Ctx Z a0) {b t : Addr} {kt : ClassId} {vs : List Value} {n : Nat} {h0 : Heap} (hB : SBd Z h0 b t kt vs n) (hv16 : vs.length = 16) {x : Addr} {cs : List Int32} (F : Str Z h0 x cs) :
    OC l Z EL nb [] (⟨"java/lang/AbstractStringBuilder", "inflateIfNeededFor", "(Ljava/lang/String;)V"⟩ : MethodName) jdk_68_method_71_code 2 none rm_c_inf #[(.ref b), (.ref x)] h0 [] (fun v _ h => v = none ∧ h = h0) := by
  have hw := K.1
  have hS : ∀ a ∈ Bundle.stringAtoms, a.before a0 Z = true := K.2.2.1
  obtain ⟨z, hz, hz0⟩ := K.2.1.2.2
  obtain ⟨X, Fv, Fc, Fn, At, hzt, htb⟩ := id hB
  obtain ⟨u, ku, Xx, Fxc, Fxv, Ax, Px⟩ := id F
  refine oEnter (by decide +kernel) K.2.1.2.1 ?_
  intro _p _e _s m _below _meth _c T0 W0 S0
  refine oEq (g' := mkF m 0 #[.val (.ref b), .val (.ref x)] []) (by first | (simp [entryFrame, mkF, argsToLocals, Value.category]; done) | rfl) ?_
  obtain ⟨T1, W1, st1⟩ := oGetS W0 (pc := 0) (ls := #[sR b, sR x]) (st := []) (wK K 142 rfl) Via.refl (hz.ext W0.ext) (by decide +kernel)
  refine oLift st1 ?_
  refine oIfF W1 (cd := .eq) (o := 18) (by decide +kernel) (XT.i0_eq_f hz0) (pc' := 6) rfl ?_
  refine oGo W1 [.aload_n 0] (by decide +kernel) (ls' := #[sR b, sR x]) (st' := [(.ref b)]) rfl rfl (pc' := 7) rfl ?_
  obtain ⟨T2, W2, st2⟩ := oGetF W1 (pc := 7) (ls := #[sR b, sR x]) (st := []) (wK K 145 rfl) Via.refl Fc (by decide +kernel)
  refine oLift st2 ?_
  refine oGo W2 [.aload_n 1] (by decide +kernel) (ls' := #[sR b, sR x]) (st' := [(.ref x), (.int 0)]) rfl rfl (pc' := 11) rfl ?_
  obtain ⟨v3, T3, L3, h3, vm3, W3, ⟨rfl, e3⟩, C3, st3⟩ := oCallV W2 (idx := 40) (pc := 11) (ls := #[sR b, sR x]) (st := [(.int 0)]) (argsL := []) Xx (c_coder K rfl Fxc) (fun x hx => nomatch hx) (wK K 177 rfl) (wK K 74 rfl) (notFace_of_selects (args := #[]) (mvT W2.warm (wK K 76 rfl))) (wK K 76 rfl) (wK K 75 rfl) (wK K 10 rfl) (wK K 77 rfl) (by decide) (na := 0) rfl (by decide +kernel) rfl (stk := [(.ref x), (.int 0)]) rfl (by decide +kernel) (V := 1) (lb rfl) (lb rfl) (lb rfl) (lb rfl) (lb rfl)
  refine oLift st3 ?_
  rw [e3] at W3 C3
  show OG _ _ _ _ _ _ _ _ _ _ _ (mkF m 14 #[sR b, sR x] [(.int 0), (.int 0)])
  refine oIcT W3 (cd := .eq) (o := 7) (by decide +kernel) (XT.ii_eq_t (by decide)) (pc' := 21) (by decide) (by decide) ?_
  exact oRet0 W3 (by decide +kernel) (lb rfl) (lb rfl) (fun vm' hv => ⟨rfl, rfl⟩)
abbrev rm_c_gby : Room := { frames := 1, cells := 0, slots := 0, locals := 40 }
set_option maxRecDepth 65536 in
set_option maxHeartbeats 40000000 in
theorem c_gby {l : Launch} {Z : State} {a0 : Array Value} {nb : Bool} (K : Ctx Z a0) {b t : Addr} {kt : ClassId} {vs : List Value} {n : Nat} {h0 : Heap} (hB : SBd Z h0 b t kt vs n) (hv16 : vs.length = 16) {x : Addr} {cs : List Int32} (F : Str Z h0 x cs) (hn : n + cs.length ≤ 16) :
    OC l Z EL nb [] (⟨"java/lang/String", "getBytes", "([BIB)V"⟩ : MethodName) jdk_42_method_147_code 4 none rm_c_gby #[(.ref x), (.ref t), (.int (Int32.ofNat n)), (.int 0)] h0 [t] (fun v vm h => v = none ∧ Keep h0 h [t] ∧ OA Z h t kt .byte (cpy vs (byt cs) 0 n cs.length) ∧ Safe Z EL vm h t) := by
  have hw := K.1
  have hS : ∀ a ∈ Bundle.stringAtoms, a.before a0 Z = true := K.2.2.1
  obtain ⟨X, Fv, Fc, Fn, At, hzt, htb⟩ := id hB
  obtain ⟨u, ku, Xx, Fxc, Fxv, Ax, Px⟩ := id F
  refine oEnter (by decide +kernel) K.2.1.2.1 ?_
  intro _p _e _s m _below _meth _c T0 W0 S0
  refine oEq (g' := mkF m 0 #[.val (.ref x), .val (.ref t), .val (.int (Int32.ofNat n)), .val (.int 0)] []) (by first | (simp [entryFrame, mkF, argsToLocals, Value.category]; done) | rfl) ?_
  refine oGo W0 [.aload_n 0] (by decide +kernel) (ls' := #[sR x, sR t, sI (Int32.ofNat n), sI 0]) (st' := [(.ref x)]) rfl rfl (pc' := 1) rfl ?_
  obtain ⟨v1, T1, L1, h1, vm1, W1, ⟨rfl, e1⟩, C1, st1⟩ := oCallV W0 (idx := 335) (pc := 1) (ls := #[sR x, sR t, sI (Int32.ofNat n), sI 0]) (st := []) (argsL := []) Xx (c_coder K rfl Fxc) (fun x hx => nomatch hx) (wK K 73 rfl) (wK K 74 rfl) (notFace_of_selects (args := #[]) (mvT W0.warm (wK K 76 rfl))) (wK K 76 rfl) (wK K 75 rfl) (wK K 10 rfl) (wK K 77 rfl) (by decide) (na := 0) rfl (by decide +kernel) rfl (stk := [(.ref x)]) rfl (by decide +kernel) (V := 0) (lb rfl) (lb rfl) (lb rfl) (lb rfl) (lb rfl)
  refine oLift st1 ?_
  rw [e1] at W1 C1
  show OG _ _ _ _ _ _ _ _ _ _ _ (mkF m 4 #[sR x, sR t, sI (Int32.ofNat n), sI 0] [(.int 0)])
  refine oGo W1 [.iload_n 3] (by decide +kernel) (ls' := #[sR x, sR t, sI (Int32.ofNat n), sI 0]) (st' := [(.int 0), (.int 0)]) rfl rfl (pc' := 5) rfl ?_
  refine oIcF W1 (cd := .ne) (o := 23) (by decide +kernel) (XT.ii_ne_f (by decide)) (pc' := 8) rfl ?_
  refine oGo W1 [.aload_n 0] (by decide +kernel) (ls' := #[sR x, sR t, sI (Int32.ofNat n), sI 0]) (st' := [(.ref x)]) rfl rfl (pc' := 9) rfl ?_
  obtain ⟨T2, W2, st2⟩ := oGetF W1 (pc := 9) (ls := #[sR x, sR t, sI (Int32.ofNat n), sI 0]) (st := []) (wK K 36 rfl) Via.refl Fxv (by decide +kernel)
  refine oLift st2 ?_
  refine oGo W2 [.iconst 0, .aload_n 1, .iload_n 2, .iload_n 3, .ishl, .aload_n 0] (by decide +kernel) (ls' := #[sR x, sR t, sI (Int32.ofNat n), sI 0]) (st' := [(.ref x), (.int ((Int32.ofNat n) <<< ((0 : Int32) &&& 31))), (.ref t), (.int 0), (.ref u)]) rfl rfl (pc' := 18) rfl ?_
  rw [shl0]
  obtain ⟨T3, W3, st3⟩ := oGetF W2 (pc := 18) (ls := #[sR x, sR t, sI (Int32.ofNat n), sI 0]) (st := [(.int (Int32.ofNat n)), (.ref t), (.int 0), (.ref u)]) (wK K 36 rfl) Via.refl Fxv (by decide +kernel)
  refine oLift st3 ?_
  refine oLen W3 Ax (by decide +kernel) ?_
  rw [List.length_map]
  obtain ⟨T4, h4, W4, K4, A4, C4, st4⟩ := oCopy W3 (idx := 212) (pc := 22) (ls := #[sR x, sR t, sI (Int32.ofNat n), sI 0]) (st := []) Ax At (o := 0) (q := n) (n := cs.length) (by rw [List.length_map]; omega) (by omega) hzt (C1.safe At.lt (S0 t (List.mem_singleton.mpr rfl))) (wK K 183 rfl) (wK K 186 rfl) (wK K 184 rfl) (wK K 185 rfl) rfl (by decide +kernel) (V := 0) (lb rfl) (lb rfl) (lb rfl)
  refine oLift st4 ?_
  refine oGo W4 [.goto 18] (by decide +kernel) (ls' := #[sR x, sR t, sI (Int32.ofNat n), sI 0]) (st' := []) rfl rfl (pc' := 43) rfl ?_
  exact oRet0 W4 (by decide +kernel) (lb rfl) (lb rfl) (fun vm' hv => ⟨rfl, K4, A4, hv.safe A4.lt (C4.safe At.lt (C1.safe At.lt (S0 t (List.mem_singleton.mpr rfl))))⟩)
abbrev rm_c_psa : Room := { frames := 2, cells := 0, slots := 0, locals := 55 }
set_option maxRecDepth 65536 in
set_option maxHeartbeats 40000000 in
theorem c_psa {l : Launch} {Z : State} {a0 : Array Value} {nb : Bool} (K : Ctx Z a0) {b t : Addr} {kt : ClassId} {vs : List Value} {n : Nat} {h0 : Heap} (hB : SBd Z h0 b t kt vs n) (hv16 : vs.length = 16) {x : Addr} {cs : List Int32} (F : Str Z h0 x cs) (hn : n + cs.length ≤ 16) :
    OC l Z EL nb [] (⟨"java/lang/AbstractStringBuilder", "putStringAt", "(ILjava/lang/String;)V"⟩ : MethodName) jdk_68_method_73_code 3 none rm_c_psa #[(.ref b), (.int (Int32.ofNat n)), (.ref x)] h0 [t] (fun v vm h => v = none ∧ Keep h0 h [t] ∧ OA Z h t kt .byte (cpy vs (byt cs) 0 n cs.length) ∧ Safe Z EL vm h t) := by
  have hw := K.1
  have hS : ∀ a ∈ Bundle.stringAtoms, a.before a0 Z = true := K.2.2.1
  obtain ⟨X, Fv, Fc, Fn, At, hzt, htb⟩ := id hB
  obtain ⟨u, ku, Xx, Fxc, Fxv, Ax, Px⟩ := id F
  refine oEnter (by decide +kernel) K.2.1.2.1 ?_
  intro _p _e _s m _below _meth _c T0 W0 S0
  refine oEq (g' := mkF m 0 #[.val (.ref b), .val (.int (Int32.ofNat n)), .val (.ref x)] []) (by first | (simp [entryFrame, mkF, argsToLocals, Value.category]; done) | rfl) ?_
  refine oGo W0 [.aload_n 0, .aload_n 2] (by decide +kernel) (ls' := #[sR b, sI (Int32.ofNat n), sR x]) (st' := [(.ref x), (.ref b)]) rfl rfl (pc' := 2) rfl ?_
  obtain ⟨v1, T1, L1, h1, vm1, W1, ⟨rfl, e1⟩, C1, st1⟩ := oCallV W0 (idx := 397) (pc := 2) (ls := #[sR b, sI (Int32.ofNat n), sR x]) (st := []) (argsL := [(.ref x)]) X (c_inf K hB hv16 F) (fun x hx => nomatch hx) (wK K 172 rfl) (own_decl (wK K 173 rfl) (wK K 176 rfl)) (notFace_of_selects (args := #[]) (mvT W0.warm (wK K 175 rfl))) (wK K 175 rfl) (wK K 173 rfl) (wK K 139 rfl) (wK K 176 rfl) (by decide) (na := 1) rfl (by decide +kernel) rfl (stk := [(.ref x), (.ref b)]) rfl (by decide +kernel) (V := 0) (lb rfl) (lb rfl) (lb rfl) (lb rfl) (lb rfl)
  refine oLift st1 ?_
  rw [e1] at W1 C1
  show OG _ _ _ _ _ _ _ _ _ _ _ (mkF m 5 #[sR b, sI (Int32.ofNat n), sR x] [])
  refine oGo W1 [.aload_n 2, .aload_n 0] (by decide +kernel) (ls' := #[sR b, sI (Int32.ofNat n), sR x]) (st' := [(.ref b), (.ref x)]) rfl rfl (pc' := 7) rfl ?_
  obtain ⟨T2, W2, st2⟩ := oGetF W1 (pc := 7) (ls := #[sR b, sI (Int32.ofNat n), sR x]) (st := [(.ref x)]) (wK K 143 rfl) Via.refl Fv (by decide +kernel)
  refine oLift st2 ?_
  refine oGo W2 [.iload_n 1, .aload_n 0] (by decide +kernel) (ls' := #[sR b, sI (Int32.ofNat n), sR x]) (st' := [(.ref b), (.int (Int32.ofNat n)), (.ref t), (.ref x)]) rfl rfl (pc' := 12) rfl ?_
  obtain ⟨T3, W3, st3⟩ := oGetF W2 (pc := 12) (ls := #[sR b, sI (Int32.ofNat n), sR x]) (st := [(.int (Int32.ofNat n)), (.ref t), (.ref x)]) (wK K 145 rfl) Via.refl Fc (by decide +kernel)
  refine oLift st3 ?_
  obtain ⟨v4, T4, L4, h4, vm4, W4, ⟨rfl, K4, A4, S4⟩, C4, st4⟩ := oCallV W3 (idx := 399) (pc := 15) (ls := #[sR b, sI (Int32.ofNat n), sR x]) (st := []) (argsL := [(.ref t), (.int (Int32.ofNat n)), (.int 0)]) Xx (c_gby K hB hv16 F hn) (fun y hy => by cases List.mem_singleton.mp hy; exact ⟨At.lt, (C1.safe At.lt (S0 t (List.mem_singleton.mpr rfl)))⟩) (wK K 178 rfl) (wK K 179 rfl) (notFace_of_selects (args := #[]) (mvT W3.warm (wK K 181 rfl))) (wK K 181 rfl) (wK K 180 rfl) (wK K 10 rfl) (wK K 182 rfl) (by decide) (na := 3) rfl (by decide +kernel) rfl (stk := [(.int 0), (.int (Int32.ofNat n)), (.ref t), (.ref x)]) rfl (by decide +kernel) (V := 0) (lb rfl) (lb rfl) (lb rfl) (lb rfl) (lb rfl)
  refine oLift st4 ?_
  show OG _ _ _ _ _ _ _ _ _ _ _ (mkF m 18 #[sR b, sI (Int32.ofNat n), sR x] [])
  exact oRet0 W4 (by decide +kernel) (lb rfl) (lb rfl) (fun vm' hv => ⟨rfl, K4, A4, hv.safe A4.lt S4⟩)
abbrev rm_c_aap : Room := { frames := 3, cells := 0, slots := 0, locals := 69 }
set_option maxRecDepth 65536 in
set_option maxHeartbeats 40000000 in
theorem c_aap {l : Launch} {Z : State} {a0 : Array Value} {nb : Bool} (K : Ctx Z a0) {b t : Addr} {kt : ClassId} {vs : List Value} {n : Nat} {h0 : Heap} (hB : SBd Z h0 b t kt vs n) (hv16 : vs.length = 16) {x : Addr} {cs : List Int32} (F : Str Z h0 x cs) (hn : n + cs.length ≤ 16) (hfr : Z.heap.size ≤ b) :
    OC l Z EL nb [] (⟨"java/lang/AbstractStringBuilder", "append", "(Ljava/lang/String;)Ljava/lang/AbstractStringBuilder;"⟩ : MethodName) jdk_68_method_22_code 3 (some (.object "java/lang/AbstractStringBuilder")) rm_c_aap #[(.ref b), (.ref x)] h0 [t] (fun v vm h => v = some (.ref b) ∧ Keep h0 h [b, t] ∧ SBd Z h b t kt (cpy vs (byt cs) 0 n cs.length) (n + cs.length) ∧ Safe Z EL vm h t) := by
  have hw := K.1
  have hS : ∀ a ∈ Bundle.stringAtoms, a.before a0 Z = true := K.2.2.1
  obtain ⟨X, Fv, Fc, Fn, At, hzt, htb⟩ := id hB
  obtain ⟨u, ku, Xx, Fxc, Fxv, Ax, Px⟩ := id F
  refine oEnter (by decide +kernel) K.2.1.2.1 ?_
  intro _p _e _s m _below _meth _c T0 W0 S0
  refine oEq (g' := mkF m 0 #[.val (.ref b), .val (.ref x), .unset] []) (by first | (simp [entryFrame, mkF, argsToLocals, Value.category]; done) | rfl) ?_
  refine oGo W0 [.aload_n 1] (by decide +kernel) (ls' := #[sR b, sR x, sU]) (st' := [(.ref x)]) rfl rfl (pc' := 1) rfl ?_
  refine oNnT W0 (o := 8) (by decide +kernel) (pc' := 9) (by decide) (by decide) ?_
  refine oGo W0 [.aload_n 1] (by decide +kernel) (ls' := #[sR b, sR x, sU]) (st' := [(.ref x)]) rfl rfl (pc' := 10) rfl ?_
  obtain ⟨v1, T1, L1, h1, vm1, W1, ⟨rfl, e1⟩, C1, st1⟩ := oCallV W0 (idx := 32) (pc := 10) (ls := #[sR b, sR x, sU]) (st := []) (argsL := []) Xx (c_len K F) (fun x hx => nomatch hx) (wK K 159 rfl) (wK K 69 rfl) (notFace_of_selects (args := #[]) (mvT W0.warm (wK K 71 rfl))) (wK K 71 rfl) (wK K 70 rfl) (wK K 10 rfl) (wK K 72 rfl) (by decide) (na := 0) rfl (by decide +kernel) rfl (stk := [(.ref x)]) rfl (by decide +kernel) (V := 0) (lb rfl) (lb rfl) (lb rfl) (lb rfl) (lb rfl)
  refine oLift st1 ?_
  rw [e1] at W1 C1
  show OG _ _ _ _ _ _ _ _ _ _ _ (mkF m 13 #[sR b, sR x, sU] [(.int (Int32.ofNat cs.length))])
  refine oGo W1 [.istore_n 2, .aload_n 0, .aload_n 0] (by decide +kernel) (ls' := #[sR b, sR x, sI (Int32.ofNat cs.length)]) (st' := [(.ref b), (.ref b)]) rfl rfl (pc' := 16) rfl ?_
  obtain ⟨T2, W2, st2⟩ := oGetF W1 (pc := 16) (ls := #[sR b, sR x, sI (Int32.ofNat cs.length)]) (st := [(.ref b)]) (wK K 160 rfl) Via.refl Fn (by decide +kernel)
  refine oLift st2 ?_
  refine oGo W2 [.iload_n 2, .iadd] (by decide +kernel) (ls' := #[sR b, sR x, sI (Int32.ofNat cs.length)]) (st' := [(.int ((Int32.ofNat n) + (Int32.ofNat cs.length))), (.ref b)]) rfl rfl (pc' := 21) rfl ?_
  rw [add_n]
  obtain ⟨v3, T3, L3, h3, vm3, W3, ⟨rfl, e3⟩, C3, st3⟩ := oCallV W2 (idx := 100) (pc := 21) (ls := #[sR b, sR x, sI (Int32.ofNat cs.length)]) (st := []) (argsL := [(.int (Int32.ofNat (n + cs.length)))]) X (c_eci K hB hv16 hn) (fun x hx => nomatch hx) (wK K 162 rfl) (own_decl (wK K 163 rfl) (wK K 166 rfl)) (notFace_of_selects (args := #[]) (mvT W2.warm (wK K 165 rfl))) (wK K 165 rfl) (wK K 163 rfl) (wK K 139 rfl) (wK K 166 rfl) (by decide) (na := 1) rfl (by decide +kernel) rfl (stk := [(.int (Int32.ofNat (n + cs.length))), (.ref b)]) rfl (by decide +kernel) (V := 0) (lb rfl) (lb rfl) (lb rfl) (lb rfl) (lb rfl)
  refine oLift st3 ?_
  rw [e3] at W3 C3
  show OG _ _ _ _ _ _ _ _ _ _ _ (mkF m 24 #[sR b, sR x, sI (Int32.ofNat cs.length)] [])
  refine oGo W3 [.aload_n 0, .aload_n 0] (by decide +kernel) (ls' := #[sR b, sR x, sI (Int32.ofNat cs.length)]) (st' := [(.ref b), (.ref b)]) rfl rfl (pc' := 26) rfl ?_
  obtain ⟨T4, W4, st4⟩ := oGetF W3 (pc := 26) (ls := #[sR b, sR x, sI (Int32.ofNat cs.length)]) (st := [(.ref b)]) (wK K 160 rfl) Via.refl Fn (by decide +kernel)
  refine oLift st4 ?_
  refine oGo W4 [.aload_n 1] (by decide +kernel) (ls' := #[sR b, sR x, sI (Int32.ofNat cs.length)]) (st' := [(.ref x), (.int (Int32.ofNat n)), (.ref b)]) rfl rfl (pc' := 30) rfl ?_
  obtain ⟨v5, T5, L5, h5, vm5, W5, ⟨rfl, K5, A5, S5⟩, C5, st5⟩ := oCallV W4 (idx := 208) (pc := 30) (ls := #[sR b, sR x, sI (Int32.ofNat cs.length)]) (st := []) (argsL := [(.int (Int32.ofNat n)), (.ref x)]) X (c_psa K hB hv16 F hn) (fun y hy => by cases List.mem_singleton.mp hy; exact ⟨At.lt, (C3.safe At.lt (C1.safe At.lt (S0 t (List.mem_singleton.mpr rfl))))⟩) (wK K 167 rfl) (own_decl (wK K 168 rfl) (wK K 171 rfl)) (notFace_of_selects (args := #[]) (mvT W4.warm (wK K 170 rfl))) (wK K 170 rfl) (wK K 168 rfl) (wK K 139 rfl) (wK K 171 rfl) (by decide) (na := 2) rfl (by decide +kernel) rfl (stk := [(.ref x), (.int (Int32.ofNat n)), (.ref b)]) rfl (by decide +kernel) (V := 0) (lb rfl) (lb rfl) (lb rfl) (lb rfl) (lb rfl)
  refine oLift st5 ?_
  show OG _ _ _ _ _ _ _ _ _ _ _ (mkF m 33 #[sR b, sR x, sI (Int32.ofNat cs.length)] [])
  refine oGo W5 [.aload_n 0, .dup] (by decide +kernel) (ls' := #[sR b, sR x, sI (Int32.ofNat cs.length)]) (st' := [(.ref b), (.ref b)]) rfl rfl (pc' := 35) rfl ?_
  obtain ⟨T6, W6, st6⟩ := oGetF W5 (pc := 35) (ls := #[sR b, sR x, sI (Int32.ofNat cs.length)]) (st := [(.ref b)]) (wK K 160 rfl) Via.refl (Fn.keep K5 (ninS (Ne.symm htb) nin0)) (by decide +kernel)
  refine oLift st6 ?_
  refine oGo W6 [.iload_n 2, .iadd] (by decide +kernel) (ls' := #[sR b, sR x, sI (Int32.ofNat cs.length)]) (st' := [(.int ((Int32.ofNat n) + (Int32.ofNat cs.length))), (.ref b)]) rfl rfl (pc' := 40) rfl ?_
  rw [add_n]
  obtain ⟨T7, h7, W7, Wr7, F7, X7, C7, st7⟩ := oPutF W6 (idx := 79) (pc := 40) (ls := #[sR b, sR x, sI (Int32.ofNat cs.length)]) (st := []) (v := (.int (Int32.ofNat (n + cs.length)))) (wK K 160 rfl) Via.refl (Fn.keep K5 (ninS (Ne.symm htb) nin0)) (X.keep K5) (Or.inl (wK K 161 rfl)) (wK K 130 rfl) (ty := .int) (by decide) rfl rfl hfr (Safe.exa W6.warm.alike (X.keep K5) (by decide) (by decide)) (by decide +kernel)
  refine oLift st7 ?_
  refine oGo W7 [.aload_n 0] (by decide +kernel) (ls' := #[sR b, sR x, sI (Int32.ofNat cs.length)]) (st' := [(.ref b)]) rfl rfl (pc' := 44) rfl ?_
  exact oRetA rfl W7 rfl rfl (by decide +kernel) (lb rfl) (lb rfl) (fun vm' hv => ⟨rfl, (((Keep.refl _ [b, t]).trans K5 (fun y hy => Or.inl (List.mem_cons_of_mem _ hy))).wr Wr7 (Or.inl (List.mem_cons_self ..))), ⟨X7, ((Fv.keep K5 (ninS (Ne.symm htb) nin0)).other Wr7 (Or.inr (slot_ne (a0 := a0) (C := "java/lang/StringBuilder") (Or.inl (wK K 144 rfl)) (Or.inl (wK K 161 rfl)) (by decide) (t := (.array .byte)) (t' := .int) (by decide) (by decide)))), ((Fc.keep K5 (ninS (Ne.symm htb) nin0)).other Wr7 (Or.inr (slot_ne (a0 := a0) (C := "java/lang/StringBuilder") (Or.inl (wK K 146 rfl)) (Or.inl (wK K 161 rfl)) (by decide) (t := .byte) (t' := .int) (by decide) (by decide)))), F7, (A5.other Wr7 htb), hzt, htb⟩, hv.safe (A5.other Wr7 htb).lt (C7.safe A5.lt S5)⟩)
abbrev rm_c_sap : Room := { frames := 4, cells := 0, slots := 0, locals := 83 }
set_option maxRecDepth 65536 in
set_option maxHeartbeats 40000000 in
theorem c_sap {l : Launch} {Z : State} {a0 : Array Value} {nb : Bool} (K : Ctx Z a0) {b t : Addr} {kt : ClassId} {vs : List Value} {n : Nat} {h0 : Heap} (hB : SBd Z h0 b t kt vs n) (hv16 : vs.length = 16) {x : Addr} {cs : List Int32} (F : Str Z h0 x cs) (hn : n + cs.length ≤ 16) (hfr : Z.heap.size ≤ b) :
    OC l Z EL nb [] (⟨"java/lang/StringBuilder", "append", "(Ljava/lang/String;)Ljava/lang/StringBuilder;"⟩ : MethodName) jdk_67_method_7_code 2 (some (.object "java/lang/StringBuilder")) rm_c_sap #[(.ref b), (.ref x)] h0 [t] (fun v vm h => v = some (.ref b) ∧ Keep h0 h [b, t] ∧ SBd Z h b t kt (cpy vs (byt cs) 0 n cs.length) (n + cs.length) ∧ Safe Z EL vm h t) := by
  have hw := K.1
  have hS : ∀ a ∈ Bundle.stringAtoms, a.before a0 Z = true := K.2.2.1
  obtain ⟨X, Fv, Fc, Fn, At, hzt, htb⟩ := id hB
  refine oEnter (by decide +kernel) K.2.1.2.1 ?_
  intro _p _e _s m _below _meth _c T0 W0 S0
  refine oEq (g' := mkF m 0 #[.val (.ref b), .val (.ref x)] []) (by first | (simp [entryFrame, mkF, argsToLocals, Value.category]; done) | rfl) ?_
  refine oGo W0 [.aload_n 0, .aload_n 1] (by decide +kernel) (ls' := #[sR b, sR x]) (st' := [(.ref x), (.ref b)]) rfl rfl (pc' := 2) rfl ?_
  obtain ⟨v1, T1, L1, h1, vm1, W1, ⟨rfl, K1, B1, S1⟩, C1, st1⟩ := oCallU W0 (idx := 29) (pc := 2) (ls := #[sR b, sR x]) (st := []) (argsL := [(.ref x)]) (Ins.self X) (c_aap K hB hv16 F hn hfr) (fun y hy => by cases List.mem_singleton.mp hy; exact ⟨At.lt, S0 t (List.mem_singleton.mpr rfl)⟩) (wK K 154 rfl) (own_same (by decide) (wK K 157 rfl) (own_class (z := (⟨"java/lang/AbstractStringBuilder", "getValue", "()[B"⟩ : MethodName)) (wK K 207 rfl))) (wK K 155 rfl) (wK K 156 rfl) (by decide) (wK K 139 rfl) (wK K 158 rfl) (na := 1) rfl (by decide +kernel) rfl (stk := [(.ref x), (.ref b)]) rfl (by decide +kernel) (V := 0) (lb rfl) (lb rfl) (lb rfl) (lb rfl) (lb rfl)
  refine oLift st1 ?_
  show OG _ _ _ _ _ _ _ _ _ _ _ (mkF m 5 #[sR b, sR x] [(.ref b)])
  refine oGo W1 [.pop, .aload_n 0] (by decide +kernel) (ls' := #[sR b, sR x]) (st' := [(.ref b)]) rfl rfl (pc' := 7) rfl ?_
  exact oRetA rfl W1 rfl rfl (by decide +kernel) (lb rfl) (lb rfl) (fun vm' hv => ⟨rfl, K1, B1, hv.safe B1.2.2.2.2.1.lt S1⟩)
abbrev rm_c_gv : Room := { frames := 0, cells := 0, slots := 0, locals := 0 }
set_option maxRecDepth 65536 in
set_option maxHeartbeats 40000000 in
theorem c_gv {l : Launch} {Z : State} {a0 : Array Value} {nb : Bool} (K : Ctx Z a0) {b t : Addr} {kt : ClassId} {vs : List Value} {n : Nat} {h0 : Heap} (hB : SBd Z h0 b t kt vs n) :
    OC l Z EL nb [] (⟨"java/lang/AbstractStringBuilder", "getValue", "()[B"⟩ : MethodName) jdk_68_method_64_code 1 (some (.array .byte)) rm_c_gv #[(.ref b)] h0 [] (fun v _ h => v = some (.ref t) ∧ h = h0) := by
  have hw := K.1
  have hS : ∀ a ∈ Bundle.stringAtoms, a.before a0 Z = true := K.2.2.1
  obtain ⟨X, Fv, Fc, Fn, At, hzt, htb⟩ := id hB
  refine oEnter (by decide +kernel) K.2.1.2.1 ?_
  intro _p _e _s m _below _meth _c T0 W0 S0
  refine oEq (g' := mkF m 0 #[.val (.ref b)] []) (by first | (simp [entryFrame, mkF, argsToLocals, Value.category]; done) | rfl) ?_
  refine oGo W0 [.aload_n 0] (by decide +kernel) (ls' := #[sR b]) (st' := [(.ref b)]) rfl rfl (pc' := 1) rfl ?_
  obtain ⟨T1, W1, st1⟩ := oGetF W0 (pc := 1) (ls := #[sR b]) (st := []) (wK K 143 rfl) Via.refl Fv (by decide +kernel)
  refine oLift st1 ?_
  exact oRetA rfl W1 rfl rfl (by decide +kernel) (lb rfl) (lb rfl) (fun vm' hv => ⟨rfl, rfl⟩)
abbrev rm_c_asl : Room := { frames := 0, cells := 0, slots := 0, locals := 0 }
set_option maxRecDepth 65536 in
set_option maxHeartbeats 40000000 in
theorem c_asl {l : Launch} {Z : State} {a0 : Array Value} {nb : Bool} (K : Ctx Z a0) {b t : Addr} {kt : ClassId} {vs : List Value} {n : Nat} {h0 : Heap} (hB : SBd Z h0 b t kt vs n) :
    OC l Z EL nb [] (⟨"java/lang/AbstractStringBuilder", "length", "()I"⟩ : MethodName) jdk_68_method_6_code 1 (some .int) rm_c_asl #[(.ref b)] h0 [] (fun v _ h => v = some (.int (Int32.ofNat n)) ∧ h = h0) := by
  have hw := K.1
  have hS : ∀ a ∈ Bundle.stringAtoms, a.before a0 Z = true := K.2.2.1
  obtain ⟨X, Fv, Fc, Fn, At, hzt, htb⟩ := id hB
  refine oEnter (by decide +kernel) K.2.1.2.1 ?_
  intro _p _e _s m _below _meth _c T0 W0 S0
  refine oEq (g' := mkF m 0 #[.val (.ref b)] []) (by first | (simp [entryFrame, mkF, argsToLocals, Value.category]; done) | rfl) ?_
  refine oGo W0 [.aload_n 0] (by decide +kernel) (ls' := #[sR b]) (st' := [(.ref b)]) rfl rfl (pc' := 1) rfl ?_
  obtain ⟨T1, W1, st1⟩ := oGetF W0 (pc := 1) (ls := #[sR b]) (st := []) (wK K 160 rfl) Via.refl Fn (by decide +kernel)
  refine oLift st1 ?_
  exact oRetI W1 (by decide +kernel) (lb rfl) (lb rfl) (fun vm' hv => ⟨rfl, rfl⟩)
abbrev rm_c_sbl : Room := { frames := 1, cells := 0, slots := 0, locals := 12 }
set_option maxRecDepth 65536 in
set_option maxHeartbeats 40000000 in
theorem c_sbl {l : Launch} {Z : State} {a0 : Array Value} {nb : Bool} (K : Ctx Z a0) {b t : Addr} {kt : ClassId} {vs : List Value} {n : Nat} {h0 : Heap} (hB : SBd Z h0 b t kt vs n) :
    OC l Z EL nb [] (⟨"java/lang/StringBuilder", "length", "()I"⟩ : MethodName) jdk_67_method_93_code 1 (some .int) rm_c_sbl #[(.ref b)] h0 [] (fun v _ h => v = some (.int (Int32.ofNat n)) ∧ h = h0) := by
  have hw := K.1
  have hS : ∀ a ∈ Bundle.stringAtoms, a.before a0 Z = true := K.2.2.1
  obtain ⟨X, Fv, Fc, Fn, At, hzt, htb⟩ := id hB
  refine oEnter (by decide +kernel) K.2.1.2.1 ?_
  intro _p _e _s m _below _meth _c T0 W0 S0
  refine oEq (g' := mkF m 0 #[.val (.ref b)] []) (by first | (simp [entryFrame, mkF, argsToLocals, Value.category]; done) | rfl) ?_
  refine oGo W0 [.aload_n 0] (by decide +kernel) (ls' := #[sR b]) (st' := [(.ref b)]) rfl rfl (pc' := 1) rfl ?_
  obtain ⟨v1, T1, L1, h1, vm1, W1, ⟨rfl, e1⟩, C1, st1⟩ := oCallU W0 (idx := 343) (pc := 1) (ls := #[sR b]) (st := []) (argsL := []) (Ins.self X) (c_asl K hB) (fun x hx => nomatch hx) (wK K 215 rfl) (own_same (by decide) (wK K 210 rfl) (own_class (z := (⟨"java/lang/AbstractStringBuilder", "getValue", "()[B"⟩ : MethodName)) (wK K 207 rfl))) (wK K 211 rfl) (wK K 156 rfl) (by decide) (wK K 139 rfl) (wK K 216 rfl) (na := 0) rfl (by decide +kernel) rfl (stk := [(.ref b)]) rfl (by decide +kernel) (V := 0) (lb rfl) (lb rfl) (lb rfl) (lb rfl) (lb rfl)
  refine oLift st1 ?_
  rw [e1] at W1 C1
  show OG _ _ _ _ _ _ _ _ _ _ _ (mkF m 4 #[sR b] [(.int (Int32.ofNat n))])
  exact oRetI W1 (by decide +kernel) (lb rfl) (lb rfl) (fun vm' hv => ⟨rfl, rfl⟩)
abbrev rm_c_ail : Room := { frames := 0, cells := 0, slots := 0, locals := 0 }
set_option maxRecDepth 65536 in
set_option maxHeartbeats 40000000 in
theorem c_ail {l : Launch} {Z : State} {a0 : Array Value} {nb : Bool} (K : Ctx Z a0) {b t : Addr} {kt : ClassId} {vs : List Value} {n : Nat} {h0 : Heap} (hB : SBd Z h0 b t kt vs n) :
    OC l Z EL nb [] (⟨"java/lang/AbstractStringBuilder", "isLatin1", "()Z"⟩ : MethodName) jdk_68_method_68_code 1 (some .boolean) rm_c_ail #[(.ref b)] h0 [] (fun v _ h => v = some (.int 1) ∧ h = h0) := by
  have hw := K.1
  have hS : ∀ a ∈ Bundle.stringAtoms, a.before a0 Z = true := K.2.2.1
  obtain ⟨z, hz, hz0⟩ := K.2.1.2.2
  obtain ⟨X, Fv, Fc, Fn, At, hzt, htb⟩ := id hB
  refine oEnter (by decide +kernel) K.2.1.2.1 ?_
  intro _p _e _s m _below _meth _c T0 W0 S0
  refine oEq (g' := mkF m 0 #[.val (.ref b)] []) (by first | (simp [entryFrame, mkF, argsToLocals, Value.category]; done) | rfl) ?_
  obtain ⟨T1, W1, st1⟩ := oGetS W0 (pc := 0) (ls := #[sR b]) (st := []) (wK K 142 rfl) Via.refl (hz.ext W0.ext) (by decide +kernel)
  refine oLift st1 ?_
  refine oIfF W1 (cd := .eq) (o := 14) (by decide +kernel) (XT.i0_eq_f hz0) (pc' := 6) rfl ?_
  refine oGo W1 [.aload_n 0] (by decide +kernel) (ls' := #[sR b]) (st' := [(.ref b)]) rfl rfl (pc' := 7) rfl ?_
  obtain ⟨T2, W2, st2⟩ := oGetF W1 (pc := 7) (ls := #[sR b]) (st := []) (wK K 145 rfl) Via.refl Fc (by decide +kernel)
  refine oLift st2 ?_
  refine oIfF W2 (cd := .ne) (o := 7) (by decide +kernel) (XT.i0_ne_f (by decide)) (pc' := 13) rfl ?_
  refine oGo W2 [.iconst 1, .goto 4] (by decide +kernel) (ls' := #[sR b]) (st' := [(.int 1)]) rfl rfl (pc' := 18) rfl ?_
  exact oRetN (by simp) W2 rfl (by decide +kernel) (lb rfl) (lb rfl) (fun vm' hv => ⟨rfl, rfl⟩)
abbrev rm_c_i5 : Room := { frames := 3, cells := 1, slots := 32, locals := 71 }
set_option maxRecDepth 65536 in
set_option maxHeartbeats 40000000 in
theorem c_i5 {l : Launch} {Z : State} {a0 : Array Value} {nb : Bool} (K : Ctx Z a0) {b t : Addr} {kt : ClassId} {vs : List Value} {n : Nat} {h0 : Heap} (hB : SBd Z h0 b t kt vs n) (hv16 : vs.length = 16) (hn : n < 16) {cs : List Int32} (hcs : vs.take n = byt cs) (hp : ∀ c ∈ cs, ¬ c < 0 ∧ ¬ (255 : Int32) < c) {x : Addr} {q0 q1 : Value} (hxf : Z.heap.size ≤ x) (Ex : Exa Z h0 x "java/lang/String") (Fxc : Fld Z h0 x "java/lang/String" "coder" "B" q0) (Fxv : Fld Z h0 x "java/lang/String" "value" "[B" q1) :
    OC l Z EL nb [] (⟨"java/lang/String", "<init>", "(Ljava/lang/AbstractStringBuilder;Ljava/lang/Void;)V"⟩ : MethodName) jdk_42_method_150_code 5 none rm_c_i5 #[(.ref x), (.ref b), (.null)] h0 [x] (fun v _ h => v = none ∧ Keep h0 h [x] ∧ Str Z h x cs) := by
  have hw := K.1
  have hS : ∀ a ∈ Bundle.stringAtoms, a.before a0 Z = true := K.2.2.1
  obtain ⟨X, Fv, Fc, Fn, At, hzt, htb⟩ := id hB
  refine oEnter (by decide +kernel) K.2.1.2.1 ?_
  intro _p _e _s m _below _meth _c T0 W0 S0
  refine oEq (g' := mkF m 0 #[.val (.ref x), .val (.ref b), .val (.null), .unset, .unset] []) (by first | (simp [entryFrame, mkF, argsToLocals, Value.category]; done) | rfl) ?_
  have htx : t ≠ x := OA.ne At Ex (wK K 9 rfl)
  refine oGo W0 [.aload_n 0] (by decide +kernel) (ls' := #[sR x, sR b, .val (.null), sU, sU]) (st' := [(.ref x)]) rfl rfl (pc' := 1) rfl ?_
  obtain ⟨T1, W1, st1⟩ := oInit W0 (idx := 1) (pc := 1) (ls := #[sR x, sR b, .val (.null), sU, sU]) (st := []) (a := x) (wK K 19 rfl) (wK K 20 rfl) (wK K 21 rfl) rfl (by decide +kernel) (lb rfl) (V := 0) (lb rfl) (lb rfl)
  refine oLift st1 ?_
  refine oGo W1 [.aload_n 1] (by decide +kernel) (ls' := #[sR x, sR b, .val (.null), sU, sU]) (st' := [(.ref b)]) rfl rfl (pc' := 5) rfl ?_
  obtain ⟨v2, T2, L2, h2, vm2, W2, ⟨rfl, e2⟩, C2, st2⟩ := oCallV W1 (idx := 552) (pc := 5) (ls := #[sR x, sR b, .val (.null), sU, sU]) (st := []) (argsL := []) X (c_gv K hB) (fun x hx => nomatch hx) (wK K 204 rfl) (wK K 205 rfl) (notFace_of_selects (args := #[]) (mvT W1.warm (wK K 207 rfl))) (wK K 207 rfl) (wK K 206 rfl) (wK K 139 rfl) (wK K 208 rfl) (by decide) (na := 0) rfl (by decide +kernel) rfl (stk := [(.ref b)]) rfl (by decide +kernel) (V := 0) (lb rfl) (lb rfl) (lb rfl) (lb rfl) (lb rfl)
  refine oLift st2 ?_
  rw [e2] at W2 C2
  show OG _ _ _ _ _ _ _ _ _ _ _ (mkF m 8 #[sR x, sR b, .val (.null), sU, sU] [(.ref t)])
  refine oGo W2 [.astore_n 3, .aload_n 1] (by decide +kernel) (ls' := #[sR x, sR b, .val (.null), sR t, sU]) (st' := [(.ref b)]) rfl rfl (pc' := 10) rfl ?_
  obtain ⟨v3, T3, L3, h3, vm3, W3, ⟨rfl, e3⟩, C3, st3⟩ := oCallV W2 (idx := 549) (pc := 10) (ls := #[sR x, sR b, .val (.null), sR t, sU]) (st := []) (argsL := []) X (c_sbl K hB) (fun x hx => nomatch hx) (wK K 209 rfl) (wK K 210 rfl) (own_nf (own_class (z := (⟨"java/lang/AbstractStringBuilder", "getValue", "()[B"⟩ : MethodName)) (a0 := #[]) (mvT W2.warm (wK K 207 rfl)))) (wK K 212 rfl) (wK K 213 rfl) (wK K 131 rfl) (wK K 214 rfl) (by decide) (na := 0) rfl (by decide +kernel) rfl (stk := [(.ref b)]) rfl (by decide +kernel) (V := 0) (lb rfl) (lb rfl) (lb rfl) (lb rfl) (lb rfl)
  refine oLift st3 ?_
  rw [e3] at W3 C3
  show OG _ _ _ _ _ _ _ _ _ _ _ (mkF m 13 #[sR x, sR b, .val (.null), sR t, sU] [(.int (Int32.ofNat n))])
  refine oGo W3 [.istore 4, .aload_n 1] (by decide +kernel) (ls' := #[sR x, sR b, .val (.null), sR t, sI (Int32.ofNat n)]) (st' := [(.ref b)]) rfl rfl (pc' := 16) rfl ?_
  obtain ⟨v4, T4, L4, h4, vm4, W4, ⟨rfl, e4⟩, C4, st4⟩ := oCallV W3 (idx := 1047) (pc := 16) (ls := #[sR x, sR b, .val (.null), sR t, sI (Int32.ofNat n)]) (st := []) (argsL := []) X (c_ail K hB) (fun x hx => nomatch hx) (wK K 217 rfl) (wK K 218 rfl) (notFace_of_selects (args := #[]) (mvT W3.warm (wK K 220 rfl))) (wK K 220 rfl) (wK K 219 rfl) (wK K 139 rfl) (wK K 221 rfl) (by decide) (na := 0) rfl (by decide +kernel) rfl (stk := [(.ref b)]) rfl (by decide +kernel) (V := 0) (lb rfl) (lb rfl) (lb rfl) (lb rfl) (lb rfl)
  refine oLift st4 ?_
  rw [e4] at W4 C4
  show OG _ _ _ _ _ _ _ _ _ _ _ (mkF m 19 #[sR x, sR b, .val (.null), sR t, sI (Int32.ofNat n)] [(.int 1)])
  refine oIfF W4 (cd := .eq) (o := 22) (by decide +kernel) (XT.i0_eq_f (by decide)) (pc' := 22) rfl ?_
  refine oGo W4 [.aload_n 0, .iconst 0] (by decide +kernel) (ls' := #[sR x, sR b, .val (.null), sR t, sI (Int32.ofNat n)]) (st' := [(.int 0), (.ref x)]) rfl rfl (pc' := 24) rfl ?_
  obtain ⟨T5, h5, W5, Wr5, F5, X5, C5, st5⟩ := oPutF W4 (idx := 15) (pc := 24) (ls := #[sR x, sR b, .val (.null), sR t, sI (Int32.ofNat n)]) (st := []) (v := (.int 0)) (wK K 34 rfl) Via.refl Fxc Ex (Or.inr ⟨(wK K 35 rfl), rfl, rfl⟩) (wK K 9 rfl) (ty := .byte) (by decide) rfl rfl hxf (C4.safe Ex.lt (C3.safe Ex.lt (C2.safe Ex.lt (S0 x (List.mem_singleton.mpr rfl))))) (by decide +kernel)
  refine oLift st5 ?_
  refine oGo W5 [.aload_n 0, .aload_n 3, .iconst 0, .iload 4] (by decide +kernel) (ls' := #[sR x, sR b, .val (.null), sR t, sI (Int32.ofNat n)]) (st' := [(.int (Int32.ofNat n)), (.int 0), (.ref t), (.ref x)]) rfl rfl (pc' := 32) rfl ?_
  obtain ⟨v6, T6, L6, h6, vm6, W6, ⟨d, kd, rfl, g6, E6, B6⟩, C6, st6⟩ := oCallS W5 (idx := 54) (pc := 32) (ls := #[sR x, sR b, .val (.null), sR t, sI (Int32.ofNat n)]) (st := [(.ref x)]) (argsL := [(.ref t), (.int 0), (.int (Int32.ofNat n))]) (c_cr K (o := 0) (e := n) (At.other Wr5 htx) (by omega) (by omega) (by omega) (fun _ => by omega)) (fun x hx => nomatch hx) (wK K 222 rfl) (wK K 223 rfl) (wK K 224 rfl) (wK K 225 rfl) (by decide) (na := 3) rfl (by decide +kernel) rfl (stk := [(.int (Int32.ofNat n)), (.int 0), (.ref t), (.ref x)]) rfl (by decide +kernel) (V := 1) (lb rfl) (lb rfl) (lb rfl) (lb rfl) (lb rfl)
  refine oLift st6 ?_
  show OG _ _ _ _ _ _ _ _ _ _ _ (mkF m 35 #[sR x, sR b, .val (.null), sR t, sI (Int32.ofNat n)] [(.ref d), (.ref x)])
  have hdx : d ≠ x := Nat.ne_of_gt (Nat.lt_of_lt_of_le X5.lt g6)
  have Bd : OA Z h6 d kd .byte (byt cs) := by have q := B6; rw [List.drop_zero, Nat.sub_zero, hcs] at q; exact q
  obtain ⟨T7, h7, W7, Wr7, F7, X7, C7, st7⟩ := oPutF W6 (idx := 9) (pc := 35) (ls := #[sR x, sR b, .val (.null), sR t, sI (Int32.ofNat n)]) (st := []) (v := (.ref d)) (wK K 36 rfl) Via.refl ((Fxv.other Wr5 (Or.inr (slot_ne (a0 := a0) (C := "java/lang/String") (Or.inr (wK K 37 rfl)) (Or.inr (wK K 35 rfl)) (by decide) (t := (.array .byte)) (t' := .byte) (by decide) (by decide)))).ext E6) (X5.ext E6) (Or.inr ⟨(wK K 37 rfl), rfl, rfl⟩) (wK K 9 rfl) (ty := (.array .byte)) (by decide) rfl rfl hxf (C6.safe X5.lt (C5.safe Ex.lt (C4.safe Ex.lt (C3.safe Ex.lt (C2.safe Ex.lt (S0 x (List.mem_singleton.mpr rfl))))))) (by decide +kernel)
  refine oLift st7 ?_
  refine oGo W7 [.goto 59] (by decide +kernel) (ls' := #[sR x, sR b, .val (.null), sR t, sI (Int32.ofNat n)]) (st' := []) rfl rfl (pc' := 97) rfl ?_
  exact oRet0 W7 (by decide +kernel) (lb rfl) (lb rfl) (fun vm' hv => ⟨rfl, ((((Keep.refl _ [x]).wr Wr5 (Or.inl (List.mem_singleton.mpr rfl))).ext E6).wr Wr7 (Or.inl (List.mem_singleton.mpr rfl))), d, kd, X7, ((F5.ext E6).other Wr7 (Or.inr (slot_ne (a0 := a0) (C := "java/lang/String") (Or.inr (wK K 35 rfl)) (Or.inr (wK K 37 rfl)) (by decide) (t := .byte) (t' := (.array .byte)) (by decide) (by decide)))), F7, (Bd.other Wr7 hdx), hp⟩)
abbrev rm_c_i6 : Room := { frames := 4, cells := 1, slots := 32, locals := 87 }
set_option maxRecDepth 65536 in
set_option maxHeartbeats 40000000 in
theorem c_i6 {l : Launch} {Z : State} {a0 : Array Value} {nb : Bool} (K : Ctx Z a0) {b t : Addr} {kt : ClassId} {vs : List Value} {n : Nat} {h0 : Heap} (hB : SBd Z h0 b t kt vs n) (hv16 : vs.length = 16) (hn : n < 16) {cs : List Int32} (hcs : vs.take n = byt cs) (hp : ∀ c ∈ cs, ¬ c < 0 ∧ ¬ (255 : Int32) < c) {x : Addr} {q0 q1 : Value} (hxf : Z.heap.size ≤ x) (Ex : Exa Z h0 x "java/lang/String") (Fxc : Fld Z h0 x "java/lang/String" "coder" "B" q0) (Fxv : Fld Z h0 x "java/lang/String" "value" "[B" q1) :
    OC l Z EL nb [] (⟨"java/lang/String", "<init>", "(Ljava/lang/StringBuilder;)V"⟩ : MethodName) jdk_42_method_53_code 2 none rm_c_i6 #[(.ref x), (.ref b)] h0 [x] (fun v _ h => v = none ∧ Keep h0 h [x] ∧ Str Z h x cs) := by
  have hw := K.1
  have hS : ∀ a ∈ Bundle.stringAtoms, a.before a0 Z = true := K.2.2.1
  refine oEnter (by decide +kernel) K.2.1.2.1 ?_
  intro _p _e _s m _below _meth _c T0 W0 S0
  refine oEq (g' := mkF m 0 #[.val (.ref x), .val (.ref b)] []) (by first | (simp [entryFrame, mkF, argsToLocals, Value.category]; done) | rfl) ?_
  refine oGo W0 [.aload_n 0, .aload_n 1, .aconst_null] (by decide +kernel) (ls' := #[sR x, sR b]) (st' := [(.null), (.ref b), (.ref x)]) rfl rfl (pc' := 3) rfl ?_
  obtain ⟨v1, T1, L1, h1, vm1, W1, ⟨rfl, K1, F1⟩, C1, st1⟩ := oCallN W0 (idx := 489) (pc := 3) (ls := #[sR x, sR b]) (st := []) (a := x) (argsL := [(.ref b), (.null)]) (c_i5 K hB hv16 hn hcs hp hxf Ex Fxc Fxv) (fun y hy => by cases List.mem_singleton.mp hy; exact ⟨Ex.lt, S0 x (List.mem_singleton.mpr rfl)⟩) rfl (wK K 201 rfl) (wK K 202 rfl) (wK K 10 rfl) (wK K 203 rfl) (by decide) (na := 2) rfl (by decide +kernel) rfl (stk := [(.null), (.ref b), (.ref x)]) rfl (by decide +kernel) (V := 0) (lb rfl) (lb rfl) (lb rfl) (lb rfl) (lb rfl)
  refine oLift st1 ?_
  show OG _ _ _ _ _ _ _ _ _ _ _ (mkF m 6 #[sR x, sR b] [])
  exact oRet0 W1 (by decide +kernel) (lb rfl) (lb rfl) (fun vm' hv => ⟨rfl, K1, F1⟩)
abbrev rm_c_tos : Room := { frames := 5, cells := 2, slots := 36, locals := 101 }
set_option maxRecDepth 65536 in
set_option maxHeartbeats 40000000 in
theorem c_tos {l : Launch} {Z : State} {a0 : Array Value} {nb : Bool} (K : Ctx Z a0) {b t : Addr} {kt : ClassId} {vs : List Value} {n : Nat} {h0 : Heap} (hB : SBd Z h0 b t kt vs n) (hv16 : vs.length = 16) (hn : n < 16) {cs : List Int32} (hcs : vs.take n = byt cs) (hp : ∀ c ∈ cs, ¬ c < 0 ∧ ¬ (255 : Int32) < c) :
    OC l Z EL nb [] (⟨"java/lang/StringBuilder", "toString", "()Ljava/lang/String;"⟩ : MethodName) jdk_67_method_42_code 1 (some (.object "java/lang/String")) rm_c_tos #[(.ref b)] h0 [] (fun v _ h => ∃ x, v = some (.ref x) ∧ Str Z h x cs ∧ Ext h0 h) := by
  have hw := K.1
  have hS : ∀ a ∈ Bundle.stringAtoms, a.before a0 Z = true := K.2.2.1
  obtain ⟨X, Fv, Fc, Fn, At, hzt, htb⟩ := id hB
  refine oEnter (by decide +kernel) K.2.1.2.1 ?_
  intro _p _e _s m _below _meth _c T0 W0 S0
  refine oEq (g' := mkF m 0 #[.val (.ref b)] []) (by first | (simp [entryFrame, mkF, argsToLocals, Value.category]; done) | rfl) ?_
  obtain ⟨T1, h1, x, W1, g1, E1, A1, D1, S1, C1, st1⟩ := oNew W0 (pc := 0) (ls := #[sR b]) (st := []) (wK K 197 rfl) (wK K 9 rfl) (wK K 10 rfl) (by decide +kernel) (lb rfl) (lb rfl)
  refine oLift st1 ?_
  refine oGo W1 [.dup, .aload_n 0] (by decide +kernel) (ls' := #[sR b]) (st' := [(.ref b), (.ref x), (.ref x)]) rfl rfl (pc' := 5) rfl ?_
  have hB1 : SBd Z h1 b t kt vs n := ⟨X.ext E1, Fv.ext E1, Fc.ext E1, Fn.ext E1, At.ext E1, hzt, htb⟩
  obtain ⟨v2, T2, L2, h2, vm2, W2, ⟨rfl, K2, F2⟩, C2, st2⟩ := oCallN W1 (idx := 137) (pc := 5) (ls := #[sR b]) (st := [(.ref x)]) (a := x) (argsL := [(.ref b)]) (c_i6 K hB1 hv16 hn hcs hp (Nat.le_trans W0.ext.1 g1) A1 (D1 (Or.inr (wK K 35 rfl)) (ty := .byte) (by decide)) (D1 (Or.inr (wK K 37 rfl)) (ty := (.array .byte)) (by decide))) (fun y hy => by cases List.mem_singleton.mp hy; exact ⟨A1.lt, S1⟩) rfl (wK K 198 rfl) (wK K 199 rfl) (wK K 10 rfl) (wK K 200 rfl) (by decide) (na := 1) rfl (by decide +kernel) rfl (stk := [(.ref b), (.ref x), (.ref x)]) rfl (by decide +kernel) (V := 1) (lb rfl) (lb rfl) (lb rfl) (lb rfl) (lb rfl)
  refine oLift st2 ?_
  show OG _ _ _ _ _ _ _ _ _ _ _ (mkF m 8 #[sR b] [(.ref x)])
  exact oRetA rfl W2 rfl rfl (by decide +kernel) (lb rfl) (lb rfl) (fun vm' hv => ⟨x, rfl, F2, exK E1 K2 (fun y hy => by cases List.mem_singleton.mp hy; exact g1)⟩)
def ixf : List Int32 → Int32 → Nat → Int32
  | [], _, _ => -1
  | d :: ds, c, i => if d = c then Int32.ofNat i else ixf ds c (i + 1)
abbrev rm_c_ce : Room := { frames := 0, cells := 0, slots := 0, locals := 0 }
set_option maxRecDepth 65536 in
set_option maxHeartbeats 40000000 in
theorem c_ce {l : Launch} {Z : State} {a0 : Array Value} {nb : Bool} (K : Ctx Z a0) {c : Int32} {h0 : Heap} (hc : ¬ c < 0 ∧ ¬ (255 : Int32) < c) :
    OC l Z EL nb [] (⟨"java/lang/StringLatin1", "canEncode", "(I)Z"⟩ : MethodName) jdk_43_method_4_code 1 (some .boolean) rm_c_ce #[(.int c)] h0 [] (fun v _ h => v = some (.int 1) ∧ h = h0) := by
  have hw := K.1
  have hS : ∀ a ∈ Bundle.stringAtoms, a.before a0 Z = true := K.2.2.1
  refine oEnter (by decide +kernel) K.2.1.2.1 ?_
  intro _p _e _s m _below _meth _c T0 W0 S0
  refine oEq (g' := mkF m 0 #[.val (.int c)] []) (by first | (simp [entryFrame, mkF, argsToLocals, Value.category]; done) | rfl) ?_
  refine oGo W0 [.iload_n 0] (by decide +kernel) (ls' := #[sI c]) (st' := [(.int c)]) rfl rfl (pc' := 1) rfl ?_
  refine oIfF W0 (cd := .lt) (o := 14) (by decide +kernel) (XT.i0_lt_f hc.1) (pc' := 4) rfl ?_
  refine oGo W0 [.iload_n 0, .sipush 255] (by decide +kernel) (ls' := #[sI c]) (st' := [(.int 255), (.int c)]) rfl rfl (pc' := 8) rfl ?_
  refine oIcF W0 (cd := .gt) (o := 7) (by decide +kernel) (XT.ii_gt_f hc.2) (pc' := 11) rfl ?_
  refine oGo W0 [.iconst 1, .goto 4] (by decide +kernel) (ls' := #[sI c]) (st' := [(.int 1)]) rfl rfl (pc' := 16) rfl ?_
  exact oRetN (by simp) W0 rfl (by decide +kernel) (lb rfl) (lb rfl) (fun vm' hv => ⟨rfl, rfl⟩)
abbrev rm_c_mx0 : Room := { frames := 0, cells := 0, slots := 0, locals := 0 }
set_option maxRecDepth 65536 in
set_option maxHeartbeats 40000000 in
theorem c_mx0 {l : Launch} {Z : State} {a0 : Array Value} {nb : Bool} (K : Ctx Z a0) {h0 : Heap} :
    OC l Z EL nb [] (⟨"java/lang/Math", "max", "(II)I"⟩ : MethodName) jdk_29_method_65_code 2 (some .int) rm_c_mx0 #[(.int 0), (.int 0)] h0 [] (fun v _ h => v = some (.int 0) ∧ h = h0) := by
  have hw := K.1
  have hS : ∀ a ∈ Bundle.stringAtoms, a.before a0 Z = true := K.2.2.1
  refine oEnter (by decide +kernel) K.2.1.2.1 ?_
  intro _p _e _s m _below _meth _c T0 W0 S0
  refine oEq (g' := mkF m 0 #[.val (.int 0), .val (.int 0)] []) (by first | (simp [entryFrame, mkF, argsToLocals, Value.category]; done) | rfl) ?_
  refine oGo W0 [.iload_n 0, .iload_n 1] (by decide +kernel) (ls' := #[sI 0, sI 0]) (st' := [(.int 0), (.int 0)]) rfl rfl (pc' := 2) rfl ?_
  refine oIcF W0 (cd := .lt) (o := 7) (by decide +kernel) (XT.ii_lt_f (by decide)) (pc' := 5) rfl ?_
  refine oGo W0 [.iload_n 0, .goto 4] (by decide +kernel) (ls' := #[sI 0, sI 0]) (st' := [(.int 0)]) rfl rfl (pc' := 10) rfl ?_
  exact oRetI W0 (by decide +kernel) (lb rfl) (lb rfl) (fun vm' hv => ⟨rfl, rfl⟩)
abbrev rm_c_ioc : Room := { frames := 0, cells := 0, slots := 0, locals := 0 }
set_option maxRecDepth 65536 in
set_option maxHeartbeats 40000000 in
theorem c_ioc_l {l : Launch} {Z : State} {a0 : Array Value} {nb : Bool} (K : Ctx Z a0) {t : Addr} {k : ClassId} {cs : List Int32} {c : Int32} {h0 : Heap} (A : OA Z h0 t k .byte (byt cs)) (P : ∀ d ∈ cs, ¬ d < 0 ∧ ¬ (255 : Int32) < d) (hl : cs.length ≤ 4000) (hc : ¬ c < 0 ∧ ¬ (255 : Int32) < c) {p : Program} {e : Env} {s : State} {m : MethodId} {args : Array Value} {below : List Frame} {meth : Method} {cc : Code} :
    ∀ (rest : List Int32) (i : Nat) {vm0 : Vm} {T0 : State} {lc : List Loc} (W0 : OW p l e rm_c_ioc s m args below meth cc Z a0 EL nb "java/lang/StringLatin1" jdk_43_method_23_code 6 (some .int) "indexOfChar" vm0 T0 lc 0 0 h0) (hr : cs.drop i = rest) (hi : i ≤ cs.length) (hq : ixf cs c 0 = ixf rest c i), OG p e below s Z EL nb (fun v _ h => v = some (.int (ixf cs c 0)) ∧ h = h0) rm_c_ioc.cells rm_c_ioc.slots T0 (mkF m 7 #[sR t, sI c, sI 0, sI (Int32.ofNat cs.length), sI (c.toInt8.toInt32), sI (Int32.ofNat i)] [])
  | [], i, vm0, T0, lc, W0, hr, hi, hq => by
    have hw := K.1
    refine oGo W0 [.iload 5, .iload_n 3] (by decide +kernel) (ls' := #[sR t, sI c, sI 0, sI (Int32.ofNat cs.length), sI (c.toInt8.toInt32), sI (Int32.ofNat i)]) (st' := [(.int (Int32.ofNat cs.length)), (.int (Int32.ofNat i))]) rfl rfl (pc' := 10) rfl ?_
    refine oIcT W0 (cd := .ge) (o := 21) (by decide +kernel) (XT.ii_ge_t (fun q => absurd ((n_lt (by omega) (by omega)).mp q) (by have := List.drop_eq_nil_iff.mp hr; omega))) (pc' := 31) (by decide) (by decide) ?_
    refine oGo W0 [.iconst (-1)] (by decide +kernel) (ls' := #[sR t, sI c, sI 0, sI (Int32.ofNat cs.length), sI (c.toInt8.toInt32), sI (Int32.ofNat i)]) (st' := [(.int (-1))]) rfl rfl (pc' := 32) rfl ?_
    exact oRetI W0 (by decide +kernel) (lb rfl) (lb rfl) (fun vm' hv => ⟨by rw [hq]; rfl, rfl⟩)
  | d :: rest, i, vm0, T0, lc, W0, hr, hi, hq => by
    have hw := K.1
    have hd : cs[i]? = some d := by have := congrArg (fun l => l[0]?) hr; simpa [List.getElem?_drop] using this
    have hr1 : cs.drop (i + 1) = rest := by have := congrArg List.tail hr; simpa [List.tail_drop] using this
    have hlt : i < cs.length := (List.getElem?_eq_some_iff.mp hd).1
    have hm := List.mem_of_getElem? hd
    refine oGo W0 [.iload 5, .iload_n 3] (by decide +kernel) (ls' := #[sR t, sI c, sI 0, sI (Int32.ofNat cs.length), sI (c.toInt8.toInt32), sI (Int32.ofNat i)]) (st' := [(.int (Int32.ofNat cs.length)), (.int (Int32.ofNat i))]) rfl rfl (pc' := 10) rfl ?_
    refine oIcF W0 (cd := .ge) (o := 21) (by decide +kernel) (XT.ii_ge_f ((n_lt (by omega) (by omega)).mpr hlt)) (pc' := 13) rfl ?_
    refine oGo W0 [.aload_n 0, .iload 5] (by decide +kernel) (ls' := #[sR t, sI c, sI 0, sI (Int32.ofNat cs.length), sI (c.toInt8.toInt32), sI (Int32.ofNat i)]) (st' := [(.int (Int32.ofNat i)), (.ref t)]) rfl rfl (pc' := 16) rfl ?_
    refine oGet W0 A (v := (.int (d.toInt8.toInt32))) (n_nn (by omega)) (by rw [n_cl (by omega), List.getElem?_map, hd]; rfl) (Or.inr (Or.inl ⟨rfl, rfl⟩)) (by decide +kernel) ?_
    refine oGo W0 [.iload 4] (by decide +kernel) (ls' := #[sR t, sI c, sI 0, sI (Int32.ofNat cs.length), sI (c.toInt8.toInt32), sI (Int32.ofNat i)]) (st' := [(.int (c.toInt8.toInt32)), (.int (d.toInt8.toInt32))]) rfl rfl (pc' := 19) rfl ?_
    by_cases hc101 : (d.toInt8.toInt32) = (c.toInt8.toInt32)
    · refine oIcF W0 (cd := .ne) (o := 6) (by decide +kernel) (XT.ii_ne_f hc101) (pc' := 22) rfl ?_
      refine oGo W0 [.iload 5] (by decide +kernel) (ls' := #[sR t, sI c, sI 0, sI (Int32.ofNat cs.length), sI (c.toInt8.toInt32), sI (Int32.ofNat i)]) (st' := [(.int (Int32.ofNat i))]) rfl rfl (pc' := 24) rfl ?_
      exact oRetI W0 (by decide +kernel) (lb rfl) (lb rfl) (fun vm' hv => ⟨by rw [hq, ixf, if_pos (lo8_inj (P d hm) hc hc101)], rfl⟩)
    refine oIcT W0 (cd := .ne) (o := 6) (by decide +kernel) (XT.ii_ne_t hc101) (pc' := 25) (by decide) (by decide) ?_
    refine oGo W0 [.iinc 5 1, .goto (-21)] (by decide +kernel) (ls' := #[sR t, sI c, sI 0, sI (Int32.ofNat cs.length), sI (c.toInt8.toInt32), sI ((Int32.ofNat i) + (1 : Int32))]) (st' := []) rfl rfl (pc' := 7) rfl ?_
    rw [n_in]
    exact c_ioc_l K A P hl hc rest (i + 1) W0 hr1 (by omega) (by rw [hq, ixf, if_neg (fun q => hc101 (by rw [q]))])
set_option maxRecDepth 65536 in
set_option maxHeartbeats 40000000 in
theorem c_ioc {l : Launch} {Z : State} {a0 : Array Value} {nb : Bool} (K : Ctx Z a0) {t : Addr} {k : ClassId} {cs : List Int32} {c : Int32} {h0 : Heap} (A : OA Z h0 t k .byte (byt cs)) (P : ∀ d ∈ cs, ¬ d < 0 ∧ ¬ (255 : Int32) < d) (hl : cs.length ≤ 4000) (hc : ¬ c < 0 ∧ ¬ (255 : Int32) < c) :
    OC l Z EL nb [] (⟨"java/lang/StringLatin1", "indexOfChar", "([BIII)I"⟩ : MethodName) jdk_43_method_23_code 6 (some .int) rm_c_ioc #[(.ref t), (.int c), (.int 0), (.int (Int32.ofNat cs.length))] h0 [] (fun v _ h => v = some (.int (ixf cs c 0)) ∧ h = h0) := by
  have hw := K.1
  have hS : ∀ a ∈ Bundle.stringAtoms, a.before a0 Z = true := K.2.2.1
  refine oEnter (by decide +kernel) K.2.1.2.1 ?_
  intro _p _e _s m _below _meth _c T0 W0 S0
  refine oEq (g' := mkF m 0 #[.val (.ref t), .val (.int c), .val (.int 0), .val (.int (Int32.ofNat cs.length)), .unset, .unset] []) (by first | (simp [entryFrame, mkF, argsToLocals, Value.category]; done) | rfl) ?_
  refine oGo W0 [.iload_n 1, .i2b, .istore 4, .iload_n 2, .istore 5] (by decide +kernel) (ls' := #[sR t, sI c, sI 0, sI (Int32.ofNat cs.length), sI (c.toInt8.toInt32), sI 0]) (st' := []) rfl rfl (pc' := 7) rfl ?_
  exact c_ioc_l K A P hl hc cs 0 W0 (by simp) (by omega) rfl
abbrev rm_c_lix : Room := { frames := 1, cells := 0, slots := 0, locals := 17 }
set_option maxRecDepth 65536 in
set_option maxHeartbeats 40000000 in
theorem c_lix {l : Launch} {Z : State} {a0 : Array Value} {nb : Bool} (K : Ctx Z a0) {t : Addr} {k : ClassId} {cs : List Int32} {c : Int32} {h0 : Heap} (A : OA Z h0 t k .byte (byt cs)) (P : ∀ d ∈ cs, ¬ d < 0 ∧ ¬ (255 : Int32) < d) (hl : cs.length ≤ 4000) (hc : ¬ c < 0 ∧ ¬ (255 : Int32) < c) (h1 : 0 < cs.length) :
    OC l Z EL nb [] (⟨"java/lang/StringLatin1", "indexOf", "([BIII)I"⟩ : MethodName) jdk_43_method_22_code 4 (some .int) rm_c_lix #[(.ref t), (.int c), (.int 0), (.int (Int32.ofNat cs.length))] h0 [] (fun v _ h => v = some (.int (ixf cs c 0)) ∧ h = h0) := by
  have hw := K.1
  have hS : ∀ a ∈ Bundle.stringAtoms, a.before a0 Z = true := K.2.2.1
  have hz1 := h1
  refine oEnter (by decide +kernel) K.2.1.2.1 ?_
  intro _p _e _s m _below _meth _c T0 W0 S0
  refine oEq (g' := mkF m 0 #[.val (.ref t), .val (.int c), .val (.int 0), .val (.int (Int32.ofNat cs.length))] []) (by first | (simp [entryFrame, mkF, argsToLocals, Value.category]; done) | rfl) ?_
  refine oGo W0 [.iload_n 1] (by decide +kernel) (ls' := #[sR t, sI c, sI 0, sI (Int32.ofNat cs.length)]) (st' := [(.int c)]) rfl rfl (pc' := 1) rfl ?_
  obtain ⟨v1, T1, L1, h1, vm1, W1, ⟨rfl, e1⟩, C1, st1⟩ := oCallS W0 (idx := 88) (pc := 1) (ls := #[sR t, sI c, sI 0, sI (Int32.ofNat cs.length)]) (st := []) (argsL := [(.int c)]) (c_ce K hc) (fun x hx => nomatch hx) (wK K 256 rfl) (wK K 257 rfl) (wK K 90 rfl) (wK K 258 rfl) (by decide) (na := 1) rfl (by decide +kernel) rfl (stk := [(.int c)]) rfl (by decide +kernel) (V := 0) (lb rfl) (lb rfl) (lb rfl) (lb rfl) (lb rfl)
  refine oLift st1 ?_
  rw [e1] at W1 C1
  show OG _ _ _ _ _ _ _ _ _ _ _ (mkF m 4 #[sR t, sI c, sI 0, sI (Int32.ofNat cs.length)] [(.int 1)])
  refine oIfT W1 (cd := .ne) (o := 5) (by decide +kernel) (XT.i0_ne_t (by decide)) (pc' := 9) (by decide) (by decide) ?_
  refine oGo W1 [.iload_n 2, .iconst 0] (by decide +kernel) (ls' := #[sR t, sI c, sI 0, sI (Int32.ofNat cs.length)]) (st' := [(.int 0), (.int 0)]) rfl rfl (pc' := 11) rfl ?_
  obtain ⟨v2, T2, L2, h2, vm2, W2, ⟨rfl, e2⟩, C2, st2⟩ := oCallS W1 (idx := 92) (pc := 11) (ls := #[sR t, sI c, sI 0, sI (Int32.ofNat cs.length)]) (st := []) (argsL := [(.int 0), (.int 0)]) (c_mx0 K) (fun x hx => nomatch hx) (wK K 259 rfl) (wK K 260 rfl) (wK K 234 rfl) (wK K 261 rfl) (by decide) (na := 2) rfl (by decide +kernel) rfl (stk := [(.int 0), (.int 0)]) rfl (by decide +kernel) (V := 0) (lb rfl) (lb rfl) (lb rfl) (lb rfl) (lb rfl)
  refine oLift st2 ?_
  rw [e2] at W2 C2
  show OG _ _ _ _ _ _ _ _ _ _ _ (mkF m 14 #[sR t, sI c, sI 0, sI (Int32.ofNat cs.length)] [(.int 0)])
  refine oGo W2 [.istore_n 2, .iload_n 3, .aload_n 0] (by decide +kernel) (ls' := #[sR t, sI c, sI 0, sI (Int32.ofNat cs.length)]) (st' := [(.ref t), (.int (Int32.ofNat cs.length))]) rfl rfl (pc' := 17) rfl ?_
  refine oLen W2 A (by decide +kernel) ?_
  rw [List.length_map]
  obtain ⟨v3, T3, L3, h3, vm3, W3, ⟨rfl, e3⟩, C3, st3⟩ := oCallS W2 (idx := 38) (pc := 18) (ls := #[sR t, sI c, sI 0, sI (Int32.ofNat cs.length)]) (st := []) (argsL := [(.int (Int32.ofNat cs.length)), (.int (Int32.ofNat cs.length))]) (c_min K hl (Nat.le_refl _)) (fun x hx => nomatch hx) (wK K 262 rfl) (wK K 233 rfl) (wK K 234 rfl) (wK K 235 rfl) (by decide) (na := 2) rfl (by decide +kernel) rfl (stk := [(.int (Int32.ofNat cs.length)), (.int (Int32.ofNat cs.length))]) rfl (by decide +kernel) (V := 0) (lb rfl) (lb rfl) (lb rfl) (lb rfl) (lb rfl)
  refine oLift st3 ?_
  rw [e3] at W3 C3
  show OG _ _ _ _ _ _ _ _ _ _ _ (mkF m 21 #[sR t, sI c, sI 0, sI (Int32.ofNat cs.length)] [(.int (Int32.ofNat cs.length))])
  refine oGo W3 [.istore_n 3, .iload_n 2, .iload_n 3] (by decide +kernel) (ls' := #[sR t, sI c, sI 0, sI (Int32.ofNat cs.length)]) (st' := [(.int (Int32.ofNat cs.length)), (.int 0)]) rfl rfl (pc' := 24) rfl ?_
  refine oIcT W3 (cd := .lt) (o := 5) (by decide +kernel) (XT.ii_lt_t ((n_lt (a := 0) (by omega) (by omega)).mpr hz1)) (pc' := 29) (by decide) (by decide) ?_
  refine oGo W3 [.aload_n 0, .iload_n 1, .iload_n 2, .iload_n 3] (by decide +kernel) (ls' := #[sR t, sI c, sI 0, sI (Int32.ofNat cs.length)]) (st' := [(.int (Int32.ofNat cs.length)), (.int 0), (.int c), (.ref t)]) rfl rfl (pc' := 33) rfl ?_
  obtain ⟨v4, T4, L4, h4, vm4, W4, ⟨rfl, e4⟩, C4, st4⟩ := oCallS W3 (idx := 95) (pc := 33) (ls := #[sR t, sI c, sI 0, sI (Int32.ofNat cs.length)]) (st := []) (argsL := [(.ref t), (.int c), (.int 0), (.int (Int32.ofNat cs.length))]) (c_ioc K A P hl hc) (fun x hx => nomatch hx) (wK K 263 rfl) (wK K 264 rfl) (wK K 90 rfl) (wK K 265 rfl) (by decide) (na := 4) rfl (by decide +kernel) rfl (stk := [(.int (Int32.ofNat cs.length)), (.int 0), (.int c), (.ref t)]) rfl (by decide +kernel) (V := 0) (lb rfl) (lb rfl) (lb rfl) (lb rfl) (lb rfl)
  refine oLift st4 ?_
  rw [e4] at W4 C4
  show OG _ _ _ _ _ _ _ _ _ _ _ (mkF m 36 #[sR t, sI c, sI 0, sI (Int32.ofNat cs.length)] [(.int (ixf cs c 0))])
  exact oRetI W4 (by decide +kernel) (lb rfl) (lb rfl) (fun vm' hv => ⟨rfl, rfl⟩)
abbrev rm_c_ix2 : Room := { frames := 2, cells := 0, slots := 0, locals := 32 }
set_option maxRecDepth 65536 in
set_option maxHeartbeats 40000000 in
theorem c_ix2 {l : Launch} {Z : State} {a0 : Array Value} {nb : Bool} (K : Ctx Z a0) {x : Addr} {cs : List Int32} {c : Int32} {h0 : Heap} (F : Str Z h0 x cs) (hl : cs.length ≤ 4000) (hp1 : 0 < cs.length) (hc : ¬ c < 0 ∧ ¬ (255 : Int32) < c) :
    OC l Z EL nb [] (⟨"java/lang/String", "indexOf", "(II)I"⟩ : MethodName) jdk_42_method_80_code 3 (some .int) rm_c_ix2 #[(.ref x), (.int c), (.int 0)] h0 [] (fun v _ h => v = some (.int (ixf cs c 0)) ∧ h = h0) := by
  have hw := K.1
  have hS : ∀ a ∈ Bundle.stringAtoms, a.before a0 Z = true := K.2.2.1
  obtain ⟨t, kt, X1, Fc, Fv, A, P⟩ := id F
  refine oEnter (by decide +kernel) K.2.1.2.1 ?_
  intro _p _e _s m _below _meth _c T0 W0 S0
  refine oEq (g' := mkF m 0 #[.val (.ref x), .val (.int c), .val (.int 0)] []) (by first | (simp [entryFrame, mkF, argsToLocals, Value.category]; done) | rfl) ?_
  refine oGo W0 [.aload_n 0] (by decide +kernel) (ls' := #[sR x, sI c, sI 0]) (st' := [(.ref x)]) rfl rfl (pc' := 1) rfl ?_
  obtain ⟨v1, T1, L1, h1, vm1, W1, ⟨rfl, e1⟩, C1, st1⟩ := oCallV W0 (idx := 492) (pc := 1) (ls := #[sR x, sI c, sI 0]) (st := []) (argsL := []) X1 (c_isl K Fc) (fun x hx => nomatch hx) (wK K 83 rfl) (wK K 84 rfl) (notFace_of_selects (args := #[]) (mvT W0.warm (wK K 86 rfl))) (wK K 86 rfl) (wK K 85 rfl) (wK K 10 rfl) (wK K 87 rfl) (by decide) (na := 0) rfl (by decide +kernel) rfl (stk := [(.ref x)]) rfl (by decide +kernel) (V := 0) (lb rfl) (lb rfl) (lb rfl) (lb rfl) (lb rfl)
  refine oLift st1 ?_
  rw [e1] at W1 C1
  show OG _ _ _ _ _ _ _ _ _ _ _ (mkF m 4 #[sR x, sI c, sI 0] [(.int 1)])
  refine oIfF W1 (cd := .eq) (o := 19) (by decide +kernel) (XT.i0_eq_f (by decide)) (pc' := 7) rfl ?_
  refine oGo W1 [.aload_n 0] (by decide +kernel) (ls' := #[sR x, sI c, sI 0]) (st' := [(.ref x)]) rfl rfl (pc' := 8) rfl ?_
  obtain ⟨T2, W2, st2⟩ := oGetF W1 (pc := 8) (ls := #[sR x, sI c, sI 0]) (st := []) (wK K 36 rfl) Via.refl Fv (by decide +kernel)
  refine oLift st2 ?_
  refine oGo W2 [.iload_n 1, .iload_n 2, .aload_n 0] (by decide +kernel) (ls' := #[sR x, sI c, sI 0]) (st' := [(.ref x), (.int 0), (.int c), (.ref t)]) rfl rfl (pc' := 14) rfl ?_
  obtain ⟨v3, T3, L3, h3, vm3, W3, ⟨rfl, e3⟩, C3, st3⟩ := oCallV W2 (idx := 505) (pc := 14) (ls := #[sR x, sI c, sI 0]) (st := [(.int 0), (.int c), (.ref t)]) (argsL := []) X1 (c_len K F) (fun x hx => nomatch hx) (wK K 252 rfl) (wK K 69 rfl) (notFace_of_selects (args := #[]) (mvT W2.warm (wK K 71 rfl))) (wK K 71 rfl) (wK K 70 rfl) (wK K 10 rfl) (wK K 72 rfl) (by decide) (na := 0) rfl (by decide +kernel) rfl (stk := [(.ref x), (.int 0), (.int c), (.ref t)]) rfl (by decide +kernel) (V := 3) (lb rfl) (lb rfl) (lb rfl) (lb rfl) (lb rfl)
  refine oLift st3 ?_
  rw [e3] at W3 C3
  show OG _ _ _ _ _ _ _ _ _ _ _ (mkF m 17 #[sR x, sI c, sI 0] [(.int (Int32.ofNat cs.length)), (.int 0), (.int c), (.ref t)])
  obtain ⟨v4, T4, L4, h4, vm4, W4, ⟨rfl, e4⟩, C4, st4⟩ := oCallS W3 (idx := 637) (pc := 17) (ls := #[sR x, sI c, sI 0]) (st := []) (argsL := [(.ref t), (.int c), (.int 0), (.int (Int32.ofNat cs.length))]) (c_lix K A P hl hc hp1) (fun x hx => nomatch hx) (wK K 253 rfl) (wK K 254 rfl) (wK K 90 rfl) (wK K 255 rfl) (by decide) (na := 4) rfl (by decide +kernel) rfl (stk := [(.int (Int32.ofNat cs.length)), (.int 0), (.int c), (.ref t)]) rfl (by decide +kernel) (V := 0) (lb rfl) (lb rfl) (lb rfl) (lb rfl) (lb rfl)
  refine oLift st4 ?_
  rw [e4] at W4 C4
  show OG _ _ _ _ _ _ _ _ _ _ _ (mkF m 20 #[sR x, sI c, sI 0] [(.int (ixf cs c 0))])
  refine oGo W4 [.goto 16] (by decide +kernel) (ls' := #[sR x, sI c, sI 0]) (st' := [(.int (ixf cs c 0))]) rfl rfl (pc' := 36) rfl ?_
  exact oRetI W4 (by decide +kernel) (lb rfl) (lb rfl) (fun vm' hv => ⟨rfl, rfl⟩)
abbrev rm_c_ix1 : Room := { frames := 3, cells := 0, slots := 0, locals := 46 }
set_option maxRecDepth 65536 in
set_option maxHeartbeats 40000000 in
theorem c_ix1 {l : Launch} {Z : State} {a0 : Array Value} {nb : Bool} (K : Ctx Z a0) {x : Addr} {cs : List Int32} {c : Int32} {h0 : Heap} (F : Str Z h0 x cs) (hl : cs.length ≤ 4000) (hp1 : 0 < cs.length) (hc : ¬ c < 0 ∧ ¬ (255 : Int32) < c) :
    OC l Z EL nb [] (⟨"java/lang/String", "indexOf", "(I)I"⟩ : MethodName) jdk_42_method_79_code 2 (some .int) rm_c_ix1 #[(.ref x), (.int c)] h0 [] (fun v _ h => v = some (.int (ixf cs c 0)) ∧ h = h0) := by
  have hw := K.1
  have hS : ∀ a ∈ Bundle.stringAtoms, a.before a0 Z = true := K.2.2.1
  refine oEnter (by decide +kernel) K.2.1.2.1 ?_
  intro _p _e _s m _below _meth _c T0 W0 S0
  refine oEq (g' := mkF m 0 #[.val (.ref x), .val (.int c)] []) (by first | (simp [entryFrame, mkF, argsToLocals, Value.category]; done) | rfl) ?_
  refine oGo W0 [.aload_n 0, .iload_n 1, .iconst 0] (by decide +kernel) (ls' := #[sR x, sI c]) (st' := [(.int 0), (.int c), (.ref x)]) rfl rfl (pc' := 3) rfl ?_
  obtain ⟨v1, T1, L1, h1, vm1, W1, ⟨rfl, e1⟩, C1, st1⟩ := oCallV W0 (idx := 633) (pc := 3) (ls := #[sR x, sI c]) (st := []) (argsL := [(.int c), (.int 0)]) F.exa (c_ix2 K F hl hp1 hc) (fun x hx => nomatch hx) (wK K 247 rfl) (wK K 248 rfl) (notFace_of_selects (args := #[]) (mvT W0.warm (wK K 250 rfl))) (wK K 250 rfl) (wK K 249 rfl) (wK K 10 rfl) (wK K 251 rfl) (by decide) (na := 2) rfl (by decide +kernel) rfl (stk := [(.int 0), (.int c), (.ref x)]) rfl (by decide +kernel) (V := 0) (lb rfl) (lb rfl) (lb rfl) (lb rfl) (lb rfl)
  refine oLift st1 ?_
  rw [e1] at W1 C1
  show OG _ _ _ _ _ _ _ _ _ _ _ (mkF m 6 #[sR x, sI c] [(.int (ixf cs c 0))])
  exact oRetI W1 (by decide +kernel) (lb rfl) (lb rfl) (fun vm' hv => ⟨rfl, rfl⟩)
def Alw (c : Int32) : Prop := (65 ≤ c.toInt ∧ c.toInt ≤ 90) ∨ (97 ≤ c.toInt ∧ c.toInt ≤ 122) ∨ (48 ≤ c.toInt ∧ c.toInt ≤ 57) ∨ c = 46 ∨ c = 95 ∨ c = 126 ∨ c = 45
theorem lt_lit {c k : Int32} (q : c.toInt < k.toInt) : c < k := Int32.lt_iff_toInt_lt.mpr q
theorem nlt_lit {c k : Int32} (q : k.toInt ≤ c.toInt) : ¬ c < k := fun r => absurd (Int32.lt_iff_toInt_lt.mp r) (by omega)
abbrev rm_c_isa : Room := { frames := 4, cells := 2, slots := 20, locals := 59 }
set_option maxRecDepth 65536 in
set_option maxHeartbeats 40000000 in
theorem c_isa {l : Launch} {Z : State} {a0 : Array Value} (K : Ctx Z a0) {c : Int32} {h0 : Heap} (hA : Alw c) :
    OC l Z EL false [] (⟨"com/example/gentle_hub/gentlehub/core/ChannelName", "isAllowed", "(C)Z"⟩ : MethodName) prog_1_method_2_code 1 (some .boolean) rm_c_isa #[(.int c)] h0 [] (fun v _ h => v = some (.int 1) ∧ Ext h0 h) := by
  have hw := K.1
  have hS : ∀ a ∈ Bundle.stringAtoms, a.before a0 Z = true := K.2.2.1
  refine oEnter (by decide +kernel) K.2.1.2.1 ?_
  intro _p _e _s m _below _meth _c T0 W0 S0
  refine oEq (g' := mkF m 0 #[.val (.int c)] []) (by first | (simp [entryFrame, mkF, argsToLocals, Value.category]; done) | rfl) ?_
  rcases hA with hA | hA | hA | rfl | rfl | rfl | rfl
  · refine oGo W0 [.iload_n 0, .bipush 65] (by decide +kernel) (ls' := #[sI c]) (st' := [(.int 65), (.int c)]) rfl rfl (pc' := 3) rfl ?_
    refine oIcF W0 (cd := .lt) (o := 9) (by decide +kernel) (XT.ii_lt_f (nlt_lit (Int.le_trans (by decide) hA.1))) (pc' := 6) rfl ?_
    refine oGo W0 [.iload_n 0, .bipush 90] (by decide +kernel) (ls' := #[sI c]) (st' := [(.int 90), (.int c)]) rfl rfl (pc' := 9) rfl ?_
    refine oIcT W0 (cd := .le) (o := 36) (by decide +kernel) (XT.ii_le_t (nlt_lit hA.2)) (pc' := 45) (by decide) (by decide) ?_
    refine oGo W0 [.iconst 1, .goto 4] (by decide +kernel) (ls' := #[sI c]) (st' := [(.int 1)]) rfl rfl (pc' := 50) rfl ?_
    exact oRetN (by simp) W0 rfl (by decide +kernel) (lb rfl) (lb rfl) (fun vm' hv => ⟨rfl, (exR _)⟩)
  · refine oGo W0 [.iload_n 0, .bipush 65] (by decide +kernel) (ls' := #[sI c]) (st' := [(.int 65), (.int c)]) rfl rfl (pc' := 3) rfl ?_
    refine oIcF W0 (cd := .lt) (o := 9) (by decide +kernel) (XT.ii_lt_f (nlt_lit (Int.le_trans (by decide) hA.1))) (pc' := 6) rfl ?_
    refine oGo W0 [.iload_n 0, .bipush 90] (by decide +kernel) (ls' := #[sI c]) (st' := [(.int 90), (.int c)]) rfl rfl (pc' := 9) rfl ?_
    refine oIcF W0 (cd := .le) (o := 36) (by decide +kernel) (XT.ii_le_f (lt_lit (Int.lt_of_lt_of_le (by decide) hA.1))) (pc' := 12) rfl ?_
    refine oGo W0 [.iload_n 0, .bipush 97] (by decide +kernel) (ls' := #[sI c]) (st' := [(.int 97), (.int c)]) rfl rfl (pc' := 15) rfl ?_
    refine oIcF W0 (cd := .lt) (o := 9) (by decide +kernel) (XT.ii_lt_f (nlt_lit (Int.le_trans (by decide) hA.1))) (pc' := 18) rfl ?_
    refine oGo W0 [.iload_n 0, .bipush 122] (by decide +kernel) (ls' := #[sI c]) (st' := [(.int 122), (.int c)]) rfl rfl (pc' := 21) rfl ?_
    refine oIcT W0 (cd := .le) (o := 24) (by decide +kernel) (XT.ii_le_t (nlt_lit hA.2)) (pc' := 45) (by decide) (by decide) ?_
    refine oGo W0 [.iconst 1, .goto 4] (by decide +kernel) (ls' := #[sI c]) (st' := [(.int 1)]) rfl rfl (pc' := 50) rfl ?_
    exact oRetN (by simp) W0 rfl (by decide +kernel) (lb rfl) (lb rfl) (fun vm' hv => ⟨rfl, (exR _)⟩)
  · refine oGo W0 [.iload_n 0, .bipush 65] (by decide +kernel) (ls' := #[sI c]) (st' := [(.int 65), (.int c)]) rfl rfl (pc' := 3) rfl ?_
    refine oIcT W0 (cd := .lt) (o := 9) (by decide +kernel) (XT.ii_lt_t (lt_lit (Int.lt_of_le_of_lt hA.2 (by decide)))) (pc' := 12) (by decide) (by decide) ?_
    refine oGo W0 [.iload_n 0, .bipush 97] (by decide +kernel) (ls' := #[sI c]) (st' := [(.int 97), (.int c)]) rfl rfl (pc' := 15) rfl ?_
    refine oIcT W0 (cd := .lt) (o := 9) (by decide +kernel) (XT.ii_lt_t (lt_lit (Int.lt_of_le_of_lt hA.2 (by decide)))) (pc' := 24) (by decide) (by decide) ?_
    refine oGo W0 [.iload_n 0, .bipush 48] (by decide +kernel) (ls' := #[sI c]) (st' := [(.int 48), (.int c)]) rfl rfl (pc' := 27) rfl ?_
    refine oIcF W0 (cd := .lt) (o := 9) (by decide +kernel) (XT.ii_lt_f (nlt_lit (Int.le_trans (by decide) hA.1))) (pc' := 30) rfl ?_
    refine oGo W0 [.iload_n 0, .bipush 57] (by decide +kernel) (ls' := #[sI c]) (st' := [(.int 57), (.int c)]) rfl rfl (pc' := 33) rfl ?_
    refine oIcT W0 (cd := .le) (o := 12) (by decide +kernel) (XT.ii_le_t (nlt_lit hA.2)) (pc' := 45) (by decide) (by decide) ?_
    refine oGo W0 [.iconst 1, .goto 4] (by decide +kernel) (ls' := #[sI c]) (st' := [(.int 1)]) rfl rfl (pc' := 50) rfl ?_
    exact oRetN (by simp) W0 rfl (by decide +kernel) (lb rfl) (lb rfl) (fun vm' hv => ⟨rfl, (exR _)⟩)
  · refine oGo W0 [.iload_n 0, .bipush 65] (by decide +kernel) (ls' := #[sI 46]) (st' := [(.int 65), (.int 46)]) rfl rfl (pc' := 3) rfl ?_
    refine oIcT W0 (cd := .lt) (o := 9) (by decide +kernel) (XT.ii_lt_t (by decide)) (pc' := 12) (by decide) (by decide) ?_
    refine oGo W0 [.iload_n 0, .bipush 97] (by decide +kernel) (ls' := #[sI 46]) (st' := [(.int 97), (.int 46)]) rfl rfl (pc' := 15) rfl ?_
    refine oIcT W0 (cd := .lt) (o := 9) (by decide +kernel) (XT.ii_lt_t (by decide)) (pc' := 24) (by decide) (by decide) ?_
    refine oGo W0 [.iload_n 0, .bipush 48] (by decide +kernel) (ls' := #[sI 46]) (st' := [(.int 48), (.int 46)]) rfl rfl (pc' := 27) rfl ?_
    refine oIcT W0 (cd := .lt) (o := 9) (by decide +kernel) (XT.ii_lt_t (by decide)) (pc' := 36) (by decide) (by decide) ?_
    obtain ⟨a1, b1, k1, T1, h1, vm1, W1, E1, C1, x1, c1, u1, A1, st1⟩ := oLdcC W0 (pc := 36) (ls := #[sI 46]) (st := []) (wK K 241 rfl) hS (by decide) (vs := (([46, 95, 126, 45] : List Int32).map fun c => Value.int c.toInt8.toInt32)) (z := 4) (by decide +kernel) (by decide) (by decide) (by decide +kernel) (n := 16) (lb rfl) (lb rfl) (lb rfl) (lb rfl)
    refine oLift st1 ?_
    have F1 : Str Z h1 a1 [46, 95, 126, 45] := ⟨b1, k1, x1, c1, u1, A1, by decide⟩
    refine oGo W1 [.iload_n 0] (by decide +kernel) (ls' := #[sI 46]) (st' := [(.int 46), (.ref a1)]) rfl rfl (pc' := 39) rfl ?_
    obtain ⟨v2, T2, L2, h2, vm2, W2, ⟨rfl, e2⟩, C2, st2⟩ := oCallV W1 (idx := 90) (pc := 39) (ls := #[sI 46]) (st := []) (argsL := [(.int 46)]) F1.exa (c_ix1 K F1 (by decide) (by decide) (by decide)) (fun x hx => nomatch hx) (wK K 242 rfl) (wK K 243 rfl) (notFace_of_selects (args := #[]) (mvT W1.warm (wK K 245 rfl))) (wK K 245 rfl) (wK K 244 rfl) (wK K 10 rfl) (wK K 246 rfl) (by decide) (na := 1) rfl (by decide +kernel) rfl (stk := [(.int 46), (.ref a1)]) rfl (by decide +kernel) (V := 0) (lb rfl) (lb rfl) (lb rfl) (lb rfl) (lb rfl)
    refine oLift st2 ?_
    rw [e2] at W2 C2
    show OG _ _ _ _ _ _ _ _ _ _ _ (mkF m 42 #[sI 46] [(.int (ixf [46, 95, 126, 45] (46 : Int32) 0))])
    refine oIfF W2 (cd := .lt) (o := 7) (by decide +kernel) (XT.i0_lt_f (by decide)) (pc' := 45) rfl ?_
    refine oGo W2 [.iconst 1, .goto 4] (by decide +kernel) (ls' := #[sI 46]) (st' := [(.int 1)]) rfl rfl (pc' := 50) rfl ?_
    exact oRetN (by simp) W2 rfl (by decide +kernel) (lb rfl) (lb rfl) (fun vm' hv => ⟨rfl, E1⟩)
  · refine oGo W0 [.iload_n 0, .bipush 65] (by decide +kernel) (ls' := #[sI 95]) (st' := [(.int 65), (.int 95)]) rfl rfl (pc' := 3) rfl ?_
    refine oIcF W0 (cd := .lt) (o := 9) (by decide +kernel) (XT.ii_lt_f (by decide)) (pc' := 6) rfl ?_
    refine oGo W0 [.iload_n 0, .bipush 90] (by decide +kernel) (ls' := #[sI 95]) (st' := [(.int 90), (.int 95)]) rfl rfl (pc' := 9) rfl ?_
    refine oIcF W0 (cd := .le) (o := 36) (by decide +kernel) (XT.ii_le_f (by decide)) (pc' := 12) rfl ?_
    refine oGo W0 [.iload_n 0, .bipush 97] (by decide +kernel) (ls' := #[sI 95]) (st' := [(.int 97), (.int 95)]) rfl rfl (pc' := 15) rfl ?_
    refine oIcT W0 (cd := .lt) (o := 9) (by decide +kernel) (XT.ii_lt_t (by decide)) (pc' := 24) (by decide) (by decide) ?_
    refine oGo W0 [.iload_n 0, .bipush 48] (by decide +kernel) (ls' := #[sI 95]) (st' := [(.int 48), (.int 95)]) rfl rfl (pc' := 27) rfl ?_
    refine oIcF W0 (cd := .lt) (o := 9) (by decide +kernel) (XT.ii_lt_f (by decide)) (pc' := 30) rfl ?_
    refine oGo W0 [.iload_n 0, .bipush 57] (by decide +kernel) (ls' := #[sI 95]) (st' := [(.int 57), (.int 95)]) rfl rfl (pc' := 33) rfl ?_
    refine oIcF W0 (cd := .le) (o := 12) (by decide +kernel) (XT.ii_le_f (by decide)) (pc' := 36) rfl ?_
    obtain ⟨a3, b3, k3, T3, h3, vm3, W3, E3, C3, x3, c3, u3, A3, st3⟩ := oLdcC W0 (pc := 36) (ls := #[sI 95]) (st := []) (wK K 241 rfl) hS (by decide) (vs := (([46, 95, 126, 45] : List Int32).map fun c => Value.int c.toInt8.toInt32)) (z := 4) (by decide +kernel) (by decide) (by decide) (by decide +kernel) (n := 16) (lb rfl) (lb rfl) (lb rfl) (lb rfl)
    refine oLift st3 ?_
    have F3 : Str Z h3 a3 [46, 95, 126, 45] := ⟨b3, k3, x3, c3, u3, A3, by decide⟩
    refine oGo W3 [.iload_n 0] (by decide +kernel) (ls' := #[sI 95]) (st' := [(.int 95), (.ref a3)]) rfl rfl (pc' := 39) rfl ?_
    obtain ⟨v4, T4, L4, h4, vm4, W4, ⟨rfl, e4⟩, C4, st4⟩ := oCallV W3 (idx := 90) (pc := 39) (ls := #[sI 95]) (st := []) (argsL := [(.int 95)]) F3.exa (c_ix1 K F3 (by decide) (by decide) (by decide)) (fun x hx => nomatch hx) (wK K 242 rfl) (wK K 243 rfl) (notFace_of_selects (args := #[]) (mvT W3.warm (wK K 245 rfl))) (wK K 245 rfl) (wK K 244 rfl) (wK K 10 rfl) (wK K 246 rfl) (by decide) (na := 1) rfl (by decide +kernel) rfl (stk := [(.int 95), (.ref a3)]) rfl (by decide +kernel) (V := 0) (lb rfl) (lb rfl) (lb rfl) (lb rfl) (lb rfl)
    refine oLift st4 ?_
    rw [e4] at W4 C4
    show OG _ _ _ _ _ _ _ _ _ _ _ (mkF m 42 #[sI 95] [(.int (ixf [46, 95, 126, 45] (95 : Int32) 0))])
    refine oIfF W4 (cd := .lt) (o := 7) (by decide +kernel) (XT.i0_lt_f (by decide)) (pc' := 45) rfl ?_
    refine oGo W4 [.iconst 1, .goto 4] (by decide +kernel) (ls' := #[sI 95]) (st' := [(.int 1)]) rfl rfl (pc' := 50) rfl ?_
    exact oRetN (by simp) W4 rfl (by decide +kernel) (lb rfl) (lb rfl) (fun vm' hv => ⟨rfl, E3⟩)
  · refine oGo W0 [.iload_n 0, .bipush 65] (by decide +kernel) (ls' := #[sI 126]) (st' := [(.int 65), (.int 126)]) rfl rfl (pc' := 3) rfl ?_
    refine oIcF W0 (cd := .lt) (o := 9) (by decide +kernel) (XT.ii_lt_f (by decide)) (pc' := 6) rfl ?_
    refine oGo W0 [.iload_n 0, .bipush 90] (by decide +kernel) (ls' := #[sI 126]) (st' := [(.int 90), (.int 126)]) rfl rfl (pc' := 9) rfl ?_
    refine oIcF W0 (cd := .le) (o := 36) (by decide +kernel) (XT.ii_le_f (by decide)) (pc' := 12) rfl ?_
    refine oGo W0 [.iload_n 0, .bipush 97] (by decide +kernel) (ls' := #[sI 126]) (st' := [(.int 97), (.int 126)]) rfl rfl (pc' := 15) rfl ?_
    refine oIcF W0 (cd := .lt) (o := 9) (by decide +kernel) (XT.ii_lt_f (by decide)) (pc' := 18) rfl ?_
    refine oGo W0 [.iload_n 0, .bipush 122] (by decide +kernel) (ls' := #[sI 126]) (st' := [(.int 122), (.int 126)]) rfl rfl (pc' := 21) rfl ?_
    refine oIcF W0 (cd := .le) (o := 24) (by decide +kernel) (XT.ii_le_f (by decide)) (pc' := 24) rfl ?_
    refine oGo W0 [.iload_n 0, .bipush 48] (by decide +kernel) (ls' := #[sI 126]) (st' := [(.int 48), (.int 126)]) rfl rfl (pc' := 27) rfl ?_
    refine oIcF W0 (cd := .lt) (o := 9) (by decide +kernel) (XT.ii_lt_f (by decide)) (pc' := 30) rfl ?_
    refine oGo W0 [.iload_n 0, .bipush 57] (by decide +kernel) (ls' := #[sI 126]) (st' := [(.int 57), (.int 126)]) rfl rfl (pc' := 33) rfl ?_
    refine oIcF W0 (cd := .le) (o := 12) (by decide +kernel) (XT.ii_le_f (by decide)) (pc' := 36) rfl ?_
    obtain ⟨a5, b5, k5, T5, h5, vm5, W5, E5, C5, x5, c5, u5, A5, st5⟩ := oLdcC W0 (pc := 36) (ls := #[sI 126]) (st := []) (wK K 241 rfl) hS (by decide) (vs := (([46, 95, 126, 45] : List Int32).map fun c => Value.int c.toInt8.toInt32)) (z := 4) (by decide +kernel) (by decide) (by decide) (by decide +kernel) (n := 16) (lb rfl) (lb rfl) (lb rfl) (lb rfl)
    refine oLift st5 ?_
    have F5 : Str Z h5 a5 [46, 95, 126, 45] := ⟨b5, k5, x5, c5, u5, A5, by decide⟩
    refine oGo W5 [.iload_n 0] (by decide +kernel) (ls' := #[sI 126]) (st' := [(.int 126), (.ref a5)]) rfl rfl (pc' := 39) rfl ?_
    obtain ⟨v6, T6, L6, h6, vm6, W6, ⟨rfl, e6⟩, C6, st6⟩ := oCallV W5 (idx := 90) (pc := 39) (ls := #[sI 126]) (st := []) (argsL := [(.int 126)]) F5.exa (c_ix1 K F5 (by decide) (by decide) (by decide)) (fun x hx => nomatch hx) (wK K 242 rfl) (wK K 243 rfl) (notFace_of_selects (args := #[]) (mvT W5.warm (wK K 245 rfl))) (wK K 245 rfl) (wK K 244 rfl) (wK K 10 rfl) (wK K 246 rfl) (by decide) (na := 1) rfl (by decide +kernel) rfl (stk := [(.int 126), (.ref a5)]) rfl (by decide +kernel) (V := 0) (lb rfl) (lb rfl) (lb rfl) (lb rfl) (lb rfl)
    refine oLift st6 ?_
    rw [e6] at W6 C6
    show OG _ _ _ _ _ _ _ _ _ _ _ (mkF m 42 #[sI 126] [(.int (ixf [46, 95, 126, 45] (126 : Int32) 0))])
    refine oIfF W6 (cd := .lt) (o := 7) (by decide +kernel) (XT.i0_lt_f (by decide)) (pc' := 45) rfl ?_
    refine oGo W6 [.iconst 1, .goto 4] (by decide +kernel) (ls' := #[sI 126]) (st' := [(.int 1)]) rfl rfl (pc' := 50) rfl ?_
    exact oRetN (by simp) W6 rfl (by decide +kernel) (lb rfl) (lb rfl) (fun vm' hv => ⟨rfl, E5⟩)
  · refine oGo W0 [.iload_n 0, .bipush 65] (by decide +kernel) (ls' := #[sI 45]) (st' := [(.int 65), (.int 45)]) rfl rfl (pc' := 3) rfl ?_
    refine oIcT W0 (cd := .lt) (o := 9) (by decide +kernel) (XT.ii_lt_t (by decide)) (pc' := 12) (by decide) (by decide) ?_
    refine oGo W0 [.iload_n 0, .bipush 97] (by decide +kernel) (ls' := #[sI 45]) (st' := [(.int 97), (.int 45)]) rfl rfl (pc' := 15) rfl ?_
    refine oIcT W0 (cd := .lt) (o := 9) (by decide +kernel) (XT.ii_lt_t (by decide)) (pc' := 24) (by decide) (by decide) ?_
    refine oGo W0 [.iload_n 0, .bipush 48] (by decide +kernel) (ls' := #[sI 45]) (st' := [(.int 48), (.int 45)]) rfl rfl (pc' := 27) rfl ?_
    refine oIcT W0 (cd := .lt) (o := 9) (by decide +kernel) (XT.ii_lt_t (by decide)) (pc' := 36) (by decide) (by decide) ?_
    obtain ⟨a7, b7, k7, T7, h7, vm7, W7, E7, C7, x7, c7, u7, A7, st7⟩ := oLdcC W0 (pc := 36) (ls := #[sI 45]) (st := []) (wK K 241 rfl) hS (by decide) (vs := (([46, 95, 126, 45] : List Int32).map fun c => Value.int c.toInt8.toInt32)) (z := 4) (by decide +kernel) (by decide) (by decide) (by decide +kernel) (n := 16) (lb rfl) (lb rfl) (lb rfl) (lb rfl)
    refine oLift st7 ?_
    have F7 : Str Z h7 a7 [46, 95, 126, 45] := ⟨b7, k7, x7, c7, u7, A7, by decide⟩
    refine oGo W7 [.iload_n 0] (by decide +kernel) (ls' := #[sI 45]) (st' := [(.int 45), (.ref a7)]) rfl rfl (pc' := 39) rfl ?_
    obtain ⟨v8, T8, L8, h8, vm8, W8, ⟨rfl, e8⟩, C8, st8⟩ := oCallV W7 (idx := 90) (pc := 39) (ls := #[sI 45]) (st := []) (argsL := [(.int 45)]) F7.exa (c_ix1 K F7 (by decide) (by decide) (by decide)) (fun x hx => nomatch hx) (wK K 242 rfl) (wK K 243 rfl) (notFace_of_selects (args := #[]) (mvT W7.warm (wK K 245 rfl))) (wK K 245 rfl) (wK K 244 rfl) (wK K 10 rfl) (wK K 246 rfl) (by decide) (na := 1) rfl (by decide +kernel) rfl (stk := [(.int 45), (.ref a7)]) rfl (by decide +kernel) (V := 0) (lb rfl) (lb rfl) (lb rfl) (lb rfl) (lb rfl)
    refine oLift st8 ?_
    rw [e8] at W8 C8
    show OG _ _ _ _ _ _ _ _ _ _ _ (mkF m 42 #[sI 45] [(.int (ixf [46, 95, 126, 45] (45 : Int32) 0))])
    refine oIfF W8 (cd := .lt) (o := 7) (by decide +kernel) (XT.i0_lt_f (by decide)) (pc' := 45) rfl ?_
    refine oGo W8 [.iconst 1, .goto 4] (by decide +kernel) (ls' := #[sI 45]) (st' := [(.int 1)]) rfl rfl (pc' := 50) rfl ?_
    exact oRetN (by simp) W8 rfl (by decide +kernel) (lb rfl) (lb rfl) (fun vm' hv => ⟨rfl, E7⟩)
theorem Str.lo {Z : State} {h : Heap} {x : Addr} {cs : List Int32} (F : Str Z h x cs) : ∀ c ∈ cs, ¬ c < 0 ∧ ¬ (255 : Int32) < c := by obtain ⟨t, k, h1, h2, h3, h4, h5⟩ := F; exact h5
theorem EL_in : ∀ p ∈ EL, p ∈ consts_1 := by decide
theorem alw_lo {c : Int32} (h : Alw c) : ¬ c < 0 ∧ ¬ (255 : Int32) < c := by
  have k0 : (0 : Int32).toInt = 0 := rfl
  have k1 : (255 : Int32).toInt = 255 := rfl
  rw [Int32.lt_iff_toInt_lt, Int32.lt_iff_toInt_lt, k0, k1]
  rcases h with h | h | h | rfl | rfl | rfl | rfl
  · omega
  · omega
  · omega
  · decide
  · decide
  · decide
  · decide
theorem cat_take {ps cs : List Int32} {z : Value} (h : ps.length + cs.length ≤ 16) : (cpy (cpy (List.replicate 16 z) (byt ps) 0 0 ps.length) (byt cs) 0 (0 + ps.length) cs.length).take (0 + ps.length + cs.length) = byt (ps ++ cs) := by
  have e1 : (byt ps).length = ps.length := List.length_map ..
  have e2 : (byt cs).length = cs.length := List.length_map ..
  have t1 : (byt ps).take ps.length = byt ps := List.take_of_length_le (by rw [e1]; exact Nat.le_refl _)
  have t2 : (byt cs).take cs.length = byt cs := List.take_of_length_le (by rw [e2]; exact Nat.le_refl _)
  have q : ∀ ys : List Value, List.take ps.length (byt ps ++ ys) = byt ps := fun ys => by rw [List.take_append_of_le_length (by rw [e1]; exact Nat.le_refl _), t1]
  unfold cpy
  simp only [List.take_zero, List.nil_append, List.drop_zero, Nat.zero_add]
  rw [t1, t2, q, ← List.append_assoc, List.take_append_of_le_length (by rw [List.length_append, e1, e2]; exact Nat.le_refl _), List.take_of_length_le (by rw [List.length_append, e1, e2]; exact Nat.le_refl _)]
  exact (List.map_append ..).symm
abbrev rm_c_rnn : Room := { frames := 0, cells := 0, slots := 0, locals := 0 }
set_option maxRecDepth 65536 in
set_option maxHeartbeats 40000000 in
theorem c_rnn {l : Launch} {Z : State} {a0 : Array Value} {nb : Bool} (K : Ctx Z a0) {x y : Addr} {h0 : Heap} :
    OC l Z EL nb [] (⟨"java/util/Objects", "requireNonNull", "(Ljava/lang/Object;Ljava/lang/String;)Ljava/lang/Object;"⟩ : MethodName) jdk_31_method_11_code 2 (some (.object "java/lang/Object")) rm_c_rnn #[(.ref x), (.ref y)] h0 [] (fun v _ h => v = some (.ref x) ∧ h = h0) := by
  have hw := K.1
  have hS : ∀ a ∈ Bundle.stringAtoms, a.before a0 Z = true := K.2.2.1
  refine oEnter (by decide +kernel) K.2.1.2.1 ?_
  intro _p _e _s m _below _meth _c T0 W0 S0
  refine oEq (g' := mkF m 0 #[.val (.ref x), .val (.ref y)] []) (by first | (simp [entryFrame, mkF, argsToLocals, Value.category]; done) | rfl) ?_
  refine oGo W0 [.aload_n 0] (by decide +kernel) (ls' := #[sR x, sR y]) (st' := [(.ref x)]) rfl rfl (pc' := 1) rfl ?_
  refine oNnT W0 (o := 12) (by decide +kernel) (pc' := 13) (by decide) (by decide) ?_
  refine oGo W0 [.aload_n 0] (by decide +kernel) (ls' := #[sR x, sR y]) (st' := [(.ref x)]) rfl rfl (pc' := 14) rfl ?_
  exact oRetA rfl W0 rfl rfl (by decide +kernel) (lb rfl) (lb rfl) (fun vm' hv => ⟨rfl, rfl⟩)
abbrev rm_c_rec : Room := { frames := 1, cells := 0, slots := 0, locals := 12 }
set_option maxRecDepth 65536 in
set_option maxHeartbeats 40000000 in
theorem c_rec {l : Launch} {Z : State} {a0 : Array Value} {nb : Bool} (K : Ctx Z a0) {a : Addr} {h0 : Heap} :
    OC l Z EL nb [] (⟨"java/lang/Record", "<init>", "()V"⟩ : MethodName) jdk_30_method_1_code 1 none rm_c_rec #[(.ref a)] h0 [] (fun v _ h => v = none ∧ h = h0) := by
  have hw := K.1
  have hS : ∀ a ∈ Bundle.stringAtoms, a.before a0 Z = true := K.2.2.1
  refine oEnter (by decide +kernel) K.2.1.2.1 ?_
  intro _p _e _s m _below _meth _c T0 W0 S0
  refine oEq (g' := mkF m 0 #[.val (.ref a)] []) (by first | (simp [entryFrame, mkF, argsToLocals, Value.category]; done) | rfl) ?_
  refine oGo W0 [.aload_n 0] (by decide +kernel) (ls' := #[sR a]) (st' := [(.ref a)]) rfl rfl (pc' := 1) rfl ?_
  obtain ⟨T1, W1, st1⟩ := oInit W0 (idx := 1) (pc := 1) (ls := #[sR a]) (st := []) (a := a) (wK K 55 rfl) (wK K 20 rfl) (wK K 21 rfl) rfl (by decide +kernel) (lb rfl) (V := 0) (lb rfl) (lb rfl)
  refine oLift st1 ?_
  exact oRet0 W1 (by decide +kernel) (lb rfl) (lb rfl) (fun vm' hv => ⟨rfl, rfl⟩)
abbrev rm_c_cnv : Room := { frames := 0, cells := 0, slots := 0, locals := 0 }
set_option maxRecDepth 65536 in
set_option maxHeartbeats 40000000 in
theorem c_cnv {l : Launch} {Z : State} {a0 : Array Value} {nb : Bool} (K : Ctx Z a0) {a x : Addr} {h0 : Heap} (F : Fld Z h0 a "com/example/gentle_hub/gentlehub/core/ChannelName" "value" "Ljava/lang/String;" (.ref x)) :
    OC l Z EL nb [] (⟨"com/example/gentle_hub/gentlehub/core/ChannelName", "value", "()Ljava/lang/String;"⟩ : MethodName) prog_1_method_6_code 1 (some (.object "java/lang/String")) rm_c_cnv #[(.ref a)] h0 [] (fun v _ h => v = some (.ref x) ∧ h = h0) := by
  have hw := K.1
  have hS : ∀ a ∈ Bundle.stringAtoms, a.before a0 Z = true := K.2.2.1
  refine oEnter (by decide +kernel) K.2.1.2.1 ?_
  intro _p _e _s m _below _meth _c T0 W0 S0
  refine oEq (g' := mkF m 0 #[.val (.ref a)] []) (by first | (simp [entryFrame, mkF, argsToLocals, Value.category]; done) | rfl) ?_
  refine oGo W0 [.aload_n 0] (by decide +kernel) (ls' := #[sR a]) (st' := [(.ref a)]) rfl rfl (pc' := 1) rfl ?_
  obtain ⟨T1, W1, st1⟩ := oGetF W0 (pc := 1) (ls := #[sR a]) (st := []) (wK K 114 rfl) Via.refl F (by decide +kernel)
  refine oLift st1 ?_
  exact oRetA rfl W1 rfl rfl (by decide +kernel) (lb rfl) (lb rfl) (fun vm' hv => ⟨rfl, rfl⟩)
abbrev rm_c_cn1 : Room := { frames := 5, cells := 8, slots := 64, locals := 71 }
set_option maxRecDepth 65536 in
set_option maxHeartbeats 40000000 in
theorem c_cn1 {l : Launch} {Z : State} {a0 : Array Value} (K : Ctx Z a0) {a x : Addr} {c0 : Int32} {h0 : Heap} (F : Str Z h0 x [c0]) (q0 : Alw c0) (hn1 : ¬ c0 = 46) (hfr : Z.heap.size ≤ a) (X : Exa Z h0 a "com/example/gentle_hub/gentlehub/core/ChannelName") (Fb : Fld Z h0 a "com/example/gentle_hub/gentlehub/core/ChannelName" "value" "Ljava/lang/String;" .null) :
    OC l Z EL false [] (⟨"com/example/gentle_hub/gentlehub/core/ChannelName", "<init>", "(Ljava/lang/String;)V"⟩ : MethodName) prog_1_method_1_code 3 none rm_c_cn1 #[(.ref a), (.ref x)] h0 [] (fun v _ h => v = none ∧ Keep h0 h [a] ∧ Exa Z h a "com/example/gentle_hub/gentlehub/core/ChannelName" ∧ Fld Z h a "com/example/gentle_hub/gentlehub/core/ChannelName" "value" "Ljava/lang/String;" (.ref x)) := by
  have hw := K.1
  have hS : ∀ a ∈ Bundle.stringAtoms, a.before a0 Z = true := K.2.2.1
  have he := K.2.2.2.2
  refine oEnter (by decide +kernel) K.2.1.2.1 ?_
  intro _p _e _s m _below _meth _c T0 W0 S0
  refine oEq (g' := mkF m 0 #[.val (.ref a), .val (.ref x), .unset] []) (by first | (simp [entryFrame, mkF, argsToLocals, Value.category]; done) | rfl) ?_
  refine oGo W0 [.aload_n 0] (by decide +kernel) (ls' := #[sR a, sR x, sU]) (st' := [(.ref a)]) rfl rfl (pc' := 1) rfl ?_
  obtain ⟨v1, T1, L1, h1, vm1, W1, ⟨rfl, e1⟩, C1, st1⟩ := oCallN W0 (idx := 1) (pc := 1) (ls := #[sR a, sR x, sU]) (st := []) (a := a) (argsL := []) (c_rec K) (fun x hx => nomatch hx) rfl (wK K 50 rfl) (wK K 51 rfl) (wK K 53 rfl) (wK K 54 rfl) (by decide) (na := 0) rfl (by decide +kernel) rfl (stk := [(.ref a)]) rfl (by decide +kernel) (V := 0) (lb rfl) (lb rfl) (lb rfl) (lb rfl) (lb rfl)
  refine oLift st1 ?_
  rw [e1] at W1 C1
  show OG _ _ _ _ _ _ _ _ _ _ _ (mkF m 4 #[sR a, sR x, sU] [])
  refine oGo W1 [.aload_n 1] (by decide +kernel) (ls' := #[sR a, sR x, sU]) (st' := [(.ref x)]) rfl rfl (pc' := 5) rfl ?_
  obtain ⟨a2, T2, h2, vm2, W2, E2, C2, st2⟩ := oLdc W1 (pc := 5) (ls := #[sR a, sR x, sU]) (st := [(.ref x)]) (wK K 56 rfl) hS (by decide +kernel) (n := 20) (lb rfl) (lb rfl) (lb rfl) (lb rfl)
  refine oLift st2 ?_
  obtain ⟨v3, T3, L3, h3, vm3, W3, ⟨rfl, e3⟩, C3, st3⟩ := oCallS W2 (idx := 9) (pc := 7) (ls := #[sR a, sR x, sU]) (st := []) (argsL := [(.ref x), (.ref a2)]) (c_rnn K) (fun x hx => nomatch hx) (wK K 59 rfl) (wK K 60 rfl) (wK K 61 rfl) (wK K 62 rfl) (by decide) (na := 2) rfl (by decide +kernel) rfl (stk := [(.ref a2), (.ref x)]) rfl (by decide +kernel) (V := 0) (lb rfl) (lb rfl) (lb rfl) (lb rfl) (lb rfl)
  refine oLift st3 ?_
  rw [e3] at W3 C3
  show OG _ _ _ _ _ _ _ _ _ _ _ (mkF m 10 #[sR a, sR x, sU] [(.ref x)])
  refine oGo W3 [.pop, .aload_n 1] (by decide +kernel) (ls' := #[sR a, sR x, sU]) (st' := [(.ref x)]) rfl rfl (pc' := 12) rfl ?_
  obtain ⟨v4, T4, L4, h4, vm4, W4, ⟨rfl, e4⟩, C4, st4⟩ := oCallV W3 (idx := 15) (pc := 12) (ls := #[sR a, sR x, sU]) (st := []) (argsL := []) (F.exa.ext E2) (c_emp K (F.ext E2) (lb rfl)) (fun x hx => nomatch hx) (wK K 63 rfl) (wK K 64 rfl) (notFace_of_selects (args := #[]) (mvT W3.warm (wK K 66 rfl))) (wK K 66 rfl) (wK K 65 rfl) (wK K 10 rfl) (wK K 67 rfl) (by decide) (na := 0) rfl (by decide +kernel) rfl (stk := [(.ref x)]) rfl (by decide +kernel) (V := 0) (lb rfl) (lb rfl) (lb rfl) (lb rfl) (lb rfl)
  refine oLift st4 ?_
  rw [e4] at W4 C4
  show OG _ _ _ _ _ _ _ _ _ _ _ (mkF m 15 #[sR a, sR x, sU] [(.int (if ([c0] : List Int32) = [] then 1 else 0))])
  refine oIfT W4 (cd := .eq) (o := 13) (by decide +kernel) (XT.i0_eq_t (if_neg (by simp))) (pc' := 28) (by decide) (by decide) ?_
  refine oGo W4 [.aload_n 1] (by decide +kernel) (ls' := #[sR a, sR x, sU]) (st' := [(.ref x)]) rfl rfl (pc' := 29) rfl ?_
  obtain ⟨v5, T5, L5, h5, vm5, W5, ⟨rfl, e5⟩, C5, st5⟩ := oCallV W4 (idx := 28) (pc := 29) (ls := #[sR a, sR x, sU]) (st := []) (argsL := []) (F.exa.ext E2) (c_len K (F.ext E2)) (fun x hx => nomatch hx) (wK K 68 rfl) (wK K 69 rfl) (notFace_of_selects (args := #[]) (mvT W4.warm (wK K 71 rfl))) (wK K 71 rfl) (wK K 70 rfl) (wK K 10 rfl) (wK K 72 rfl) (by decide) (na := 0) rfl (by decide +kernel) rfl (stk := [(.ref x)]) rfl (by decide +kernel) (V := 0) (lb rfl) (lb rfl) (lb rfl) (lb rfl) (lb rfl)
  refine oLift st5 ?_
  rw [e5] at W5 C5
  show OG _ _ _ _ _ _ _ _ _ _ _ (mkF m 32 #[sR a, sR x, sU] [(.int 1)])
  refine oGo W5 [.sipush 255] (by decide +kernel) (ls' := #[sR a, sR x, sU]) (st' := [(.int 255), (.int 1)]) rfl rfl (pc' := 35) rfl ?_
  refine oIcT W5 (cd := .le) (o := 13) (by decide +kernel) (XT.ii_le_t (by decide)) (pc' := 48) (by decide) (by decide) ?_
  refine oGo W5 [.iconst 0, .istore_n 2, .iload_n 2, .aload_n 1] (by decide +kernel) (ls' := #[sR a, sR x, sI 0]) (st' := [(.ref x), (.int 0)]) rfl rfl (pc' := 52) rfl ?_
  obtain ⟨v6, T6, L6, h6, vm6, W6, ⟨rfl, e6⟩, C6, st6⟩ := oCallV W5 (idx := 28) (pc := 52) (ls := #[sR a, sR x, sI 0]) (st := [(.int 0)]) (argsL := []) (F.exa.ext E2) (c_len K (F.ext E2)) (fun x hx => nomatch hx) (wK K 68 rfl) (wK K 69 rfl) (notFace_of_selects (args := #[]) (mvT W5.warm (wK K 71 rfl))) (wK K 71 rfl) (wK K 70 rfl) (wK K 10 rfl) (wK K 72 rfl) (by decide) (na := 0) rfl (by decide +kernel) rfl (stk := [(.ref x), (.int 0)]) rfl (by decide +kernel) (V := 1) (lb rfl) (lb rfl) (lb rfl) (lb rfl) (lb rfl)
  refine oLift st6 ?_
  rw [e6] at W6 C6
  show OG _ _ _ _ _ _ _ _ _ _ _ (mkF m 55 #[sR a, sR x, sI 0] [(.int 1), (.int 0)])
  refine oIcF W6 (cd := .ge) (o := 57) (by decide +kernel) (XT.ii_ge_f (by decide)) (pc' := 58) rfl ?_
  refine oGo W6 [.aload_n 1, .iload_n 2] (by decide +kernel) (ls' := #[sR a, sR x, sI 0]) (st' := [(.int 0), (.ref x)]) rfl rfl (pc' := 60) rfl ?_
  obtain ⟨v7, T7, L7, h7, vm7, W7, ⟨rfl, e7⟩, C7, st7⟩ := oCallV W6 (idx := 36) (pc := 60) (ls := #[sR a, sR x, sI 0]) (st := []) (argsL := [(.int 0)]) (F.exa.ext E2) (c_chr K K.2.2.2.1 (F.ext E2) (lb rfl) (i := 0) (by decide) (c := c0) rfl) (fun x hx => nomatch hx) (wK K 78 rfl) (wK K 79 rfl) (notFace_of_selects (args := #[]) (mvT W6.warm (wK K 81 rfl))) (wK K 81 rfl) (wK K 80 rfl) (wK K 10 rfl) (wK K 82 rfl) (by decide) (na := 1) rfl (by decide +kernel) rfl (stk := [(.int 0), (.ref x)]) rfl (by decide +kernel) (V := 0) (lb rfl) (lb rfl) (lb rfl) (lb rfl) (lb rfl)
  refine oLift st7 ?_
  rw [e7] at W7 C7
  show OG _ _ _ _ _ _ _ _ _ _ _ (mkF m 63 #[sR a, sR x, sI 0] [(.int c0)])
  obtain ⟨v8, T8, L8, h8, vm8, W8, ⟨rfl, E8⟩, C8, st8⟩ := oCallS W7 (idx := 40) (pc := 63) (ls := #[sR a, sR x, sI 0]) (st := []) (argsL := [(.int c0)]) (c_isa K q0) (fun x hx => nomatch hx) (wK K 100 rfl) (wK K 101 rfl) (wK K 46 rfl) (wK K 102 rfl) (by decide) (na := 1) rfl (by decide +kernel) rfl (stk := [(.int c0)]) rfl (by decide +kernel) (V := 0) (lb rfl) (lb rfl) (lb rfl) (lb rfl) (lb rfl)
  refine oLift st8 ?_
  show OG _ _ _ _ _ _ _ _ _ _ _ (mkF m 66 #[sR a, sR x, sI 0] [(.int 1)])
  refine oIfT W8 (cd := .ne) (o := 40) (by decide +kernel) (XT.i0_ne_t (by decide)) (pc' := 106) (by decide) (by decide) ?_
  refine oGo W8 [.iinc 2 1, .goto (-59), .iload_n 2, .aload_n 1] (by decide +kernel) (ls' := #[sR a, sR x, sI 1]) (st' := [(.ref x), (.int 1)]) rfl rfl (pc' := 52) rfl ?_
  obtain ⟨v9, T9, L9, h9, vm9, W9, ⟨rfl, e9⟩, C9, st9⟩ := oCallV W8 (idx := 28) (pc := 52) (ls := #[sR a, sR x, sI 1]) (st := [(.int 1)]) (argsL := []) ((F.exa.ext E2).ext E8) (c_len K ((F.ext E2).ext E8)) (fun x hx => nomatch hx) (wK K 68 rfl) (wK K 69 rfl) (notFace_of_selects (args := #[]) (mvT W8.warm (wK K 71 rfl))) (wK K 71 rfl) (wK K 70 rfl) (wK K 10 rfl) (wK K 72 rfl) (by decide) (na := 0) rfl (by decide +kernel) rfl (stk := [(.ref x), (.int 1)]) rfl (by decide +kernel) (V := 1) (lb rfl) (lb rfl) (lb rfl) (lb rfl) (lb rfl)
  refine oLift st9 ?_
  rw [e9] at W9 C9
  show OG _ _ _ _ _ _ _ _ _ _ _ (mkF m 55 #[sR a, sR x, sI 1] [(.int 1), (.int 1)])
  refine oIcT W9 (cd := .ge) (o := 57) (by decide +kernel) (XT.ii_ge_t (by decide)) (pc' := 112) (by decide) (by decide) ?_
  refine oGo W9 [.aload_n 1] (by decide +kernel) (ls' := #[sR a, sR x, sI 1]) (st' := [(.ref x)]) rfl rfl (pc' := 113) rfl ?_
  obtain ⟨a10, b10, k10, T10, h10, vm10, W10, E10, C10, x10, c10, u10, A10, st10⟩ := oLdcC W9 (pc := 113) (ls := #[sR a, sR x, sI 1]) (st := [(.ref x)]) (wK K 103 rfl) hS (by decide) (vs := (([46] : List Int32).map fun c => Value.int c.toInt8.toInt32)) (z := 1) (by decide +kernel) (by decide) (by decide) (by decide +kernel) (n := 4) (lb rfl) (lb rfl) (lb rfl) (lb rfl)
  refine oLift st10 ?_
  have F10 : Str Z h10 a10 [46] := ⟨b10, k10, x10, c10, u10, A10, by decide⟩
  obtain ⟨v11, T11, L11, h11, vm11, W11, ⟨rfl, e11⟩, C11, st11⟩ := oCallV W10 (idx := 64) (pc := 115) (ls := #[sR a, sR x, sI 1]) (st := []) (argsL := [(.ref a10)]) (((F.exa.ext E2).ext E8).ext E10) (k_Eq K.2.1 he (lb rfl) (lb rfl) (((F.ext E2).ext E8).ext E10) F10) (fun x hx => nomatch hx) (wK K 104 rfl) (wK K 105 rfl) (notFace_of_selects (args := #[]) (mvT W10.warm (wK K 107 rfl))) (wK K 107 rfl) (wK K 106 rfl) (wK K 10 rfl) (wK K 108 rfl) (by decide) (na := 1) rfl (by decide +kernel) rfl (stk := [(.ref a10), (.ref x)]) rfl (by decide +kernel) (V := 0) (lb rfl) (lb rfl) (lb rfl) (lb rfl) (lb rfl)
  refine oLift st11 ?_
  rw [e11] at W11 C11
  show OG _ _ _ _ _ _ _ _ _ _ _ (mkF m 118 #[sR a, sR x, sI 1] [(.int (if ([c0] : List Int32) = [46] then 1 else 0))])
  refine oIfF W11 (cd := .ne) (o := 12) (by decide +kernel) (XT.i0_ne_f (if_neg (fun q => hn1 (by simpa using q)))) (pc' := 121) rfl ?_
  refine oGo W11 [.aload_n 1] (by decide +kernel) (ls' := #[sR a, sR x, sI 1]) (st' := [(.ref x)]) rfl rfl (pc' := 122) rfl ?_
  obtain ⟨a12, b12, k12, T12, h12, vm12, W12, E12, C12, x12, c12, u12, A12, st12⟩ := oLdcC W11 (pc := 122) (ls := #[sR a, sR x, sI 1]) (st := [(.ref x)]) (wK K 113 rfl) hS (by decide) (vs := (([46, 46] : List Int32).map fun c => Value.int c.toInt8.toInt32)) (z := 2) (by decide +kernel) (by decide) (by decide) (by decide +kernel) (n := 8) (lb rfl) (lb rfl) (lb rfl) (lb rfl)
  refine oLift st12 ?_
  have F12 : Str Z h12 a12 [46, 46] := ⟨b12, k12, x12, c12, u12, A12, by decide⟩
  obtain ⟨v13, T13, L13, h13, vm13, W13, ⟨rfl, e13⟩, C13, st13⟩ := oCallV W12 (idx := 64) (pc := 124) (ls := #[sR a, sR x, sI 1]) (st := []) (argsL := [(.ref a12)]) ((((F.exa.ext E2).ext E8).ext E10).ext E12) (k_Eq K.2.1 he (lb rfl) (lb rfl) ((((F.ext E2).ext E8).ext E10).ext E12) F12) (fun x hx => nomatch hx) (wK K 104 rfl) (wK K 105 rfl) (notFace_of_selects (args := #[]) (mvT W12.warm (wK K 107 rfl))) (wK K 107 rfl) (wK K 106 rfl) (wK K 10 rfl) (wK K 108 rfl) (by decide) (na := 1) rfl (by decide +kernel) rfl (stk := [(.ref a12), (.ref x)]) rfl (by decide +kernel) (V := 0) (lb rfl) (lb rfl) (lb rfl) (lb rfl) (lb rfl)
  refine oLift st13 ?_
  rw [e13] at W13 C13
  show OG _ _ _ _ _ _ _ _ _ _ _ (mkF m 127 #[sR a, sR x, sI 1] [(.int (if ([c0] : List Int32) = [46, 46] then 1 else 0))])
  refine oIfT W13 (cd := .eq) (o := 35) (by decide +kernel) (XT.i0_eq_t (if_neg (by simp))) (pc' := 162) (by decide) (by decide) ?_
  refine oGo W13 [.aload_n 0, .aload_n 1] (by decide +kernel) (ls' := #[sR a, sR x, sI 1]) (st' := [(.ref x), (.ref a)]) rfl rfl (pc' := 164) rfl ?_
  obtain ⟨T14, h14, W14, Wr14, F14, X14, C14, st14⟩ := oPutF W13 (idx := 85) (pc := 164) (ls := #[sR a, sR x, sI 1]) (st := []) (v := (.ref x)) (wK K 114 rfl) Via.refl ((((Fb.ext E2).ext E8).ext E10).ext E12) ((((X.ext E2).ext E8).ext E10).ext E12) (Or.inr ⟨(wK K 115 rfl), rfl, rfl⟩) (wK K 45 rfl) (ty := (.object "java/lang/String")) (by decide) rfl rfl hfr (Safe.exa W13.warm.alike ((((X.ext E2).ext E8).ext E10).ext E12) (by decide) (by decide)) (by decide +kernel)
  refine oLift st14 ?_
  exact oRet0 W14 (by decide +kernel) (lb rfl) (lb rfl) (fun vm' hv => ⟨rfl, ((((((Keep.refl _ [a]).ext E2).ext E8).ext E10).ext E12).wr Wr14 (Or.inl (List.mem_singleton.mpr rfl))), X14, F14⟩)
abbrev rm_c_cn2 : Room := { frames := 5, cells := 10, slots := 84, locals := 71 }
set_option maxRecDepth 65536 in
set_option maxHeartbeats 40000000 in
theorem c_cn2 {l : Launch} {Z : State} {a0 : Array Value} (K : Ctx Z a0) {a x : Addr} {c0 c1 : Int32} {h0 : Heap} (F : Str Z h0 x [c0, c1]) (q0 : Alw c0) (q1 : Alw c1) (hn2 : ¬ (c0 = 46 ∧ c1 = 46)) (hfr : Z.heap.size ≤ a) (X : Exa Z h0 a "com/example/gentle_hub/gentlehub/core/ChannelName") (Fb : Fld Z h0 a "com/example/gentle_hub/gentlehub/core/ChannelName" "value" "Ljava/lang/String;" .null) :
    OC l Z EL false [] (⟨"com/example/gentle_hub/gentlehub/core/ChannelName", "<init>", "(Ljava/lang/String;)V"⟩ : MethodName) prog_1_method_1_code 3 none rm_c_cn2 #[(.ref a), (.ref x)] h0 [] (fun v _ h => v = none ∧ Keep h0 h [a] ∧ Exa Z h a "com/example/gentle_hub/gentlehub/core/ChannelName" ∧ Fld Z h a "com/example/gentle_hub/gentlehub/core/ChannelName" "value" "Ljava/lang/String;" (.ref x)) := by
  have hw := K.1
  have hS : ∀ a ∈ Bundle.stringAtoms, a.before a0 Z = true := K.2.2.1
  have he := K.2.2.2.2
  refine oEnter (by decide +kernel) K.2.1.2.1 ?_
  intro _p _e _s m _below _meth _c T0 W0 S0
  refine oEq (g' := mkF m 0 #[.val (.ref a), .val (.ref x), .unset] []) (by first | (simp [entryFrame, mkF, argsToLocals, Value.category]; done) | rfl) ?_
  refine oGo W0 [.aload_n 0] (by decide +kernel) (ls' := #[sR a, sR x, sU]) (st' := [(.ref a)]) rfl rfl (pc' := 1) rfl ?_
  obtain ⟨v1, T1, L1, h1, vm1, W1, ⟨rfl, e1⟩, C1, st1⟩ := oCallN W0 (idx := 1) (pc := 1) (ls := #[sR a, sR x, sU]) (st := []) (a := a) (argsL := []) (c_rec K) (fun x hx => nomatch hx) rfl (wK K 50 rfl) (wK K 51 rfl) (wK K 53 rfl) (wK K 54 rfl) (by decide) (na := 0) rfl (by decide +kernel) rfl (stk := [(.ref a)]) rfl (by decide +kernel) (V := 0) (lb rfl) (lb rfl) (lb rfl) (lb rfl) (lb rfl)
  refine oLift st1 ?_
  rw [e1] at W1 C1
  show OG _ _ _ _ _ _ _ _ _ _ _ (mkF m 4 #[sR a, sR x, sU] [])
  refine oGo W1 [.aload_n 1] (by decide +kernel) (ls' := #[sR a, sR x, sU]) (st' := [(.ref x)]) rfl rfl (pc' := 5) rfl ?_
  obtain ⟨a2, T2, h2, vm2, W2, E2, C2, st2⟩ := oLdc W1 (pc := 5) (ls := #[sR a, sR x, sU]) (st := [(.ref x)]) (wK K 56 rfl) hS (by decide +kernel) (n := 20) (lb rfl) (lb rfl) (lb rfl) (lb rfl)
  refine oLift st2 ?_
  obtain ⟨v3, T3, L3, h3, vm3, W3, ⟨rfl, e3⟩, C3, st3⟩ := oCallS W2 (idx := 9) (pc := 7) (ls := #[sR a, sR x, sU]) (st := []) (argsL := [(.ref x), (.ref a2)]) (c_rnn K) (fun x hx => nomatch hx) (wK K 59 rfl) (wK K 60 rfl) (wK K 61 rfl) (wK K 62 rfl) (by decide) (na := 2) rfl (by decide +kernel) rfl (stk := [(.ref a2), (.ref x)]) rfl (by decide +kernel) (V := 0) (lb rfl) (lb rfl) (lb rfl) (lb rfl) (lb rfl)
  refine oLift st3 ?_
  rw [e3] at W3 C3
  show OG _ _ _ _ _ _ _ _ _ _ _ (mkF m 10 #[sR a, sR x, sU] [(.ref x)])
  refine oGo W3 [.pop, .aload_n 1] (by decide +kernel) (ls' := #[sR a, sR x, sU]) (st' := [(.ref x)]) rfl rfl (pc' := 12) rfl ?_
  obtain ⟨v4, T4, L4, h4, vm4, W4, ⟨rfl, e4⟩, C4, st4⟩ := oCallV W3 (idx := 15) (pc := 12) (ls := #[sR a, sR x, sU]) (st := []) (argsL := []) (F.exa.ext E2) (c_emp K (F.ext E2) (lb rfl)) (fun x hx => nomatch hx) (wK K 63 rfl) (wK K 64 rfl) (notFace_of_selects (args := #[]) (mvT W3.warm (wK K 66 rfl))) (wK K 66 rfl) (wK K 65 rfl) (wK K 10 rfl) (wK K 67 rfl) (by decide) (na := 0) rfl (by decide +kernel) rfl (stk := [(.ref x)]) rfl (by decide +kernel) (V := 0) (lb rfl) (lb rfl) (lb rfl) (lb rfl) (lb rfl)
  refine oLift st4 ?_
  rw [e4] at W4 C4
  show OG _ _ _ _ _ _ _ _ _ _ _ (mkF m 15 #[sR a, sR x, sU] [(.int (if ([c0, c1] : List Int32) = [] then 1 else 0))])
  refine oIfT W4 (cd := .eq) (o := 13) (by decide +kernel) (XT.i0_eq_t (if_neg (by simp))) (pc' := 28) (by decide) (by decide) ?_
  refine oGo W4 [.aload_n 1] (by decide +kernel) (ls' := #[sR a, sR x, sU]) (st' := [(.ref x)]) rfl rfl (pc' := 29) rfl ?_
  obtain ⟨v5, T5, L5, h5, vm5, W5, ⟨rfl, e5⟩, C5, st5⟩ := oCallV W4 (idx := 28) (pc := 29) (ls := #[sR a, sR x, sU]) (st := []) (argsL := []) (F.exa.ext E2) (c_len K (F.ext E2)) (fun x hx => nomatch hx) (wK K 68 rfl) (wK K 69 rfl) (notFace_of_selects (args := #[]) (mvT W4.warm (wK K 71 rfl))) (wK K 71 rfl) (wK K 70 rfl) (wK K 10 rfl) (wK K 72 rfl) (by decide) (na := 0) rfl (by decide +kernel) rfl (stk := [(.ref x)]) rfl (by decide +kernel) (V := 0) (lb rfl) (lb rfl) (lb rfl) (lb rfl) (lb rfl)
  refine oLift st5 ?_
  rw [e5] at W5 C5
  show OG _ _ _ _ _ _ _ _ _ _ _ (mkF m 32 #[sR a, sR x, sU] [(.int 2)])
  refine oGo W5 [.sipush 255] (by decide +kernel) (ls' := #[sR a, sR x, sU]) (st' := [(.int 255), (.int 2)]) rfl rfl (pc' := 35) rfl ?_
  refine oIcT W5 (cd := .le) (o := 13) (by decide +kernel) (XT.ii_le_t (by decide)) (pc' := 48) (by decide) (by decide) ?_
  refine oGo W5 [.iconst 0, .istore_n 2, .iload_n 2, .aload_n 1] (by decide +kernel) (ls' := #[sR a, sR x, sI 0]) (st' := [(.ref x), (.int 0)]) rfl rfl (pc' := 52) rfl ?_
  obtain ⟨v6, T6, L6, h6, vm6, W6, ⟨rfl, e6⟩, C6, st6⟩ := oCallV W5 (idx := 28) (pc := 52) (ls := #[sR a, sR x, sI 0]) (st := [(.int 0)]) (argsL := []) (F.exa.ext E2) (c_len K (F.ext E2)) (fun x hx => nomatch hx) (wK K 68 rfl) (wK K 69 rfl) (notFace_of_selects (args := #[]) (mvT W5.warm (wK K 71 rfl))) (wK K 71 rfl) (wK K 70 rfl) (wK K 10 rfl) (wK K 72 rfl) (by decide) (na := 0) rfl (by decide +kernel) rfl (stk := [(.ref x), (.int 0)]) rfl (by decide +kernel) (V := 1) (lb rfl) (lb rfl) (lb rfl) (lb rfl) (lb rfl)
  refine oLift st6 ?_
  rw [e6] at W6 C6
  show OG _ _ _ _ _ _ _ _ _ _ _ (mkF m 55 #[sR a, sR x, sI 0] [(.int 2), (.int 0)])
  refine oIcF W6 (cd := .ge) (o := 57) (by decide +kernel) (XT.ii_ge_f (by decide)) (pc' := 58) rfl ?_
  refine oGo W6 [.aload_n 1, .iload_n 2] (by decide +kernel) (ls' := #[sR a, sR x, sI 0]) (st' := [(.int 0), (.ref x)]) rfl rfl (pc' := 60) rfl ?_
  obtain ⟨v7, T7, L7, h7, vm7, W7, ⟨rfl, e7⟩, C7, st7⟩ := oCallV W6 (idx := 36) (pc := 60) (ls := #[sR a, sR x, sI 0]) (st := []) (argsL := [(.int 0)]) (F.exa.ext E2) (c_chr K K.2.2.2.1 (F.ext E2) (lb rfl) (i := 0) (by decide) (c := c0) rfl) (fun x hx => nomatch hx) (wK K 78 rfl) (wK K 79 rfl) (notFace_of_selects (args := #[]) (mvT W6.warm (wK K 81 rfl))) (wK K 81 rfl) (wK K 80 rfl) (wK K 10 rfl) (wK K 82 rfl) (by decide) (na := 1) rfl (by decide +kernel) rfl (stk := [(.int 0), (.ref x)]) rfl (by decide +kernel) (V := 0) (lb rfl) (lb rfl) (lb rfl) (lb rfl) (lb rfl)
  refine oLift st7 ?_
  rw [e7] at W7 C7
  show OG _ _ _ _ _ _ _ _ _ _ _ (mkF m 63 #[sR a, sR x, sI 0] [(.int c0)])
  obtain ⟨v8, T8, L8, h8, vm8, W8, ⟨rfl, E8⟩, C8, st8⟩ := oCallS W7 (idx := 40) (pc := 63) (ls := #[sR a, sR x, sI 0]) (st := []) (argsL := [(.int c0)]) (c_isa K q0) (fun x hx => nomatch hx) (wK K 100 rfl) (wK K 101 rfl) (wK K 46 rfl) (wK K 102 rfl) (by decide) (na := 1) rfl (by decide +kernel) rfl (stk := [(.int c0)]) rfl (by decide +kernel) (V := 0) (lb rfl) (lb rfl) (lb rfl) (lb rfl) (lb rfl)
  refine oLift st8 ?_
  show OG _ _ _ _ _ _ _ _ _ _ _ (mkF m 66 #[sR a, sR x, sI 0] [(.int 1)])
  refine oIfT W8 (cd := .ne) (o := 40) (by decide +kernel) (XT.i0_ne_t (by decide)) (pc' := 106) (by decide) (by decide) ?_
  refine oGo W8 [.iinc 2 1, .goto (-59), .iload_n 2, .aload_n 1] (by decide +kernel) (ls' := #[sR a, sR x, sI 1]) (st' := [(.ref x), (.int 1)]) rfl rfl (pc' := 52) rfl ?_
  obtain ⟨v9, T9, L9, h9, vm9, W9, ⟨rfl, e9⟩, C9, st9⟩ := oCallV W8 (idx := 28) (pc := 52) (ls := #[sR a, sR x, sI 1]) (st := [(.int 1)]) (argsL := []) ((F.exa.ext E2).ext E8) (c_len K ((F.ext E2).ext E8)) (fun x hx => nomatch hx) (wK K 68 rfl) (wK K 69 rfl) (notFace_of_selects (args := #[]) (mvT W8.warm (wK K 71 rfl))) (wK K 71 rfl) (wK K 70 rfl) (wK K 10 rfl) (wK K 72 rfl) (by decide) (na := 0) rfl (by decide +kernel) rfl (stk := [(.ref x), (.int 1)]) rfl (by decide +kernel) (V := 1) (lb rfl) (lb rfl) (lb rfl) (lb rfl) (lb rfl)
  refine oLift st9 ?_
  rw [e9] at W9 C9
  show OG _ _ _ _ _ _ _ _ _ _ _ (mkF m 55 #[sR a, sR x, sI 1] [(.int 2), (.int 1)])
  refine oIcF W9 (cd := .ge) (o := 57) (by decide +kernel) (XT.ii_ge_f (by decide)) (pc' := 58) rfl ?_
  refine oGo W9 [.aload_n 1, .iload_n 2] (by decide +kernel) (ls' := #[sR a, sR x, sI 1]) (st' := [(.int 1), (.ref x)]) rfl rfl (pc' := 60) rfl ?_
  obtain ⟨v10, T10, L10, h10, vm10, W10, ⟨rfl, e10⟩, C10, st10⟩ := oCallV W9 (idx := 36) (pc := 60) (ls := #[sR a, sR x, sI 1]) (st := []) (argsL := [(.int 1)]) ((F.exa.ext E2).ext E8) (c_chr K K.2.2.2.1 ((F.ext E2).ext E8) (lb rfl) (i := 1) (by decide) (c := c1) rfl) (fun x hx => nomatch hx) (wK K 78 rfl) (wK K 79 rfl) (notFace_of_selects (args := #[]) (mvT W9.warm (wK K 81 rfl))) (wK K 81 rfl) (wK K 80 rfl) (wK K 10 rfl) (wK K 82 rfl) (by decide) (na := 1) rfl (by decide +kernel) rfl (stk := [(.int 1), (.ref x)]) rfl (by decide +kernel) (V := 0) (lb rfl) (lb rfl) (lb rfl) (lb rfl) (lb rfl)
  refine oLift st10 ?_
  rw [e10] at W10 C10
  show OG _ _ _ _ _ _ _ _ _ _ _ (mkF m 63 #[sR a, sR x, sI 1] [(.int c1)])
  obtain ⟨v11, T11, L11, h11, vm11, W11, ⟨rfl, E11⟩, C11, st11⟩ := oCallS W10 (idx := 40) (pc := 63) (ls := #[sR a, sR x, sI 1]) (st := []) (argsL := [(.int c1)]) (c_isa K q1) (fun x hx => nomatch hx) (wK K 100 rfl) (wK K 101 rfl) (wK K 46 rfl) (wK K 102 rfl) (by decide) (na := 1) rfl (by decide +kernel) rfl (stk := [(.int c1)]) rfl (by decide +kernel) (V := 0) (lb rfl) (lb rfl) (lb rfl) (lb rfl) (lb rfl)
  refine oLift st11 ?_
  show OG _ _ _ _ _ _ _ _ _ _ _ (mkF m 66 #[sR a, sR x, sI 1] [(.int 1)])
  refine oIfT W11 (cd := .ne) (o := 40) (by decide +kernel) (XT.i0_ne_t (by decide)) (pc' := 106) (by decide) (by decide) ?_
  refine oGo W11 [.iinc 2 1, .goto (-59), .iload_n 2, .aload_n 1] (by decide +kernel) (ls' := #[sR a, sR x, sI 2]) (st' := [(.ref x), (.int 2)]) rfl rfl (pc' := 52) rfl ?_
  obtain ⟨v12, T12, L12, h12, vm12, W12, ⟨rfl, e12⟩, C12, st12⟩ := oCallV W11 (idx := 28) (pc := 52) (ls := #[sR a, sR x, sI 2]) (st := [(.int 2)]) (argsL := []) (((F.exa.ext E2).ext E8).ext E11) (c_len K (((F.ext E2).ext E8).ext E11)) (fun x hx => nomatch hx) (wK K 68 rfl) (wK K 69 rfl) (notFace_of_selects (args := #[]) (mvT W11.warm (wK K 71 rfl))) (wK K 71 rfl) (wK K 70 rfl) (wK K 10 rfl) (wK K 72 rfl) (by decide) (na := 0) rfl (by decide +kernel) rfl (stk := [(.ref x), (.int 2)]) rfl (by decide +kernel) (V := 1) (lb rfl) (lb rfl) (lb rfl) (lb rfl) (lb rfl)
  refine oLift st12 ?_
  rw [e12] at W12 C12
  show OG _ _ _ _ _ _ _ _ _ _ _ (mkF m 55 #[sR a, sR x, sI 2] [(.int 2), (.int 2)])
  refine oIcT W12 (cd := .ge) (o := 57) (by decide +kernel) (XT.ii_ge_t (by decide)) (pc' := 112) (by decide) (by decide) ?_
  refine oGo W12 [.aload_n 1] (by decide +kernel) (ls' := #[sR a, sR x, sI 2]) (st' := [(.ref x)]) rfl rfl (pc' := 113) rfl ?_
  obtain ⟨a13, b13, k13, T13, h13, vm13, W13, E13, C13, x13, c13, u13, A13, st13⟩ := oLdcC W12 (pc := 113) (ls := #[sR a, sR x, sI 2]) (st := [(.ref x)]) (wK K 103 rfl) hS (by decide) (vs := (([46] : List Int32).map fun c => Value.int c.toInt8.toInt32)) (z := 1) (by decide +kernel) (by decide) (by decide) (by decide +kernel) (n := 4) (lb rfl) (lb rfl) (lb rfl) (lb rfl)
  refine oLift st13 ?_
  have F13 : Str Z h13 a13 [46] := ⟨b13, k13, x13, c13, u13, A13, by decide⟩
  obtain ⟨v14, T14, L14, h14, vm14, W14, ⟨rfl, e14⟩, C14, st14⟩ := oCallV W13 (idx := 64) (pc := 115) (ls := #[sR a, sR x, sI 2]) (st := []) (argsL := [(.ref a13)]) ((((F.exa.ext E2).ext E8).ext E11).ext E13) (k_Eq K.2.1 he (lb rfl) (lb rfl) ((((F.ext E2).ext E8).ext E11).ext E13) F13) (fun x hx => nomatch hx) (wK K 104 rfl) (wK K 105 rfl) (notFace_of_selects (args := #[]) (mvT W13.warm (wK K 107 rfl))) (wK K 107 rfl) (wK K 106 rfl) (wK K 10 rfl) (wK K 108 rfl) (by decide) (na := 1) rfl (by decide +kernel) rfl (stk := [(.ref a13), (.ref x)]) rfl (by decide +kernel) (V := 0) (lb rfl) (lb rfl) (lb rfl) (lb rfl) (lb rfl)
  refine oLift st14 ?_
  rw [e14] at W14 C14
  show OG _ _ _ _ _ _ _ _ _ _ _ (mkF m 118 #[sR a, sR x, sI 2] [(.int (if ([c0, c1] : List Int32) = [46] then 1 else 0))])
  refine oIfF W14 (cd := .ne) (o := 12) (by decide +kernel) (XT.i0_ne_f (if_neg (by simp))) (pc' := 121) rfl ?_
  refine oGo W14 [.aload_n 1] (by decide +kernel) (ls' := #[sR a, sR x, sI 2]) (st' := [(.ref x)]) rfl rfl (pc' := 122) rfl ?_
  obtain ⟨a15, b15, k15, T15, h15, vm15, W15, E15, C15, x15, c15, u15, A15, st15⟩ := oLdcC W14 (pc := 122) (ls := #[sR a, sR x, sI 2]) (st := [(.ref x)]) (wK K 113 rfl) hS (by decide) (vs := (([46, 46] : List Int32).map fun c => Value.int c.toInt8.toInt32)) (z := 2) (by decide +kernel) (by decide) (by decide) (by decide +kernel) (n := 8) (lb rfl) (lb rfl) (lb rfl) (lb rfl)
  refine oLift st15 ?_
  have F15 : Str Z h15 a15 [46, 46] := ⟨b15, k15, x15, c15, u15, A15, by decide⟩
  obtain ⟨v16, T16, L16, h16, vm16, W16, ⟨rfl, e16⟩, C16, st16⟩ := oCallV W15 (idx := 64) (pc := 124) (ls := #[sR a, sR x, sI 2]) (st := []) (argsL := [(.ref a15)]) (((((F.exa.ext E2).ext E8).ext E11).ext E13).ext E15) (k_Eq K.2.1 he (lb rfl) (lb rfl) (((((F.ext E2).ext E8).ext E11).ext E13).ext E15) F15) (fun x hx => nomatch hx) (wK K 104 rfl) (wK K 105 rfl) (notFace_of_selects (args := #[]) (mvT W15.warm (wK K 107 rfl))) (wK K 107 rfl) (wK K 106 rfl) (wK K 10 rfl) (wK K 108 rfl) (by decide) (na := 1) rfl (by decide +kernel) rfl (stk := [(.ref a15), (.ref x)]) rfl (by decide +kernel) (V := 0) (lb rfl) (lb rfl) (lb rfl) (lb rfl) (lb rfl)
  refine oLift st16 ?_
  rw [e16] at W16 C16
  show OG _ _ _ _ _ _ _ _ _ _ _ (mkF m 127 #[sR a, sR x, sI 2] [(.int (if ([c0, c1] : List Int32) = [46, 46] then 1 else 0))])
  refine oIfT W16 (cd := .eq) (o := 35) (by decide +kernel) (XT.i0_eq_t (if_neg (fun q => hn2 (by simpa using q)))) (pc' := 162) (by decide) (by decide) ?_
  refine oGo W16 [.aload_n 0, .aload_n 1] (by decide +kernel) (ls' := #[sR a, sR x, sI 2]) (st' := [(.ref x), (.ref a)]) rfl rfl (pc' := 164) rfl ?_
  obtain ⟨T17, h17, W17, Wr17, F17, X17, C17, st17⟩ := oPutF W16 (idx := 85) (pc := 164) (ls := #[sR a, sR x, sI 2]) (st := []) (v := (.ref x)) (wK K 114 rfl) Via.refl (((((Fb.ext E2).ext E8).ext E11).ext E13).ext E15) (((((X.ext E2).ext E8).ext E11).ext E13).ext E15) (Or.inr ⟨(wK K 115 rfl), rfl, rfl⟩) (wK K 45 rfl) (ty := (.object "java/lang/String")) (by decide) rfl rfl hfr (Safe.exa W16.warm.alike (((((X.ext E2).ext E8).ext E11).ext E13).ext E15) (by decide) (by decide)) (by decide +kernel)
  refine oLift st17 ?_
  exact oRet0 W17 (by decide +kernel) (lb rfl) (lb rfl) (fun vm' hv => ⟨rfl, (((((((Keep.refl _ [a]).ext E2).ext E8).ext E11).ext E13).ext E15).wr Wr17 (Or.inl (List.mem_singleton.mpr rfl))), X17, F17⟩)
abbrev rm_c_cn3 : Room := { frames := 5, cells := 12, slots := 104, locals := 71 }
set_option maxRecDepth 65536 in
set_option maxHeartbeats 40000000 in
theorem c_cn3 {l : Launch} {Z : State} {a0 : Array Value} (K : Ctx Z a0) {a x : Addr} {c0 c1 c2 : Int32} {h0 : Heap} (F : Str Z h0 x [c0, c1, c2]) (q0 : Alw c0) (q1 : Alw c1) (q2 : Alw c2) (hfr : Z.heap.size ≤ a) (X : Exa Z h0 a "com/example/gentle_hub/gentlehub/core/ChannelName") (Fb : Fld Z h0 a "com/example/gentle_hub/gentlehub/core/ChannelName" "value" "Ljava/lang/String;" .null) :
    OC l Z EL false [] (⟨"com/example/gentle_hub/gentlehub/core/ChannelName", "<init>", "(Ljava/lang/String;)V"⟩ : MethodName) prog_1_method_1_code 3 none rm_c_cn3 #[(.ref a), (.ref x)] h0 [] (fun v _ h => v = none ∧ Keep h0 h [a] ∧ Exa Z h a "com/example/gentle_hub/gentlehub/core/ChannelName" ∧ Fld Z h a "com/example/gentle_hub/gentlehub/core/ChannelName" "value" "Ljava/lang/String;" (.ref x)) := by
  have hw := K.1
  have hS : ∀ a ∈ Bundle.stringAtoms, a.before a0 Z = true := K.2.2.1
  have he := K.2.2.2.2
  refine oEnter (by decide +kernel) K.2.1.2.1 ?_
  intro _p _e _s m _below _meth _c T0 W0 S0
  refine oEq (g' := mkF m 0 #[.val (.ref a), .val (.ref x), .unset] []) (by first | (simp [entryFrame, mkF, argsToLocals, Value.category]; done) | rfl) ?_
  refine oGo W0 [.aload_n 0] (by decide +kernel) (ls' := #[sR a, sR x, sU]) (st' := [(.ref a)]) rfl rfl (pc' := 1) rfl ?_
  obtain ⟨v1, T1, L1, h1, vm1, W1, ⟨rfl, e1⟩, C1, st1⟩ := oCallN W0 (idx := 1) (pc := 1) (ls := #[sR a, sR x, sU]) (st := []) (a := a) (argsL := []) (c_rec K) (fun x hx => nomatch hx) rfl (wK K 50 rfl) (wK K 51 rfl) (wK K 53 rfl) (wK K 54 rfl) (by decide) (na := 0) rfl (by decide +kernel) rfl (stk := [(.ref a)]) rfl (by decide +kernel) (V := 0) (lb rfl) (lb rfl) (lb rfl) (lb rfl) (lb rfl)
  refine oLift st1 ?_
  rw [e1] at W1 C1
  show OG _ _ _ _ _ _ _ _ _ _ _ (mkF m 4 #[sR a, sR x, sU] [])
  refine oGo W1 [.aload_n 1] (by decide +kernel) (ls' := #[sR a, sR x, sU]) (st' := [(.ref x)]) rfl rfl (pc' := 5) rfl ?_
  obtain ⟨a2, T2, h2, vm2, W2, E2, C2, st2⟩ := oLdc W1 (pc := 5) (ls := #[sR a, sR x, sU]) (st := [(.ref x)]) (wK K 56 rfl) hS (by decide +kernel) (n := 20) (lb rfl) (lb rfl) (lb rfl) (lb rfl)
  refine oLift st2 ?_
  obtain ⟨v3, T3, L3, h3, vm3, W3, ⟨rfl, e3⟩, C3, st3⟩ := oCallS W2 (idx := 9) (pc := 7) (ls := #[sR a, sR x, sU]) (st := []) (argsL := [(.ref x), (.ref a2)]) (c_rnn K) (fun x hx => nomatch hx) (wK K 59 rfl) (wK K 60 rfl) (wK K 61 rfl) (wK K 62 rfl) (by decide) (na := 2) rfl (by decide +kernel) rfl (stk := [(.ref a2), (.ref x)]) rfl (by decide +kernel) (V := 0) (lb rfl) (lb rfl) (lb rfl) (lb rfl) (lb rfl)
  refine oLift st3 ?_
  rw [e3] at W3 C3
  show OG _ _ _ _ _ _ _ _ _ _ _ (mkF m 10 #[sR a, sR x, sU] [(.ref x)])
  refine oGo W3 [.pop, .aload_n 1] (by decide +kernel) (ls' := #[sR a, sR x, sU]) (st' := [(.ref x)]) rfl rfl (pc' := 12) rfl ?_
  obtain ⟨v4, T4, L4, h4, vm4, W4, ⟨rfl, e4⟩, C4, st4⟩ := oCallV W3 (idx := 15) (pc := 12) (ls := #[sR a, sR x, sU]) (st := []) (argsL := []) (F.exa.ext E2) (c_emp K (F.ext E2) (lb rfl)) (fun x hx => nomatch hx) (wK K 63 rfl) (wK K 64 rfl) (notFace_of_selects (args := #[]) (mvT W3.warm (wK K 66 rfl))) (wK K 66 rfl) (wK K 65 rfl) (wK K 10 rfl) (wK K 67 rfl) (by decide) (na := 0) rfl (by decide +kernel) rfl (stk := [(.ref x)]) rfl (by decide +kernel) (V := 0) (lb rfl) (lb rfl) (lb rfl) (lb rfl) (lb rfl)
  refine oLift st4 ?_
  rw [e4] at W4 C4
  show OG _ _ _ _ _ _ _ _ _ _ _ (mkF m 15 #[sR a, sR x, sU] [(.int (if ([c0, c1, c2] : List Int32) = [] then 1 else 0))])
  refine oIfT W4 (cd := .eq) (o := 13) (by decide +kernel) (XT.i0_eq_t (if_neg (by simp))) (pc' := 28) (by decide) (by decide) ?_
  refine oGo W4 [.aload_n 1] (by decide +kernel) (ls' := #[sR a, sR x, sU]) (st' := [(.ref x)]) rfl rfl (pc' := 29) rfl ?_
  obtain ⟨v5, T5, L5, h5, vm5, W5, ⟨rfl, e5⟩, C5, st5⟩ := oCallV W4 (idx := 28) (pc := 29) (ls := #[sR a, sR x, sU]) (st := []) (argsL := []) (F.exa.ext E2) (c_len K (F.ext E2)) (fun x hx => nomatch hx) (wK K 68 rfl) (wK K 69 rfl) (notFace_of_selects (args := #[]) (mvT W4.warm (wK K 71 rfl))) (wK K 71 rfl) (wK K 70 rfl) (wK K 10 rfl) (wK K 72 rfl) (by decide) (na := 0) rfl (by decide +kernel) rfl (stk := [(.ref x)]) rfl (by decide +kernel) (V := 0) (lb rfl) (lb rfl) (lb rfl) (lb rfl) (lb rfl)
  refine oLift st5 ?_
  rw [e5] at W5 C5
  show OG _ _ _ _ _ _ _ _ _ _ _ (mkF m 32 #[sR a, sR x, sU] [(.int 3)])
  refine oGo W5 [.sipush 255] (by decide +kernel) (ls' := #[sR a, sR x, sU]) (st' := [(.int 255), (.int 3)]) rfl rfl (pc' := 35) rfl ?_
  refine oIcT W5 (cd := .le) (o := 13) (by decide +kernel) (XT.ii_le_t (by decide)) (pc' := 48) (by decide) (by decide) ?_
  refine oGo W5 [.iconst 0, .istore_n 2, .iload_n 2, .aload_n 1] (by decide +kernel) (ls' := #[sR a, sR x, sI 0]) (st' := [(.ref x), (.int 0)]) rfl rfl (pc' := 52) rfl ?_
  obtain ⟨v6, T6, L6, h6, vm6, W6, ⟨rfl, e6⟩, C6, st6⟩ := oCallV W5 (idx := 28) (pc := 52) (ls := #[sR a, sR x, sI 0]) (st := [(.int 0)]) (argsL := []) (F.exa.ext E2) (c_len K (F.ext E2)) (fun x hx => nomatch hx) (wK K 68 rfl) (wK K 69 rfl) (notFace_of_selects (args := #[]) (mvT W5.warm (wK K 71 rfl))) (wK K 71 rfl) (wK K 70 rfl) (wK K 10 rfl) (wK K 72 rfl) (by decide) (na := 0) rfl (by decide +kernel) rfl (stk := [(.ref x), (.int 0)]) rfl (by decide +kernel) (V := 1) (lb rfl) (lb rfl) (lb rfl) (lb rfl) (lb rfl)
  refine oLift st6 ?_
  rw [e6] at W6 C6
  show OG _ _ _ _ _ _ _ _ _ _ _ (mkF m 55 #[sR a, sR x, sI 0] [(.int 3), (.int 0)])
  refine oIcF W6 (cd := .ge) (o := 57) (by decide +kernel) (XT.ii_ge_f (by decide)) (pc' := 58) rfl ?_
  refine oGo W6 [.aload_n 1, .iload_n 2] (by decide +kernel) (ls' := #[sR a, sR x, sI 0]) (st' := [(.int 0), (.ref x)]) rfl rfl (pc' := 60) rfl ?_
  obtain ⟨v7, T7, L7, h7, vm7, W7, ⟨rfl, e7⟩, C7, st7⟩ := oCallV W6 (idx := 36) (pc := 60) (ls := #[sR a, sR x, sI 0]) (st := []) (argsL := [(.int 0)]) (F.exa.ext E2) (c_chr K K.2.2.2.1 (F.ext E2) (lb rfl) (i := 0) (by decide) (c := c0) rfl) (fun x hx => nomatch hx) (wK K 78 rfl) (wK K 79 rfl) (notFace_of_selects (args := #[]) (mvT W6.warm (wK K 81 rfl))) (wK K 81 rfl) (wK K 80 rfl) (wK K 10 rfl) (wK K 82 rfl) (by decide) (na := 1) rfl (by decide +kernel) rfl (stk := [(.int 0), (.ref x)]) rfl (by decide +kernel) (V := 0) (lb rfl) (lb rfl) (lb rfl) (lb rfl) (lb rfl)
  refine oLift st7 ?_
  rw [e7] at W7 C7
  show OG _ _ _ _ _ _ _ _ _ _ _ (mkF m 63 #[sR a, sR x, sI 0] [(.int c0)])
  obtain ⟨v8, T8, L8, h8, vm8, W8, ⟨rfl, E8⟩, C8, st8⟩ := oCallS W7 (idx := 40) (pc := 63) (ls := #[sR a, sR x, sI 0]) (st := []) (argsL := [(.int c0)]) (c_isa K q0) (fun x hx => nomatch hx) (wK K 100 rfl) (wK K 101 rfl) (wK K 46 rfl) (wK K 102 rfl) (by decide) (na := 1) rfl (by decide +kernel) rfl (stk := [(.int c0)]) rfl (by decide +kernel) (V := 0) (lb rfl) (lb rfl) (lb rfl) (lb rfl) (lb rfl)
  refine oLift st8 ?_
  show OG _ _ _ _ _ _ _ _ _ _ _ (mkF m 66 #[sR a, sR x, sI 0] [(.int 1)])
  refine oIfT W8 (cd := .ne) (o := 40) (by decide +kernel) (XT.i0_ne_t (by decide)) (pc' := 106) (by decide) (by decide) ?_
  refine oGo W8 [.iinc 2 1, .goto (-59), .iload_n 2, .aload_n 1] (by decide +kernel) (ls' := #[sR a, sR x, sI 1]) (st' := [(.ref x), (.int 1)]) rfl rfl (pc' := 52) rfl ?_
  obtain ⟨v9, T9, L9, h9, vm9, W9, ⟨rfl, e9⟩, C9, st9⟩ := oCallV W8 (idx := 28) (pc := 52) (ls := #[sR a, sR x, sI 1]) (st := [(.int 1)]) (argsL := []) ((F.exa.ext E2).ext E8) (c_len K ((F.ext E2).ext E8)) (fun x hx => nomatch hx) (wK K 68 rfl) (wK K 69 rfl) (notFace_of_selects (args := #[]) (mvT W8.warm (wK K 71 rfl))) (wK K 71 rfl) (wK K 70 rfl) (wK K 10 rfl) (wK K 72 rfl) (by decide) (na := 0) rfl (by decide +kernel) rfl (stk := [(.ref x), (.int 1)]) rfl (by decide +kernel) (V := 1) (lb rfl) (lb rfl) (lb rfl) (lb rfl) (lb rfl)
  refine oLift st9 ?_
  rw [e9] at W9 C9
  show OG _ _ _ _ _ _ _ _ _ _ _ (mkF m 55 #[sR a, sR x, sI 1] [(.int 3), (.int 1)])
  refine oIcF W9 (cd := .ge) (o := 57) (by decide +kernel) (XT.ii_ge_f (by decide)) (pc' := 58) rfl ?_
  refine oGo W9 [.aload_n 1, .iload_n 2] (by decide +kernel) (ls' := #[sR a, sR x, sI 1]) (st' := [(.int 1), (.ref x)]) rfl rfl (pc' := 60) rfl ?_
  obtain ⟨v10, T10, L10, h10, vm10, W10, ⟨rfl, e10⟩, C10, st10⟩ := oCallV W9 (idx := 36) (pc := 60) (ls := #[sR a, sR x, sI 1]) (st := []) (argsL := [(.int 1)]) ((F.exa.ext E2).ext E8) (c_chr K K.2.2.2.1 ((F.ext E2).ext E8) (lb rfl) (i := 1) (by decide) (c := c1) rfl) (fun x hx => nomatch hx) (wK K 78 rfl) (wK K 79 rfl) (notFace_of_selects (args := #[]) (mvT W9.warm (wK K 81 rfl))) (wK K 81 rfl) (wK K 80 rfl) (wK K 10 rfl) (wK K 82 rfl) (by decide) (na := 1) rfl (by decide +kernel) rfl (stk := [(.int 1), (.ref x)]) rfl (by decide +kernel) (V := 0) (lb rfl) (lb rfl) (lb rfl) (lb rfl) (lb rfl)
  refine oLift st10 ?_
  rw [e10] at W10 C10
  show OG _ _ _ _ _ _ _ _ _ _ _ (mkF m 63 #[sR a, sR x, sI 1] [(.int c1)])
  obtain ⟨v11, T11, L11, h11, vm11, W11, ⟨rfl, E11⟩, C11, st11⟩ := oCallS W10 (idx := 40) (pc := 63) (ls := #[sR a, sR x, sI 1]) (st := []) (argsL := [(.int c1)]) (c_isa K q1) (fun x hx => nomatch hx) (wK K 100 rfl) (wK K 101 rfl) (wK K 46 rfl) (wK K 102 rfl) (by decide) (na := 1) rfl (by decide +kernel) rfl (stk := [(.int c1)]) rfl (by decide +kernel) (V := 0) (lb rfl) (lb rfl) (lb rfl) (lb rfl) (lb rfl)
  refine oLift st11 ?_
  show OG _ _ _ _ _ _ _ _ _ _ _ (mkF m 66 #[sR a, sR x, sI 1] [(.int 1)])
  refine oIfT W11 (cd := .ne) (o := 40) (by decide +kernel) (XT.i0_ne_t (by decide)) (pc' := 106) (by decide) (by decide) ?_
  refine oGo W11 [.iinc 2 1, .goto (-59), .iload_n 2, .aload_n 1] (by decide +kernel) (ls' := #[sR a, sR x, sI 2]) (st' := [(.ref x), (.int 2)]) rfl rfl (pc' := 52) rfl ?_
  obtain ⟨v12, T12, L12, h12, vm12, W12, ⟨rfl, e12⟩, C12, st12⟩ := oCallV W11 (idx := 28) (pc := 52) (ls := #[sR a, sR x, sI 2]) (st := [(.int 2)]) (argsL := []) (((F.exa.ext E2).ext E8).ext E11) (c_len K (((F.ext E2).ext E8).ext E11)) (fun x hx => nomatch hx) (wK K 68 rfl) (wK K 69 rfl) (notFace_of_selects (args := #[]) (mvT W11.warm (wK K 71 rfl))) (wK K 71 rfl) (wK K 70 rfl) (wK K 10 rfl) (wK K 72 rfl) (by decide) (na := 0) rfl (by decide +kernel) rfl (stk := [(.ref x), (.int 2)]) rfl (by decide +kernel) (V := 1) (lb rfl) (lb rfl) (lb rfl) (lb rfl) (lb rfl)
  refine oLift st12 ?_
  rw [e12] at W12 C12
  show OG _ _ _ _ _ _ _ _ _ _ _ (mkF m 55 #[sR a, sR x, sI 2] [(.int 3), (.int 2)])
  refine oIcF W12 (cd := .ge) (o := 57) (by decide +kernel) (XT.ii_ge_f (by decide)) (pc' := 58) rfl ?_
  refine oGo W12 [.aload_n 1, .iload_n 2] (by decide +kernel) (ls' := #[sR a, sR x, sI 2]) (st' := [(.int 2), (.ref x)]) rfl rfl (pc' := 60) rfl ?_
  obtain ⟨v13, T13, L13, h13, vm13, W13, ⟨rfl, e13⟩, C13, st13⟩ := oCallV W12 (idx := 36) (pc := 60) (ls := #[sR a, sR x, sI 2]) (st := []) (argsL := [(.int 2)]) (((F.exa.ext E2).ext E8).ext E11) (c_chr K K.2.2.2.1 (((F.ext E2).ext E8).ext E11) (lb rfl) (i := 2) (by decide) (c := c2) rfl) (fun x hx => nomatch hx) (wK K 78 rfl) (wK K 79 rfl) (notFace_of_selects (args := #[]) (mvT W12.warm (wK K 81 rfl))) (wK K 81 rfl) (wK K 80 rfl) (wK K 10 rfl) (wK K 82 rfl) (by decide) (na := 1) rfl (by decide +kernel) rfl (stk := [(.int 2), (.ref x)]) rfl (by decide +kernel) (V := 0) (lb rfl) (lb rfl) (lb rfl) (lb rfl) (lb rfl)
  refine oLift st13 ?_
  rw [e13] at W13 C13
  show OG _ _ _ _ _ _ _ _ _ _ _ (mkF m 63 #[sR a, sR x, sI 2] [(.int c2)])
  obtain ⟨v14, T14, L14, h14, vm14, W14, ⟨rfl, E14⟩, C14, st14⟩ := oCallS W13 (idx := 40) (pc := 63) (ls := #[sR a, sR x, sI 2]) (st := []) (argsL := [(.int c2)]) (c_isa K q2) (fun x hx => nomatch hx) (wK K 100 rfl) (wK K 101 rfl) (wK K 46 rfl) (wK K 102 rfl) (by decide) (na := 1) rfl (by decide +kernel) rfl (stk := [(.int c2)]) rfl (by decide +kernel) (V := 0) (lb rfl) (lb rfl) (lb rfl) (lb rfl) (lb rfl)
  refine oLift st14 ?_
  show OG _ _ _ _ _ _ _ _ _ _ _ (mkF m 66 #[sR a, sR x, sI 2] [(.int 1)])
  refine oIfT W14 (cd := .ne) (o := 40) (by decide +kernel) (XT.i0_ne_t (by decide)) (pc' := 106) (by decide) (by decide) ?_
  refine oGo W14 [.iinc 2 1, .goto (-59), .iload_n 2, .aload_n 1] (by decide +kernel) (ls' := #[sR a, sR x, sI 3]) (st' := [(.ref x), (.int 3)]) rfl rfl (pc' := 52) rfl ?_
  obtain ⟨v15, T15, L15, h15, vm15, W15, ⟨rfl, e15⟩, C15, st15⟩ := oCallV W14 (idx := 28) (pc := 52) (ls := #[sR a, sR x, sI 3]) (st := [(.int 3)]) (argsL := []) ((((F.exa.ext E2).ext E8).ext E11).ext E14) (c_len K ((((F.ext E2).ext E8).ext E11).ext E14)) (fun x hx => nomatch hx) (wK K 68 rfl) (wK K 69 rfl) (notFace_of_selects (args := #[]) (mvT W14.warm (wK K 71 rfl))) (wK K 71 rfl) (wK K 70 rfl) (wK K 10 rfl) (wK K 72 rfl) (by decide) (na := 0) rfl (by decide +kernel) rfl (stk := [(.ref x), (.int 3)]) rfl (by decide +kernel) (V := 1) (lb rfl) (lb rfl) (lb rfl) (lb rfl) (lb rfl)
  refine oLift st15 ?_
  rw [e15] at W15 C15
  show OG _ _ _ _ _ _ _ _ _ _ _ (mkF m 55 #[sR a, sR x, sI 3] [(.int 3), (.int 3)])
  refine oIcT W15 (cd := .ge) (o := 57) (by decide +kernel) (XT.ii_ge_t (by decide)) (pc' := 112) (by decide) (by decide) ?_
  refine oGo W15 [.aload_n 1] (by decide +kernel) (ls' := #[sR a, sR x, sI 3]) (st' := [(.ref x)]) rfl rfl (pc' := 113) rfl ?_
  obtain ⟨a16, b16, k16, T16, h16, vm16, W16, E16, C16, x16, c16, u16, A16, st16⟩ := oLdcC W15 (pc := 113) (ls := #[sR a, sR x, sI 3]) (st := [(.ref x)]) (wK K 103 rfl) hS (by decide) (vs := (([46] : List Int32).map fun c => Value.int c.toInt8.toInt32)) (z := 1) (by decide +kernel) (by decide) (by decide) (by decide +kernel) (n := 4) (lb rfl) (lb rfl) (lb rfl) (lb rfl)
  refine oLift st16 ?_
  have F16 : Str Z h16 a16 [46] := ⟨b16, k16, x16, c16, u16, A16, by decide⟩
  obtain ⟨v17, T17, L17, h17, vm17, W17, ⟨rfl, e17⟩, C17, st17⟩ := oCallV W16 (idx := 64) (pc := 115) (ls := #[sR a, sR x, sI 3]) (st := []) (argsL := [(.ref a16)]) (((((F.exa.ext E2).ext E8).ext E11).ext E14).ext E16) (k_Eq K.2.1 he (lb rfl) (lb rfl) (((((F.ext E2).ext E8).ext E11).ext E14).ext E16) F16) (fun x hx => nomatch hx) (wK K 104 rfl) (wK K 105 rfl) (notFace_of_selects (args := #[]) (mvT W16.warm (wK K 107 rfl))) (wK K 107 rfl) (wK K 106 rfl) (wK K 10 rfl) (wK K 108 rfl) (by decide) (na := 1) rfl (by decide +kernel) rfl (stk := [(.ref a16), (.ref x)]) rfl (by decide +kernel) (V := 0) (lb rfl) (lb rfl) (lb rfl) (lb rfl) (lb rfl)
  refine oLift st17 ?_
  rw [e17] at W17 C17
  show OG _ _ _ _ _ _ _ _ _ _ _ (mkF m 118 #[sR a, sR x, sI 3] [(.int (if ([c0, c1, c2] : List Int32) = [46] then 1 else 0))])
  refine oIfF W17 (cd := .ne) (o := 12) (by decide +kernel) (XT.i0_ne_f (if_neg (by simp))) (pc' := 121) rfl ?_
  refine oGo W17 [.aload_n 1] (by decide +kernel) (ls' := #[sR a, sR x, sI 3]) (st' := [(.ref x)]) rfl rfl (pc' := 122) rfl ?_
  obtain ⟨a18, b18, k18, T18, h18, vm18, W18, E18, C18, x18, c18, u18, A18, st18⟩ := oLdcC W17 (pc := 122) (ls := #[sR a, sR x, sI 3]) (st := [(.ref x)]) (wK K 113 rfl) hS (by decide) (vs := (([46, 46] : List Int32).map fun c => Value.int c.toInt8.toInt32)) (z := 2) (by decide +kernel) (by decide) (by decide) (by decide +kernel) (n := 8) (lb rfl) (lb rfl) (lb rfl) (lb rfl)
  refine oLift st18 ?_
  have F18 : Str Z h18 a18 [46, 46] := ⟨b18, k18, x18, c18, u18, A18, by decide⟩
  obtain ⟨v19, T19, L19, h19, vm19, W19, ⟨rfl, e19⟩, C19, st19⟩ := oCallV W18 (idx := 64) (pc := 124) (ls := #[sR a, sR x, sI 3]) (st := []) (argsL := [(.ref a18)]) ((((((F.exa.ext E2).ext E8).ext E11).ext E14).ext E16).ext E18) (k_Eq K.2.1 he (lb rfl) (lb rfl) ((((((F.ext E2).ext E8).ext E11).ext E14).ext E16).ext E18) F18) (fun x hx => nomatch hx) (wK K 104 rfl) (wK K 105 rfl) (notFace_of_selects (args := #[]) (mvT W18.warm (wK K 107 rfl))) (wK K 107 rfl) (wK K 106 rfl) (wK K 10 rfl) (wK K 108 rfl) (by decide) (na := 1) rfl (by decide +kernel) rfl (stk := [(.ref a18), (.ref x)]) rfl (by decide +kernel) (V := 0) (lb rfl) (lb rfl) (lb rfl) (lb rfl) (lb rfl)
  refine oLift st19 ?_
  rw [e19] at W19 C19
  show OG _ _ _ _ _ _ _ _ _ _ _ (mkF m 127 #[sR a, sR x, sI 3] [(.int (if ([c0, c1, c2] : List Int32) = [46, 46] then 1 else 0))])
  refine oIfT W19 (cd := .eq) (o := 35) (by decide +kernel) (XT.i0_eq_t (if_neg (by simp))) (pc' := 162) (by decide) (by decide) ?_
  refine oGo W19 [.aload_n 0, .aload_n 1] (by decide +kernel) (ls' := #[sR a, sR x, sI 3]) (st' := [(.ref x), (.ref a)]) rfl rfl (pc' := 164) rfl ?_
  obtain ⟨T20, h20, W20, Wr20, F20, X20, C20, st20⟩ := oPutF W19 (idx := 85) (pc := 164) (ls := #[sR a, sR x, sI 3]) (st := []) (v := (.ref x)) (wK K 114 rfl) Via.refl ((((((Fb.ext E2).ext E8).ext E11).ext E14).ext E16).ext E18) ((((((X.ext E2).ext E8).ext E11).ext E14).ext E16).ext E18) (Or.inr ⟨(wK K 115 rfl), rfl, rfl⟩) (wK K 45 rfl) (ty := (.object "java/lang/String")) (by decide) rfl rfl hfr (Safe.exa W19.warm.alike ((((((X.ext E2).ext E8).ext E11).ext E14).ext E16).ext E18) (by decide) (by decide)) (by decide +kernel)
  refine oLift st20 ?_
  exact oRet0 W20 (by decide +kernel) (lb rfl) (lb rfl) (fun vm' hv => ⟨rfl, ((((((((Keep.refl _ [a]).ext E2).ext E8).ext E11).ext E14).ext E16).ext E18).wr Wr20 (Or.inl (List.mem_singleton.mpr rfl))), X20, F20⟩)
abbrev rm_c_cn4 : Room := { frames := 5, cells := 14, slots := 124, locals := 71 }
set_option maxRecDepth 65536 in
set_option maxHeartbeats 40000000 in
theorem c_cn4 {l : Launch} {Z : State} {a0 : Array Value} (K : Ctx Z a0) {a x : Addr} {c0 c1 c2 c3 : Int32} {h0 : Heap} (F : Str Z h0 x [c0, c1, c2, c3]) (q0 : Alw c0) (q1 : Alw c1) (q2 : Alw c2) (q3 : Alw c3) (hfr : Z.heap.size ≤ a) (X : Exa Z h0 a "com/example/gentle_hub/gentlehub/core/ChannelName") (Fb : Fld Z h0 a "com/example/gentle_hub/gentlehub/core/ChannelName" "value" "Ljava/lang/String;" .null) :
    OC l Z EL false [] (⟨"com/example/gentle_hub/gentlehub/core/ChannelName", "<init>", "(Ljava/lang/String;)V"⟩ : MethodName) prog_1_method_1_code 3 none rm_c_cn4 #[(.ref a), (.ref x)] h0 [] (fun v _ h => v = none ∧ Keep h0 h [a] ∧ Exa Z h a "com/example/gentle_hub/gentlehub/core/ChannelName" ∧ Fld Z h a "com/example/gentle_hub/gentlehub/core/ChannelName" "value" "Ljava/lang/String;" (.ref x)) := by
  have hw := K.1
  have hS : ∀ a ∈ Bundle.stringAtoms, a.before a0 Z = true := K.2.2.1
  have he := K.2.2.2.2
  refine oEnter (by decide +kernel) K.2.1.2.1 ?_
  intro _p _e _s m _below _meth _c T0 W0 S0
  refine oEq (g' := mkF m 0 #[.val (.ref a), .val (.ref x), .unset] []) (by first | (simp [entryFrame, mkF, argsToLocals, Value.category]; done) | rfl) ?_
  refine oGo W0 [.aload_n 0] (by decide +kernel) (ls' := #[sR a, sR x, sU]) (st' := [(.ref a)]) rfl rfl (pc' := 1) rfl ?_
  obtain ⟨v1, T1, L1, h1, vm1, W1, ⟨rfl, e1⟩, C1, st1⟩ := oCallN W0 (idx := 1) (pc := 1) (ls := #[sR a, sR x, sU]) (st := []) (a := a) (argsL := []) (c_rec K) (fun x hx => nomatch hx) rfl (wK K 50 rfl) (wK K 51 rfl) (wK K 53 rfl) (wK K 54 rfl) (by decide) (na := 0) rfl (by decide +kernel) rfl (stk := [(.ref a)]) rfl (by decide +kernel) (V := 0) (lb rfl) (lb rfl) (lb rfl) (lb rfl) (lb rfl)
  refine oLift st1 ?_
  rw [e1] at W1 C1
  show OG _ _ _ _ _ _ _ _ _ _ _ (mkF m 4 #[sR a, sR x, sU] [])
  refine oGo W1 [.aload_n 1] (by decide +kernel) (ls' := #[sR a, sR x, sU]) (st' := [(.ref x)]) rfl rfl (pc' := 5) rfl ?_
  obtain ⟨a2, T2, h2, vm2, W2, E2, C2, st2⟩ := oLdc W1 (pc := 5) (ls := #[sR a, sR x, sU]) (st := [(.ref x)]) (wK K 56 rfl) hS (by decide +kernel) (n := 20) (lb rfl) (lb rfl) (lb rfl) (lb rfl)
  refine oLift st2 ?_
  obtain ⟨v3, T3, L3, h3, vm3, W3, ⟨rfl, e3⟩, C3, st3⟩ := oCallS W2 (idx := 9) (pc := 7) (ls := #[sR a, sR x, sU]) (st := []) (argsL := [(.ref x), (.ref a2)]) (c_rnn K) (fun x hx => nomatch hx) (wK K 59 rfl) (wK K 60 rfl) (wK K 61 rfl) (wK K 62 rfl) (by decide) (na := 2) rfl (by decide +kernel) rfl (stk := [(.ref a2), (.ref x)]) rfl (by decide +kernel) (V := 0) (lb rfl) (lb rfl) (lb rfl) (lb rfl) (lb rfl)
  refine oLift st3 ?_
  rw [e3] at W3 C3
  show OG _ _ _ _ _ _ _ _ _ _ _ (mkF m 10 #[sR a, sR x, sU] [(.ref x)])
  refine oGo W3 [.pop, .aload_n 1] (by decide +kernel) (ls' := #[sR a, sR x, sU]) (st' := [(.ref x)]) rfl rfl (pc' := 12) rfl ?_
  obtain ⟨v4, T4, L4, h4, vm4, W4, ⟨rfl, e4⟩, C4, st4⟩ := oCallV W3 (idx := 15) (pc := 12) (ls := #[sR a, sR x, sU]) (st := []) (argsL := []) (F.exa.ext E2) (c_emp K (F.ext E2) (lb rfl)) (fun x hx => nomatch hx) (wK K 63 rfl) (wK K 64 rfl) (notFace_of_selects (args := #[]) (mvT W3.warm (wK K 66 rfl))) (wK K 66 rfl) (wK K 65 rfl) (wK K 10 rfl) (wK K 67 rfl) (by decide) (na := 0) rfl (by decide +kernel) rfl (stk := [(.ref x)]) rfl (by decide +kernel) (V := 0) (lb rfl) (lb rfl) (lb rfl) (lb rfl) (lb rfl)
  refine oLift st4 ?_
  rw [e4] at W4 C4
  show OG _ _ _ _ _ _ _ _ _ _ _ (mkF m 15 #[sR a, sR x, sU] [(.int (if ([c0, c1, c2, c3] : List Int32) = [] then 1 else 0))])
  refine oIfT W4 (cd := .eq) (o := 13) (by decide +kernel) (XT.i0_eq_t (if_neg (by simp))) (pc' := 28) (by decide) (by decide) ?_
  refine oGo W4 [.aload_n 1] (by decide +kernel) (ls' := #[sR a, sR x, sU]) (st' := [(.ref x)]) rfl rfl (pc' := 29) rfl ?_
  obtain ⟨v5, T5, L5, h5, vm5, W5, ⟨rfl, e5⟩, C5, st5⟩ := oCallV W4 (idx := 28) (pc := 29) (ls := #[sR a, sR x, sU]) (st := []) (argsL := []) (F.exa.ext E2) (c_len K (F.ext E2)) (fun x hx => nomatch hx) (wK K 68 rfl) (wK K 69 rfl) (notFace_of_selects (args := #[]) (mvT W4.warm (wK K 71 rfl))) (wK K 71 rfl) (wK K 70 rfl) (wK K 10 rfl) (wK K 72 rfl) (by decide) (na := 0) rfl (by decide +kernel) rfl (stk := [(.ref x)]) rfl (by decide +kernel) (V := 0) (lb rfl) (lb rfl) (lb rfl) (lb rfl) (lb rfl)
  refine oLift st5 ?_
  rw [e5] at W5 C5
  show OG _ _ _ _ _ _ _ _ _ _ _ (mkF m 32 #[sR a, sR x, sU] [(.int 4)])
  refine oGo W5 [.sipush 255] (by decide +kernel) (ls' := #[sR a, sR x, sU]) (st' := [(.int 255), (.int 4)]) rfl rfl (pc' := 35) rfl ?_
  refine oIcT W5 (cd := .le) (o := 13) (by decide +kernel) (XT.ii_le_t (by decide)) (pc' := 48) (by decide) (by decide) ?_
  refine oGo W5 [.iconst 0, .istore_n 2, .iload_n 2, .aload_n 1] (by decide +kernel) (ls' := #[sR a, sR x, sI 0]) (st' := [(.ref x), (.int 0)]) rfl rfl (pc' := 52) rfl ?_
  obtain ⟨v6, T6, L6, h6, vm6, W6, ⟨rfl, e6⟩, C6, st6⟩ := oCallV W5 (idx := 28) (pc := 52) (ls := #[sR a, sR x, sI 0]) (st := [(.int 0)]) (argsL := []) (F.exa.ext E2) (c_len K (F.ext E2)) (fun x hx => nomatch hx) (wK K 68 rfl) (wK K 69 rfl) (notFace_of_selects (args := #[]) (mvT W5.warm (wK K 71 rfl))) (wK K 71 rfl) (wK K 70 rfl) (wK K 10 rfl) (wK K 72 rfl) (by decide) (na := 0) rfl (by decide +kernel) rfl (stk := [(.ref x), (.int 0)]) rfl (by decide +kernel) (V := 1) (lb rfl) (lb rfl) (lb rfl) (lb rfl) (lb rfl)
  refine oLift st6 ?_
  rw [e6] at W6 C6
  show OG _ _ _ _ _ _ _ _ _ _ _ (mkF m 55 #[sR a, sR x, sI 0] [(.int 4), (.int 0)])
  refine oIcF W6 (cd := .ge) (o := 57) (by decide +kernel) (XT.ii_ge_f (by decide)) (pc' := 58) rfl ?_
  refine oGo W6 [.aload_n 1, .iload_n 2] (by decide +kernel) (ls' := #[sR a, sR x, sI 0]) (st' := [(.int 0), (.ref x)]) rfl rfl (pc' := 60) rfl ?_
  obtain ⟨v7, T7, L7, h7, vm7, W7, ⟨rfl, e7⟩, C7, st7⟩ := oCallV W6 (idx := 36) (pc := 60) (ls := #[sR a, sR x, sI 0]) (st := []) (argsL := [(.int 0)]) (F.exa.ext E2) (c_chr K K.2.2.2.1 (F.ext E2) (lb rfl) (i := 0) (by decide) (c := c0) rfl) (fun x hx => nomatch hx) (wK K 78 rfl) (wK K 79 rfl) (notFace_of_selects (args := #[]) (mvT W6.warm (wK K 81 rfl))) (wK K 81 rfl) (wK K 80 rfl) (wK K 10 rfl) (wK K 82 rfl) (by decide) (na := 1) rfl (by decide +kernel) rfl (stk := [(.int 0), (.ref x)]) rfl (by decide +kernel) (V := 0) (lb rfl) (lb rfl) (lb rfl) (lb rfl) (lb rfl)
  refine oLift st7 ?_
  rw [e7] at W7 C7
  show OG _ _ _ _ _ _ _ _ _ _ _ (mkF m 63 #[sR a, sR x, sI 0] [(.int c0)])
  obtain ⟨v8, T8, L8, h8, vm8, W8, ⟨rfl, E8⟩, C8, st8⟩ := oCallS W7 (idx := 40) (pc := 63) (ls := #[sR a, sR x, sI 0]) (st := []) (argsL := [(.int c0)]) (c_isa K q0) (fun x hx => nomatch hx) (wK K 100 rfl) (wK K 101 rfl) (wK K 46 rfl) (wK K 102 rfl) (by decide) (na := 1) rfl (by decide +kernel) rfl (stk := [(.int c0)]) rfl (by decide +kernel) (V := 0) (lb rfl) (lb rfl) (lb rfl) (lb rfl) (lb rfl)
  refine oLift st8 ?_
  show OG _ _ _ _ _ _ _ _ _ _ _ (mkF m 66 #[sR a, sR x, sI 0] [(.int 1)])
  refine oIfT W8 (cd := .ne) (o := 40) (by decide +kernel) (XT.i0_ne_t (by decide)) (pc' := 106) (by decide) (by decide) ?_
  refine oGo W8 [.iinc 2 1, .goto (-59), .iload_n 2, .aload_n 1] (by decide +kernel) (ls' := #[sR a, sR x, sI 1]) (st' := [(.ref x), (.int 1)]) rfl rfl (pc' := 52) rfl ?_
  obtain ⟨v9, T9, L9, h9, vm9, W9, ⟨rfl, e9⟩, C9, st9⟩ := oCallV W8 (idx := 28) (pc := 52) (ls := #[sR a, sR x, sI 1]) (st := [(.int 1)]) (argsL := []) ((F.exa.ext E2).ext E8) (c_len K ((F.ext E2).ext E8)) (fun x hx => nomatch hx) (wK K 68 rfl) (wK K 69 rfl) (notFace_of_selects (args := #[]) (mvT W8.warm (wK K 71 rfl))) (wK K 71 rfl) (wK K 70 rfl) (wK K 10 rfl) (wK K 72 rfl) (by decide) (na := 0) rfl (by decide +kernel) rfl (stk := [(.ref x), (.int 1)]) rfl (by decide +kernel) (V := 1) (lb rfl) (lb rfl) (lb rfl) (lb rfl) (lb rfl)
  refine oLift st9 ?_
  rw [e9] at W9 C9
  show OG _ _ _ _ _ _ _ _ _ _ _ (mkF m 55 #[sR a, sR x, sI 1] [(.int 4), (.int 1)])
  refine oIcF W9 (cd := .ge) (o := 57) (by decide +kernel) (XT.ii_ge_f (by decide)) (pc' := 58) rfl ?_
  refine oGo W9 [.aload_n 1, .iload_n 2] (by decide +kernel) (ls' := #[sR a, sR x, sI 1]) (st' := [(.int 1), (.ref x)]) rfl rfl (pc' := 60) rfl ?_
  obtain ⟨v10, T10, L10, h10, vm10, W10, ⟨rfl, e10⟩, C10, st10⟩ := oCallV W9 (idx := 36) (pc := 60) (ls := #[sR a, sR x, sI 1]) (st := []) (argsL := [(.int 1)]) ((F.exa.ext E2).ext E8) (c_chr K K.2.2.2.1 ((F.ext E2).ext E8) (lb rfl) (i := 1) (by decide) (c := c1) rfl) (fun x hx => nomatch hx) (wK K 78 rfl) (wK K 79 rfl) (notFace_of_selects (args := #[]) (mvT W9.warm (wK K 81 rfl))) (wK K 81 rfl) (wK K 80 rfl) (wK K 10 rfl) (wK K 82 rfl) (by decide) (na := 1) rfl (by decide +kernel) rfl (stk := [(.int 1), (.ref x)]) rfl (by decide +kernel) (V := 0) (lb rfl) (lb rfl) (lb rfl) (lb rfl) (lb rfl)
  refine oLift st10 ?_
  rw [e10] at W10 C10
  show OG _ _ _ _ _ _ _ _ _ _ _ (mkF m 63 #[sR a, sR x, sI 1] [(.int c1)])
  obtain ⟨v11, T11, L11, h11, vm11, W11, ⟨rfl, E11⟩, C11, st11⟩ := oCallS W10 (idx := 40) (pc := 63) (ls := #[sR a, sR x, sI 1]) (st := []) (argsL := [(.int c1)]) (c_isa K q1) (fun x hx => nomatch hx) (wK K 100 rfl) (wK K 101 rfl) (wK K 46 rfl) (wK K 102 rfl) (by decide) (na := 1) rfl (by decide +kernel) rfl (stk := [(.int c1)]) rfl (by decide +kernel) (V := 0) (lb rfl) (lb rfl) (lb rfl) (lb rfl) (lb rfl)
  refine oLift st11 ?_
  show OG _ _ _ _ _ _ _ _ _ _ _ (mkF m 66 #[sR a, sR x, sI 1] [(.int 1)])
  refine oIfT W11 (cd := .ne) (o := 40) (by decide +kernel) (XT.i0_ne_t (by decide)) (pc' := 106) (by decide) (by decide) ?_
  refine oGo W11 [.iinc 2 1, .goto (-59), .iload_n 2, .aload_n 1] (by decide +kernel) (ls' := #[sR a, sR x, sI 2]) (st' := [(.ref x), (.int 2)]) rfl rfl (pc' := 52) rfl ?_
  obtain ⟨v12, T12, L12, h12, vm12, W12, ⟨rfl, e12⟩, C12, st12⟩ := oCallV W11 (idx := 28) (pc := 52) (ls := #[sR a, sR x, sI 2]) (st := [(.int 2)]) (argsL := []) (((F.exa.ext E2).ext E8).ext E11) (c_len K (((F.ext E2).ext E8).ext E11)) (fun x hx => nomatch hx) (wK K 68 rfl) (wK K 69 rfl) (notFace_of_selects (args := #[]) (mvT W11.warm (wK K 71 rfl))) (wK K 71 rfl) (wK K 70 rfl) (wK K 10 rfl) (wK K 72 rfl) (by decide) (na := 0) rfl (by decide +kernel) rfl (stk := [(.ref x), (.int 2)]) rfl (by decide +kernel) (V := 1) (lb rfl) (lb rfl) (lb rfl) (lb rfl) (lb rfl)
  refine oLift st12 ?_
  rw [e12] at W12 C12
  show OG _ _ _ _ _ _ _ _ _ _ _ (mkF m 55 #[sR a, sR x, sI 2] [(.int 4), (.int 2)])
  refine oIcF W12 (cd := .ge) (o := 57) (by decide +kernel) (XT.ii_ge_f (by decide)) (pc' := 58) rfl ?_
  refine oGo W12 [.aload_n 1, .iload_n 2] (by decide +kernel) (ls' := #[sR a, sR x, sI 2]) (st' := [(.int 2), (.ref x)]) rfl rfl (pc' := 60) rfl ?_
  obtain ⟨v13, T13, L13, h13, vm13, W13, ⟨rfl, e13⟩, C13, st13⟩ := oCallV W12 (idx := 36) (pc := 60) (ls := #[sR a, sR x, sI 2]) (st := []) (argsL := [(.int 2)]) (((F.exa.ext E2).ext E8).ext E11) (c_chr K K.2.2.2.1 (((F.ext E2).ext E8).ext E11) (lb rfl) (i := 2) (by decide) (c := c2) rfl) (fun x hx => nomatch hx) (wK K 78 rfl) (wK K 79 rfl) (notFace_of_selects (args := #[]) (mvT W12.warm (wK K 81 rfl))) (wK K 81 rfl) (wK K 80 rfl) (wK K 10 rfl) (wK K 82 rfl) (by decide) (na := 1) rfl (by decide +kernel) rfl (stk := [(.int 2), (.ref x)]) rfl (by decide +kernel) (V := 0) (lb rfl) (lb rfl) (lb rfl) (lb rfl) (lb rfl)
  refine oLift st13 ?_
  rw [e13] at W13 C13
  show OG _ _ _ _ _ _ _ _ _ _ _ (mkF m 63 #[sR a, sR x, sI 2] [(.int c2)])
  obtain ⟨v14, T14, L14, h14, vm14, W14, ⟨rfl, E14⟩, C14, st14⟩ := oCallS W13 (idx := 40) (pc := 63) (ls := #[sR a, sR x, sI 2]) (st := []) (argsL := [(.int c2)]) (c_isa K q2) (fun x hx => nomatch hx) (wK K 100 rfl) (wK K 101 rfl) (wK K 46 rfl) (wK K 102 rfl) (by decide) (na := 1) rfl (by decide +kernel) rfl (stk := [(.int c2)]) rfl (by decide +kernel) (V := 0) (lb rfl) (lb rfl) (lb rfl) (lb rfl) (lb rfl)
  refine oLift st14 ?_
  show OG _ _ _ _ _ _ _ _ _ _ _ (mkF m 66 #[sR a, sR x, sI 2] [(.int 1)])
  refine oIfT W14 (cd := .ne) (o := 40) (by decide +kernel) (XT.i0_ne_t (by decide)) (pc' := 106) (by decide) (by decide) ?_
  refine oGo W14 [.iinc 2 1, .goto (-59), .iload_n 2, .aload_n 1] (by decide +kernel) (ls' := #[sR a, sR x, sI 3]) (st' := [(.ref x), (.int 3)]) rfl rfl (pc' := 52) rfl ?_
  obtain ⟨v15, T15, L15, h15, vm15, W15, ⟨rfl, e15⟩, C15, st15⟩ := oCallV W14 (idx := 28) (pc := 52) (ls := #[sR a, sR x, sI 3]) (st := [(.int 3)]) (argsL := []) ((((F.exa.ext E2).ext E8).ext E11).ext E14) (c_len K ((((F.ext E2).ext E8).ext E11).ext E14)) (fun x hx => nomatch hx) (wK K 68 rfl) (wK K 69 rfl) (notFace_of_selects (args := #[]) (mvT W14.warm (wK K 71 rfl))) (wK K 71 rfl) (wK K 70 rfl) (wK K 10 rfl) (wK K 72 rfl) (by decide) (na := 0) rfl (by decide +kernel) rfl (stk := [(.ref x), (.int 3)]) rfl (by decide +kernel) (V := 1) (lb rfl) (lb rfl) (lb rfl) (lb rfl) (lb rfl)
  refine oLift st15 ?_
  rw [e15] at W15 C15
  show OG _ _ _ _ _ _ _ _ _ _ _ (mkF m 55 #[sR a, sR x, sI 3] [(.int 4), (.int 3)])
  refine oIcF W15 (cd := .ge) (o := 57) (by decide +kernel) (XT.ii_ge_f (by decide)) (pc' := 58) rfl ?_
  refine oGo W15 [.aload_n 1, .iload_n 2] (by decide +kernel) (ls' := #[sR a, sR x, sI 3]) (st' := [(.int 3), (.ref x)]) rfl rfl (pc' := 60) rfl ?_
  obtain ⟨v16, T16, L16, h16, vm16, W16, ⟨rfl, e16⟩, C16, st16⟩ := oCallV W15 (idx := 36) (pc := 60) (ls := #[sR a, sR x, sI 3]) (st := []) (argsL := [(.int 3)]) ((((F.exa.ext E2).ext E8).ext E11).ext E14) (c_chr K K.2.2.2.1 ((((F.ext E2).ext E8).ext E11).ext E14) (lb rfl) (i := 3) (by decide) (c := c3) rfl) (fun x hx => nomatch hx) (wK K 78 rfl) (wK K 79 rfl) (notFace_of_selects (args := #[]) (mvT W15.warm (wK K 81 rfl))) (wK K 81 rfl) (wK K 80 rfl) (wK K 10 rfl) (wK K 82 rfl) (by decide) (na := 1) rfl (by decide +kernel) rfl (stk := [(.int 3), (.ref x)]) rfl (by decide +kernel) (V := 0) (lb rfl) (lb rfl) (lb rfl) (lb rfl) (lb rfl)
  refine oLift st16 ?_
  rw [e16] at W16 C16
  show OG _ _ _ _ _ _ _ _ _ _ _ (mkF m 63 #[sR a, sR x, sI 3] [(.int c3)])
  obtain ⟨v17, T17, L17, h17, vm17, W17, ⟨rfl, E17⟩, C17, st17⟩ := oCallS W16 (idx := 40) (pc := 63) (ls := #[sR a, sR x, sI 3]) (st := []) (argsL := [(.int c3)]) (c_isa K q3) (fun x hx => nomatch hx) (wK K 100 rfl) (wK K 101 rfl) (wK K 46 rfl) (wK K 102 rfl) (by decide) (na := 1) rfl (by decide +kernel) rfl (stk := [(.int c3)]) rfl (by decide +kernel) (V := 0) (lb rfl) (lb rfl) (lb rfl) (lb rfl) (lb rfl)
  refine oLift st17 ?_
  show OG _ _ _ _ _ _ _ _ _ _ _ (mkF m 66 #[sR a, sR x, sI 3] [(.int 1)])
  refine oIfT W17 (cd := .ne) (o := 40) (by decide +kernel) (XT.i0_ne_t (by decide)) (pc' := 106) (by decide) (by decide) ?_
  refine oGo W17 [.iinc 2 1, .goto (-59), .iload_n 2, .aload_n 1] (by decide +kernel) (ls' := #[sR a, sR x, sI 4]) (st' := [(.ref x), (.int 4)]) rfl rfl (pc' := 52) rfl ?_
  obtain ⟨v18, T18, L18, h18, vm18, W18, ⟨rfl, e18⟩, C18, st18⟩ := oCallV W17 (idx := 28) (pc := 52) (ls := #[sR a, sR x, sI 4]) (st := [(.int 4)]) (argsL := []) (((((F.exa.ext E2).ext E8).ext E11).ext E14).ext E17) (c_len K (((((F.ext E2).ext E8).ext E11).ext E14).ext E17)) (fun x hx => nomatch hx) (wK K 68 rfl) (wK K 69 rfl) (notFace_of_selects (args := #[]) (mvT W17.warm (wK K 71 rfl))) (wK K 71 rfl) (wK K 70 rfl) (wK K 10 rfl) (wK K 72 rfl) (by decide) (na := 0) rfl (by decide +kernel) rfl (stk := [(.ref x), (.int 4)]) rfl (by decide +kernel) (V := 1) (lb rfl) (lb rfl) (lb rfl) (lb rfl) (lb rfl)
  refine oLift st18 ?_
  rw [e18] at W18 C18
  show OG _ _ _ _ _ _ _ _ _ _ _ (mkF m 55 #[sR a, sR x, sI 4] [(.int 4), (.int 4)])
  refine oIcT W18 (cd := .ge) (o := 57) (by decide +kernel) (XT.ii_ge_t (by decide)) (pc' := 112) (by decide) (by decide) ?_
  refine oGo W18 [.aload_n 1] (by decide +kernel) (ls' := #[sR a, sR x, sI 4]) (st' := [(.ref x)]) rfl rfl (pc' := 113) rfl ?_
  obtain ⟨a19, b19, k19, T19, h19, vm19, W19, E19, C19, x19, c19, u19, A19, st19⟩ := oLdcC W18 (pc := 113) (ls := #[sR a, sR x, sI 4]) (st := [(.ref x)]) (wK K 103 rfl) hS (by decide) (vs := (([46] : List Int32).map fun c => Value.int c.toInt8.toInt32)) (z := 1) (by decide +kernel) (by decide) (by decide) (by decide +kernel) (n := 4) (lb rfl) (lb rfl) (lb rfl) (lb rfl)
  refine oLift st19 ?_
  have F19 : Str Z h19 a19 [46] := ⟨b19, k19, x19, c19, u19, A19, by decide⟩
  obtain ⟨v20, T20, L20, h20, vm20, W20, ⟨rfl, e20⟩, C20, st20⟩ := oCallV W19 (idx := 64) (pc := 115) (ls := #[sR a, sR x, sI 4]) (st := []) (argsL := [(.ref a19)]) ((((((F.exa.ext E2).ext E8).ext E11).ext E14).ext E17).ext E19) (k_Eq K.2.1 he (lb rfl) (lb rfl) ((((((F.ext E2).ext E8).ext E11).ext E14).ext E17).ext E19) F19) (fun x hx => nomatch hx) (wK K 104 rfl) (wK K 105 rfl) (notFace_of_selects (args := #[]) (mvT W19.warm (wK K 107 rfl))) (wK K 107 rfl) (wK K 106 rfl) (wK K 10 rfl) (wK K 108 rfl) (by decide) (na := 1) rfl (by decide +kernel) rfl (stk := [(.ref a19), (.ref x)]) rfl (by decide +kernel) (V := 0) (lb rfl) (lb rfl) (lb rfl) (lb rfl) (lb rfl)
  refine oLift st20 ?_
  rw [e20] at W20 C20
  show OG _ _ _ _ _ _ _ _ _ _ _ (mkF m 118 #[sR a, sR x, sI 4] [(.int (if ([c0, c1, c2, c3] : List Int32) = [46] then 1 else 0))])
  refine oIfF W20 (cd := .ne) (o := 12) (by decide +kernel) (XT.i0_ne_f (if_neg (by simp))) (pc' := 121) rfl ?_
  refine oGo W20 [.aload_n 1] (by decide +kernel) (ls' := #[sR a, sR x, sI 4]) (st' := [(.ref x)]) rfl rfl (pc' := 122) rfl ?_
  obtain ⟨a21, b21, k21, T21, h21, vm21, W21, E21, C21, x21, c21, u21, A21, st21⟩ := oLdcC W20 (pc := 122) (ls := #[sR a, sR x, sI 4]) (st := [(.ref x)]) (wK K 113 rfl) hS (by decide) (vs := (([46, 46] : List Int32).map fun c => Value.int c.toInt8.toInt32)) (z := 2) (by decide +kernel) (by decide) (by decide) (by decide +kernel) (n := 8) (lb rfl) (lb rfl) (lb rfl) (lb rfl)
  refine oLift st21 ?_
  have F21 : Str Z h21 a21 [46, 46] := ⟨b21, k21, x21, c21, u21, A21, by decide⟩
  obtain ⟨v22, T22, L22, h22, vm22, W22, ⟨rfl, e22⟩, C22, st22⟩ := oCallV W21 (idx := 64) (pc := 124) (ls := #[sR a, sR x, sI 4]) (st := []) (argsL := [(.ref a21)]) (((((((F.exa.ext E2).ext E8).ext E11).ext E14).ext E17).ext E19).ext E21) (k_Eq K.2.1 he (lb rfl) (lb rfl) (((((((F.ext E2).ext E8).ext E11).ext E14).ext E17).ext E19).ext E21) F21) (fun x hx => nomatch hx) (wK K 104 rfl) (wK K 105 rfl) (notFace_of_selects (args := #[]) (mvT W21.warm (wK K 107 rfl))) (wK K 107 rfl) (wK K 106 rfl) (wK K 10 rfl) (wK K 108 rfl) (by decide) (na := 1) rfl (by decide +kernel) rfl (stk := [(.ref a21), (.ref x)]) rfl (by decide +kernel) (V := 0) (lb rfl) (lb rfl) (lb rfl) (lb rfl) (lb rfl)
  refine oLift st22 ?_
  rw [e22] at W22 C22
  show OG _ _ _ _ _ _ _ _ _ _ _ (mkF m 127 #[sR a, sR x, sI 4] [(.int (if ([c0, c1, c2, c3] : List Int32) = [46, 46] then 1 else 0))])
  refine oIfT W22 (cd := .eq) (o := 35) (by decide +kernel) (XT.i0_eq_t (if_neg (by simp))) (pc' := 162) (by decide) (by decide) ?_
  refine oGo W22 [.aload_n 0, .aload_n 1] (by decide +kernel) (ls' := #[sR a, sR x, sI 4]) (st' := [(.ref x), (.ref a)]) rfl rfl (pc' := 164) rfl ?_
  obtain ⟨T23, h23, W23, Wr23, F23, X23, C23, st23⟩ := oPutF W22 (idx := 85) (pc := 164) (ls := #[sR a, sR x, sI 4]) (st := []) (v := (.ref x)) (wK K 114 rfl) Via.refl (((((((Fb.ext E2).ext E8).ext E11).ext E14).ext E17).ext E19).ext E21) (((((((X.ext E2).ext E8).ext E11).ext E14).ext E17).ext E19).ext E21) (Or.inr ⟨(wK K 115 rfl), rfl, rfl⟩) (wK K 45 rfl) (ty := (.object "java/lang/String")) (by decide) rfl rfl hfr (Safe.exa W22.warm.alike (((((((X.ext E2).ext E8).ext E11).ext E14).ext E17).ext E19).ext E21) (by decide) (by decide)) (by decide +kernel)
  refine oLift st23 ?_
  exact oRet0 W23 (by decide +kernel) (lb rfl) (lb rfl) (fun vm' hv => ⟨rfl, (((((((((Keep.refl _ [a]).ext E2).ext E8).ext E11).ext E14).ext E17).ext E19).ext E21).wr Wr23 (Or.inl (List.mem_singleton.mpr rfl))), X23, F23⟩)
abbrev rm_c_cli : Room := { frames := 2, cells := 0, slots := 0, locals := 24 }
set_option maxRecDepth 65536 in
set_option maxHeartbeats 40000000 in
theorem c_cli {l : Launch} {Z : State} {a0 : Array Value} {nb : Bool} (K : Ctx Z a0) {a r n : Addr} {h0 : Heap} (hfr : Z.heap.size ≤ a) (X : Exa Z h0 a "com/example/gentle_hub/gentlehub/server/ChannelLocation") (Fb0 : Fld Z h0 a "com/example/gentle_hub/gentlehub/server/ChannelLocation" "role" "Lcom/example/gentle_hub/gentlehub/server/ChannelLocation$Role;" .null) (Fb1 : Fld Z h0 a "com/example/gentle_hub/gentlehub/server/ChannelLocation" "channel" "Lcom/example/gentle_hub/gentlehub/core/ChannelName;" .null) :
    OC l Z EL nb [] (⟨"com/example/gentle_hub/gentlehub/server/ChannelLocation", "<init>", "(Lcom/example/gentle_hub/gentlehub/server/ChannelLocation$Role;Lcom/example/gentle_hub/gentlehub/core/ChannelName;)V"⟩ : MethodName) prog_15_method_1_code 3 none rm_c_cli #[(.ref a), (.ref r), (.ref n)] h0 [] (fun v _ h => v = none ∧ Keep h0 h [a] ∧ Exa Z h a "com/example/gentle_hub/gentlehub/server/ChannelLocation" ∧ Fld Z h a "com/example/gentle_hub/gentlehub/server/ChannelLocation" "role" "Lcom/example/gentle_hub/gentlehub/server/ChannelLocation$Role;" (.ref r) ∧ Fld Z h a "com/example/gentle_hub/gentlehub/server/ChannelLocation" "channel" "Lcom/example/gentle_hub/gentlehub/core/ChannelName;" (.ref n)) := by
  have hw := K.1
  have hS : ∀ a ∈ Bundle.stringAtoms, a.before a0 Z = true := K.2.2.1
  refine oEnter (by decide +kernel) K.2.1.2.1 ?_
  intro _p _e _s m _below _meth _c T0 W0 S0
  refine oEq (g' := mkF m 0 #[.val (.ref a), .val (.ref r), .val (.ref n)] []) (by first | (simp [entryFrame, mkF, argsToLocals, Value.category]; done) | rfl) ?_
  refine oGo W0 [.aload_n 0] (by decide +kernel) (ls' := #[sR a, sR r, sR n]) (st' := [(.ref a)]) rfl rfl (pc' := 1) rfl ?_
  obtain ⟨v1, T1, L1, h1, vm1, W1, ⟨rfl, e1⟩, C1, st1⟩ := oCallN W0 (idx := 1) (pc := 1) (ls := #[sR a, sR r, sR n]) (st := []) (a := a) (argsL := []) (c_rec K) (fun x hx => nomatch hx) rfl (wK K 119 rfl) (wK K 51 rfl) (wK K 53 rfl) (wK K 54 rfl) (by decide) (na := 0) rfl (by decide +kernel) rfl (stk := [(.ref a)]) rfl (by decide +kernel) (V := 0) (lb rfl) (lb rfl) (lb rfl) (lb rfl) (lb rfl)
  refine oLift st1 ?_
  rw [e1] at W1 C1
  show OG _ _ _ _ _ _ _ _ _ _ _ (mkF m 4 #[sR a, sR r, sR n] [])
  refine oGo W1 [.aload_n 0, .aload_n 1] (by decide +kernel) (ls' := #[sR a, sR r, sR n]) (st' := [(.ref r), (.ref a)]) rfl rfl (pc' := 6) rfl ?_
  obtain ⟨T2, h2, W2, Wr2, F2, X2, C2, st2⟩ := oPutF W1 (idx := 7) (pc := 6) (ls := #[sR a, sR r, sR n]) (st := []) (v := (.ref r)) (wK K 120 rfl) Via.refl Fb0 X (Or.inr ⟨(wK K 121 rfl), rfl, rfl⟩) (wK K 42 rfl) (ty := (.object "com/example/gentle_hub/gentlehub/server/ChannelLocation$Role")) (by decide) rfl rfl hfr (Safe.exa W1.warm.alike X (by decide) (by decide)) (by decide +kernel)
  refine oLift st2 ?_
  refine oGo W2 [.aload_n 0, .aload_n 2] (by decide +kernel) (ls' := #[sR a, sR r, sR n]) (st' := [(.ref n), (.ref a)]) rfl rfl (pc' := 11) rfl ?_
  obtain ⟨T3, h3, W3, Wr3, F3, X3, C3, st3⟩ := oPutF W2 (idx := 13) (pc := 11) (ls := #[sR a, sR r, sR n]) (st := []) (v := (.ref n)) (wK K 122 rfl) Via.refl (Fb1.other Wr2 (Or.inr (slot_ne (a0 := a0) (C := "com/example/gentle_hub/gentlehub/server/ChannelLocation") (Or.inr (wK K 123 rfl)) (Or.inr (wK K 121 rfl)) (by decide) (t := (.object "com/example/gentle_hub/gentlehub/core/ChannelName")) (t' := (.object "com/example/gentle_hub/gentlehub/server/ChannelLocation$Role")) (by decide) (by decide)))) X2 (Or.inr ⟨(wK K 123 rfl), rfl, rfl⟩) (wK K 42 rfl) (ty := (.object "com/example/gentle_hub/gentlehub/core/ChannelName")) (by decide) rfl rfl hfr (Safe.exa W2.warm.alike X2 (by decide) (by decide)) (by decide +kernel)
  refine oLift st3 ?_
  exact oRet0 W3 (by decide +kernel) (lb rfl) (lb rfl) (fun vm' hv => ⟨rfl, (((Keep.refl _ [a]).wr Wr2 (Or.inl (List.mem_singleton.mpr rfl))).wr Wr3 (Or.inl (List.mem_singleton.mpr rfl))), X3, (F2.other Wr3 (Or.inr (slot_ne (a0 := a0) (C := "com/example/gentle_hub/gentlehub/server/ChannelLocation") (Or.inr (wK K 121 rfl)) (Or.inr (wK K 123 rfl)) (by decide) (t := (.object "com/example/gentle_hub/gentlehub/server/ChannelLocation$Role")) (t' := (.object "com/example/gentle_hub/gentlehub/core/ChannelName")) (by decide) (by decide)))), F3⟩)
abbrev rm_c_path : Room := { frames := 6, cells := 4, slots := 56, locals := 113 }
set_option maxRecDepth 65536 in
set_option maxHeartbeats 40000000 in
theorem c_path {l : Launch} {Z : State} {a0 : Array Value} {nb : Bool} (K : Ctx Z a0) {a r n p x : Addr} {ps cs : List Int32} {h0 : Heap} (Fr1 : Fld Z h0 a "com/example/gentle_hub/gentlehub/server/ChannelLocation" "role" "Lcom/example/gentle_hub/gentlehub/server/ChannelLocation$Role;" (.ref r)) (Fc1 : Fld Z h0 a "com/example/gentle_hub/gentlehub/server/ChannelLocation" "channel" "Lcom/example/gentle_hub/gentlehub/core/ChannelName;" (.ref n)) (Fp1 : Fld Z h0 r "com/example/gentle_hub/gentlehub/server/ChannelLocation$Role" "pathPrefix" "Ljava/lang/String;" (.ref p)) (Sp1 : Str Z h0 p ps) (Xn1 : Exa Z h0 n "com/example/gentle_hub/gentlehub/core/ChannelName") (Fv1 : Fld Z h0 n "com/example/gentle_hub/gentlehub/core/ChannelName" "value" "Ljava/lang/String;" (.ref x)) (Sx1 : Str Z h0 x cs) (hl : ps.length + cs.length < 16) :
    OC l Z EL nb [] (⟨"com/example/gentle_hub/gentlehub/server/ChannelLocation", "path", "()Ljava/lang/String;"⟩ : MethodName) prog_15_method_2_code 1 (some (.object "java/lang/String")) rm_c_path #[(.ref a)] h0 [] (fun v _ h => ∃ y, v = some (.ref y) ∧ Str Z h y (ps ++ cs) ∧ Ext h0 h) := by
  have hw := K.1
  have hS : ∀ a ∈ Bundle.stringAtoms, a.before a0 Z = true := K.2.2.1
  refine oEnter (by decide +kernel) K.2.1.2.1 ?_
  intro _p _e _s m _below _meth _c T0 W0 S0
  refine oEq (g' := mkF m 0 #[.val (.ref a)] []) (by first | (simp [entryFrame, mkF, argsToLocals, Value.category]; done) | rfl) ?_
  obtain ⟨T1, h1, b, W1, g1, E1, A1, D1, S1, C1, st1⟩ := oNew W0 (pc := 0) (ls := #[sR a]) (st := []) (wK K 129 rfl) (wK K 130 rfl) (wK K 131 rfl) (by decide +kernel) (lb rfl) (lb rfl)
  refine oLift st1 ?_
  refine oGo W1 [.dup] (by decide +kernel) (ls' := #[sR a]) (st' := [(.ref b), (.ref b)]) rfl rfl (pc' := 4) rfl ?_
  have hbf : Z.heap.size ≤ b := (Nat.le_trans W0.ext.1 g1)
  obtain ⟨v2, T2, L2, h2, vm2, W2, ⟨rfl, t, kt, g2, K2, B2, S2⟩, C2, st2⟩ := oCallN W1 (idx := 19) (pc := 4) (ls := #[sR a]) (st := [(.ref b)]) (a := b) (argsL := []) (c_sbi K hbf A1 (D1 (Or.inl (wK K 144 rfl)) (ty := (.array .byte)) (by decide)) (D1 (Or.inl (wK K 146 rfl)) (ty := .byte) (by decide)) (D1 (Or.inl (wK K 161 rfl)) (ty := .int) (by decide))) (fun x hx => nomatch hx) rfl (wK K 132 rfl) (wK K 133 rfl) (wK K 131 rfl) (wK K 134 rfl) (by decide) (na := 0) rfl (by decide +kernel) rfl (stk := [(.ref b), (.ref b)]) rfl (by decide +kernel) (V := 1) (lb rfl) (lb rfl) (lb rfl) (lb rfl) (lb rfl)
  refine oLift st2 ?_
  show OG _ _ _ _ _ _ _ _ _ _ _ (mkF m 7 #[sR a] [(.ref b)])
  have hb0 : h0.size ≤ b := g1
  have ht0 : h0.size ≤ t := Nat.le_trans E1.1 g2
  refine oGo W2 [.aload_n 0] (by decide +kernel) (ls' := #[sR a]) (st' := [(.ref a), (.ref b)]) rfl rfl (pc' := 8) rfl ?_
  obtain ⟨T3, W3, st3⟩ := oGetF W2 (pc := 8) (ls := #[sR a]) (st := [(.ref b)]) (wK K 120 rfl) Via.refl (Fr1.ext (exK E1 K2 (fun y hy => by cases List.mem_singleton.mp hy; exact g1))) (by decide +kernel)
  refine oLift st3 ?_
  obtain ⟨T4, W4, st4⟩ := oGetFR W3 (pc := 11) (ls := #[sR a]) (st := [(.ref b)]) (wK K 147 rfl) Via.refl (Fp1.ext (exK E1 K2 (fun y hy => by cases List.mem_singleton.mp hy; exact g1))) (by decide +kernel)
  refine oLift st4 ?_
  obtain ⟨v5, T5, L5, h5, vm5, W5, ⟨rfl, K5, B5, S5⟩, C5, st5⟩ := oCallV W4 (idx := 26) (pc := 14) (ls := #[sR a]) (st := []) (argsL := [(.ref p)]) B2.1 (c_sap K B2 List.length_replicate (Sp1.ext (exK E1 K2 (fun y hy => by cases List.mem_singleton.mp hy; exact g1))) (show 0 + ps.length ≤ 16 by omega) hbf) (fun y hy => by cases List.mem_singleton.mp hy; exact ⟨B2.2.2.2.2.1.lt, S2⟩) (wK K 149 rfl) (wK K 150 rfl) (notFace_of_selects (args := #[]) (mvT W4.warm (wK K 152 rfl))) (wK K 152 rfl) (wK K 151 rfl) (wK K 131 rfl) (wK K 153 rfl) (by decide) (na := 1) rfl (by decide +kernel) rfl (stk := [(.ref p), (.ref b)]) rfl (by decide +kernel) (V := 0) (lb rfl) (lb rfl) (lb rfl) (lb rfl) (lb rfl)
  refine oLift st5 ?_
  show OG _ _ _ _ _ _ _ _ _ _ _ (mkF m 17 #[sR a] [(.ref b)])
  refine oGo W5 [.aload_n 0] (by decide +kernel) (ls' := #[sR a]) (st' := [(.ref a), (.ref b)]) rfl rfl (pc' := 18) rfl ?_
  obtain ⟨T6, W6, st6⟩ := oGetF W5 (pc := 18) (ls := #[sR a]) (st := [(.ref b)]) (wK K 122 rfl) Via.refl (Fc1.ext (exK (exK E1 K2 (fun y hy => by cases List.mem_singleton.mp hy; exact g1)) K5 (fun y hy => by rcases List.mem_cons.mp hy with rfl | hy; exact hb0; cases List.mem_singleton.mp hy; exact ht0))) (by decide +kernel)
  refine oLift st6 ?_
  obtain ⟨v7, T7, L7, h7, vm7, W7, ⟨rfl, e7⟩, C7, st7⟩ := oCallV W6 (idx := 30) (pc := 21) (ls := #[sR a]) (st := [(.ref b)]) (argsL := []) (Xn1.ext (exK (exK E1 K2 (fun y hy => by cases List.mem_singleton.mp hy; exact g1)) K5 (fun y hy => by rcases List.mem_cons.mp hy with rfl | hy; exact hb0; cases List.mem_singleton.mp hy; exact ht0))) (c_cnv K (Fv1.ext (exK (exK E1 K2 (fun y hy => by cases List.mem_singleton.mp hy; exact g1)) K5 (fun y hy => by rcases List.mem_cons.mp hy with rfl | hy; exact hb0; cases List.mem_singleton.mp hy; exact ht0)))) (fun x hx => nomatch hx) (wK K 187 rfl) (wK K 188 rfl) (notFace_of_selects (args := #[]) (mvT W6.warm (wK K 190 rfl))) (wK K 190 rfl) (wK K 189 rfl) (wK K 46 rfl) (wK K 191 rfl) (by decide) (na := 0) rfl (by decide +kernel) rfl (stk := [(.ref n), (.ref b)]) rfl (by decide +kernel) (V := 1) (lb rfl) (lb rfl) (lb rfl) (lb rfl) (lb rfl)
  refine oLift st7 ?_
  rw [e7] at W7 C7
  show OG _ _ _ _ _ _ _ _ _ _ _ (mkF m 24 #[sR a] [(.ref x), (.ref b)])
  have hv1 : (cpy (List.replicate 16 (Value.int 0)) (byt ps) 0 0 ps.length).length = 16 := by rw [cpy_len (by rw [List.length_map]; omega) (by rw [List.length_replicate]; omega), List.length_replicate]
  obtain ⟨v8, T8, L8, h8, vm8, W8, ⟨rfl, K8, B8, S8⟩, C8, st8⟩ := oCallV W7 (idx := 26) (pc := 24) (ls := #[sR a]) (st := []) (argsL := [(.ref x)]) B5.1 (c_sap K B5 hv1 (Sx1.ext (exK (exK E1 K2 (fun y hy => by cases List.mem_singleton.mp hy; exact g1)) K5 (fun y hy => by rcases List.mem_cons.mp hy with rfl | hy; exact hb0; cases List.mem_singleton.mp hy; exact ht0))) (show 0 + ps.length + cs.length ≤ 16 by omega) hbf) (fun y hy => by cases List.mem_singleton.mp hy; exact ⟨B5.2.2.2.2.1.lt, (C7.safe B5.2.2.2.2.1.lt S5)⟩) (wK K 149 rfl) (wK K 150 rfl) (notFace_of_selects (args := #[]) (mvT W7.warm (wK K 152 rfl))) (wK K 152 rfl) (wK K 151 rfl) (wK K 131 rfl) (wK K 153 rfl) (by decide) (na := 1) rfl (by decide +kernel) rfl (stk := [(.ref x), (.ref b)]) rfl (by decide +kernel) (V := 0) (lb rfl) (lb rfl) (lb rfl) (lb rfl) (lb rfl)
  refine oLift st8 ?_
  show OG _ _ _ _ _ _ _ _ _ _ _ (mkF m 27 #[sR a] [(.ref b)])
  have hv2 : (cpy (cpy (List.replicate 16 (Value.int 0)) (byt ps) 0 0 ps.length) (byt cs) 0 (0 + ps.length) cs.length).length = 16 := by rw [cpy_len (by rw [List.length_map]; omega) (by rw [hv1]; omega), hv1]
  obtain ⟨v9, T9, L9, h9, vm9, W9, ⟨y, rfl, F9, E9⟩, C9, st9⟩ := oCallV W8 (idx := 36) (pc := 27) (ls := #[sR a]) (st := []) (argsL := []) B8.1 (c_tos K B8 hv2 (show 0 + ps.length + cs.length < 16 by omega) (cat_take (by omega)) (fun c hc => (List.mem_append.mp hc).elim (Sp1.lo c) (Sx1.lo c))) (fun x hx => nomatch hx) (wK K 192 rfl) (wK K 193 rfl) (notFace_of_selects (args := #[]) (mvT W8.warm (wK K 195 rfl))) (wK K 195 rfl) (wK K 194 rfl) (wK K 131 rfl) (wK K 196 rfl) (by decide) (na := 0) rfl (by decide +kernel) rfl (stk := [(.ref b)]) rfl (by decide +kernel) (V := 0) (lb rfl) (lb rfl) (lb rfl) (lb rfl) (lb rfl)
  refine oLift st9 ?_
  show OG _ _ _ _ _ _ _ _ _ _ _ (mkF m 30 #[sR a] [(.ref y)])
  exact oRetA rfl W9 rfl rfl (by decide +kernel) (lb rfl) (lb rfl) (fun vm' hv => ⟨y, rfl, F9, (exT (exK (exK (exK E1 K2 (fun y hy => by cases List.mem_singleton.mp hy; exact g1)) K5 (fun y hy => by rcases List.mem_cons.mp hy with rfl | hy; exact hb0; cases List.mem_singleton.mp hy; exact ht0)) K8 (fun y hy => by rcases List.mem_cons.mp hy with rfl | hy; exact hb0; cases List.mem_singleton.mp hy; exact ht0)) E9)⟩)
theorem al_rng (x : Int32) : 0 ≤ ((x &&& (2147483647 : Int32)) % (66 : Int32)).toInt ∧ ((x &&& (2147483647 : Int32)) % (66 : Int32)).toInt < 66 := by
  have h := c_and x 2147483647 (by decide)
  have e := (c_irem (x &&& 2147483647) 66 66 rfl).1 h.1
  rw [e]
  have := h.1
  omega
theorem al_A {i : Int32} (h0 : 0 ≤ i.toInt) (h : i < 26) : Alw (((65 : Int32) + i).toUInt32.toUInt16.toUInt32.toInt32) := by
  have e := c_i2c ((65 : Int32) + i)
  have e1 := c_iadd 65 i
  have k0 : (65 : Int32).toInt = 65 := rfl
  have k1 : (26 : Int32).toInt = 26 := rfl
  rw [Int32.lt_iff_toInt_lt, k1] at h
  have := ((65 : Int32) + i).le_toInt
  have := ((65 : Int32) + i).toInt_lt
  rw [k0] at e1
  exact Or.inl (by omega)
theorem al_b {i a b : Int32} {A B : Int} (ka : a.toInt = A) (kb : b.toInt = B) (hA : 0 ≤ A ∧ A ≤ 100) (hB : 0 ≤ B ∧ B ≤ 100) (h0 : 0 ≤ i.toInt) (h1 : i.toInt < 66) (h : ¬ i < b) : ((a + (i - b)).toUInt32.toUInt16.toUInt32.toInt32).toInt = A + (i.toInt - B) := by
  have e := c_i2c (a + (i - b))
  have e1 := c_iadd a (i - b)
  have e2 := c_isub i b
  rw [Int32.lt_iff_toInt_lt, kb] at h
  have := (a + (i - b)).le_toInt
  have := (a + (i - b)).toInt_lt
  have := (i - b).le_toInt
  have := (i - b).toInt_lt
  rw [ka] at e1
  rw [kb] at e2
  omega
theorem al_a {i : Int32} (h0 : 0 ≤ i.toInt) (h1 : i.toInt < 66) (h : ¬ i < 26) (h' : i < 52) : Alw (((97 : Int32) + (i - (26 : Int32))).toUInt32.toUInt16.toUInt32.toInt32) := by
  have e := al_b (a := 97) (b := 26) rfl rfl (by decide) (by decide) h0 h1 h
  have k1 : (26 : Int32).toInt = 26 := rfl
  have k2 : (52 : Int32).toInt = 52 := rfl
  rw [Int32.lt_iff_toInt_lt, k1] at h
  rw [Int32.lt_iff_toInt_lt, k2] at h'
  have k3 : (97 : Int32).toInt = 97 := rfl
  rw [k3, k1] at e
  exact Or.inr (Or.inl (by omega))
theorem al_0 {i : Int32} (h0 : 0 ≤ i.toInt) (h1 : i.toInt < 66) (h : ¬ i < 52) (h' : i < 62) : Alw (((48 : Int32) + (i - (52 : Int32))).toUInt32.toUInt16.toUInt32.toInt32) := by
  have e := al_b (a := 48) (b := 52) rfl rfl (by decide) (by decide) h0 h1 h
  have k1 : (52 : Int32).toInt = 52 := rfl
  have k2 : (62 : Int32).toInt = 62 := rfl
  rw [Int32.lt_iff_toInt_lt, k1] at h
  rw [Int32.lt_iff_toInt_lt, k2] at h'
  have k3 : (48 : Int32).toInt = 48 := rfl
  rw [k3, k1] at e
  exact Or.inr (Or.inr (Or.inl (by omega)))
theorem len4 (a : Int32) : (1 : Int32) + (XT.ushr a (1 : Int32) &&& (3 : Int32)) = 1 ∨ (1 : Int32) + (XT.ushr a (1 : Int32) &&& (3 : Int32)) = 2 ∨ (1 : Int32) + (XT.ushr a (1 : Int32) &&& (3 : Int32)) = 3 ∨ (1 : Int32) + (XT.ushr a (1 : Int32) &&& (3 : Int32)) = 4 := by
  have h := c_and (XT.ushr a (1 : Int32)) 3 (by decide)
  have k3 : (3 : Int32).toInt = 3 := rfl
  rw [k3] at h
  generalize (XT.ushr a (1 : Int32) &&& (3 : Int32)) = y at *
  have h4 : y.toInt = 0 ∨ y.toInt = 1 ∨ y.toInt = 2 ∨ y.toInt = 3 := by omega
  rcases h4 with q | q | q | q
  · rw [show y = 0 from Int32.toInt_inj.mp (q.trans rfl)]; decide
  · rw [show y = 1 from Int32.toInt_inj.mp (q.trans rfl)]; decide
  · rw [show y = 2 from Int32.toInt_inj.mp (q.trans rfl)]; decide
  · rw [show y = 3 from Int32.toInt_inj.mp (q.trans rfl)]; decide
abbrev rm_c_all : Room := { frames := 0, cells := 0, slots := 0, locals := 0 }
set_option maxRecDepth 65536 in
set_option maxHeartbeats 40000000 in
theorem c_all {l : Launch} {Z : State} {a0 : Array Value} {nb : Bool} (K : Ctx Z a0) {x : Int32} {h0 : Heap} :
    OC l Z EL nb [] (⟨"com/example/gentle_hub/gentlehub/server/ChannelLocationPathPinLaw", "allowed", "(I)C"⟩ : MethodName) method_2_code 2 (some .char) rm_c_all #[(.int x)] h0 [] (fun v _ h => (∃ c, v = some (.int c) ∧ Alw c) ∧ h = h0) := by
  have hw := K.1
  have hS : ∀ a ∈ Bundle.stringAtoms, a.before a0 Z = true := K.2.2.1
  obtain ⟨hi0, hi1⟩ := al_rng x
  refine oEnter (by decide +kernel) K.2.1.2.1 ?_
  intro _p _e _s m _below _meth _c T0 W0 S0
  refine oEq (g' := mkF m 0 #[.val (.int x), .unset] []) (by first | (simp [entryFrame, mkF, argsToLocals, Value.category]; done) | rfl) ?_
  refine oGo W0 [.iload_n 0] (by decide +kernel) (ls' := #[sI x, sU]) (st' := [(.int x)]) rfl rfl (pc' := 1) rfl ?_
  refine oLdcI W0 (wK K 4 rfl) (by decide +kernel) ?_
  refine oGo W0 [.iand, .bipush 66, .irem, .istore_n 1, .iload_n 1, .bipush 26] (by decide +kernel) (ls' := #[sI x, sI ((x &&& (2147483647 : Int32)) % (66 : Int32))]) (st' := [(.int 26), (.int ((x &&& (2147483647 : Int32)) % (66 : Int32)))]) rfl rfl (pc' := 11) rfl ?_
  by_cases hc1 : ((x &&& (2147483647 : Int32)) % (66 : Int32)) < (26 : Int32)
  · refine oIcF W0 (cd := .ge) (o := 9) (by decide +kernel) (XT.ii_ge_f hc1) (pc' := 14) rfl ?_
    refine oGo W0 [.bipush 65, .iload_n 1, .iadd, .i2c] (by decide +kernel) (ls' := #[sI x, sI ((x &&& (2147483647 : Int32)) % (66 : Int32))]) (st' := [(.int (((65 : Int32) + ((x &&& (2147483647 : Int32)) % (66 : Int32))).toUInt32.toUInt16.toUInt32.toInt32))]) rfl rfl (pc' := 19) rfl ?_
    exact oRetN (by simp) W0 (nar_c _) (by decide +kernel) (lb rfl) (lb rfl) (fun vm' hv => ⟨⟨_, rfl, al_A hi0 hc1⟩, rfl⟩)
  refine oIcT W0 (cd := .ge) (o := 9) (by decide +kernel) (XT.ii_ge_t hc1) (pc' := 20) (by decide) (by decide) ?_
  refine oGo W0 [.iload_n 1, .bipush 52] (by decide +kernel) (ls' := #[sI x, sI ((x &&& (2147483647 : Int32)) % (66 : Int32))]) (st' := [(.int 52), (.int ((x &&& (2147483647 : Int32)) % (66 : Int32)))]) rfl rfl (pc' := 23) rfl ?_
  by_cases hc2 : ((x &&& (2147483647 : Int32)) % (66 : Int32)) < (52 : Int32)
  · refine oIcF W0 (cd := .ge) (o := 12) (by decide +kernel) (XT.ii_ge_f hc2) (pc' := 26) rfl ?_
    refine oGo W0 [.bipush 97, .iload_n 1, .bipush 26, .isub, .iadd, .i2c] (by decide +kernel) (ls' := #[sI x, sI ((x &&& (2147483647 : Int32)) % (66 : Int32))]) (st' := [(.int (((97 : Int32) + (((x &&& (2147483647 : Int32)) % (66 : Int32)) - (26 : Int32))).toUInt32.toUInt16.toUInt32.toInt32))]) rfl rfl (pc' := 34) rfl ?_
    exact oRetN (by simp) W0 (nar_c _) (by decide +kernel) (lb rfl) (lb rfl) (fun vm' hv => ⟨⟨_, rfl, al_a hi0 hi1 hc1 hc2⟩, rfl⟩)
  refine oIcT W0 (cd := .ge) (o := 12) (by decide +kernel) (XT.ii_ge_t hc2) (pc' := 35) (by decide) (by decide) ?_
  refine oGo W0 [.iload_n 1, .bipush 62] (by decide +kernel) (ls' := #[sI x, sI ((x &&& (2147483647 : Int32)) % (66 : Int32))]) (st' := [(.int 62), (.int ((x &&& (2147483647 : Int32)) % (66 : Int32)))]) rfl rfl (pc' := 38) rfl ?_
  by_cases hc3 : ((x &&& (2147483647 : Int32)) % (66 : Int32)) < (62 : Int32)
  · refine oIcF W0 (cd := .ge) (o := 12) (by decide +kernel) (XT.ii_ge_f hc3) (pc' := 41) rfl ?_
    refine oGo W0 [.bipush 48, .iload_n 1, .bipush 52, .isub, .iadd, .i2c] (by decide +kernel) (ls' := #[sI x, sI ((x &&& (2147483647 : Int32)) % (66 : Int32))]) (st' := [(.int (((48 : Int32) + (((x &&& (2147483647 : Int32)) % (66 : Int32)) - (52 : Int32))).toUInt32.toUInt16.toUInt32.toInt32))]) rfl rfl (pc' := 49) rfl ?_
    exact oRetN (by simp) W0 (nar_c _) (by decide +kernel) (lb rfl) (lb rfl) (fun vm' hv => ⟨⟨_, rfl, al_0 hi0 hi1 hc2 hc3⟩, rfl⟩)
  refine oIcT W0 (cd := .ge) (o := 12) (by decide +kernel) (XT.ii_ge_t hc3) (pc' := 50) (by decide) (by decide) ?_
  refine oGo W0 [.iload_n 1, .bipush 62] (by decide +kernel) (ls' := #[sI x, sI ((x &&& (2147483647 : Int32)) % (66 : Int32))]) (st' := [(.int 62), (.int ((x &&& (2147483647 : Int32)) % (66 : Int32)))]) rfl rfl (pc' := 53) rfl ?_
  by_cases hc4 : ((x &&& (2147483647 : Int32)) % (66 : Int32)) = (62 : Int32)
  · refine oIcF W0 (cd := .ne) (o := 6) (by decide +kernel) (XT.ii_ne_f hc4) (pc' := 56) rfl ?_
    refine oGo W0 [.bipush 46] (by decide +kernel) (ls' := #[sI x, sI ((x &&& (2147483647 : Int32)) % (66 : Int32))]) (st' := [(.int 46)]) rfl rfl (pc' := 58) rfl ?_
    exact oRetN (by simp) W0 rfl (by decide +kernel) (lb rfl) (lb rfl) (fun vm' hv => ⟨⟨_, rfl, (Or.inr (Or.inr (Or.inr (Or.inl rfl))))⟩, rfl⟩)
  refine oIcT W0 (cd := .ne) (o := 6) (by decide +kernel) (XT.ii_ne_t hc4) (pc' := 59) (by decide) (by decide) ?_
  refine oGo W0 [.iload_n 1, .bipush 63] (by decide +kernel) (ls' := #[sI x, sI ((x &&& (2147483647 : Int32)) % (66 : Int32))]) (st' := [(.int 63), (.int ((x &&& (2147483647 : Int32)) % (66 : Int32)))]) rfl rfl (pc' := 62) rfl ?_
  by_cases hc5 : ((x &&& (2147483647 : Int32)) % (66 : Int32)) = (63 : Int32)
  · refine oIcF W0 (cd := .ne) (o := 6) (by decide +kernel) (XT.ii_ne_f hc5) (pc' := 65) rfl ?_
    refine oGo W0 [.bipush 95] (by decide +kernel) (ls' := #[sI x, sI ((x &&& (2147483647 : Int32)) % (66 : Int32))]) (st' := [(.int 95)]) rfl rfl (pc' := 67) rfl ?_
    exact oRetN (by simp) W0 rfl (by decide +kernel) (lb rfl) (lb rfl) (fun vm' hv => ⟨⟨_, rfl, (Or.inr (Or.inr (Or.inr (Or.inr (Or.inl rfl)))))⟩, rfl⟩)
  refine oIcT W0 (cd := .ne) (o := 6) (by decide +kernel) (XT.ii_ne_t hc5) (pc' := 68) (by decide) (by decide) ?_
  refine oGo W0 [.iload_n 1, .bipush 64] (by decide +kernel) (ls' := #[sI x, sI ((x &&& (2147483647 : Int32)) % (66 : Int32))]) (st' := [(.int 64), (.int ((x &&& (2147483647 : Int32)) % (66 : Int32)))]) rfl rfl (pc' := 71) rfl ?_
  by_cases hc6 : ((x &&& (2147483647 : Int32)) % (66 : Int32)) = (64 : Int32)
  · refine oIcF W0 (cd := .ne) (o := 6) (by decide +kernel) (XT.ii_ne_f hc6) (pc' := 74) rfl ?_
    refine oGo W0 [.bipush 126] (by decide +kernel) (ls' := #[sI x, sI ((x &&& (2147483647 : Int32)) % (66 : Int32))]) (st' := [(.int 126)]) rfl rfl (pc' := 76) rfl ?_
    exact oRetN (by simp) W0 rfl (by decide +kernel) (lb rfl) (lb rfl) (fun vm' hv => ⟨⟨_, rfl, (Or.inr (Or.inr (Or.inr (Or.inr (Or.inr (Or.inl rfl))))))⟩, rfl⟩)
  refine oIcT W0 (cd := .ne) (o := 6) (by decide +kernel) (XT.ii_ne_t hc6) (pc' := 77) (by decide) (by decide) ?_
  refine oGo W0 [.bipush 45] (by decide +kernel) (ls' := #[sI x, sI ((x &&& (2147483647 : Int32)) % (66 : Int32))]) (st' := [(.int 45)]) rfl rfl (pc' := 79) rfl ?_
  exact oRetN (by simp) W0 rfl (by decide +kernel) (lb rfl) (lb rfl) (fun vm' hv => ⟨⟨_, rfl, (Or.inr (Or.inr (Or.inr (Or.inr (Or.inr (Or.inr rfl))))))⟩, rfl⟩)
abbrev rm_c_dr1 : Room := { frames := 4, cells := 3, slots := 6, locals := 66 }
set_option maxRecDepth 65536 in
set_option maxHeartbeats 40000000 in
theorem c_dr1 {l : Launch} {Z : State} {a0 : Array Value} {nb : Bool} (K : Ctx Z a0) {c0 c1 c2 c3 : Int32} {h0 : Heap} (q0 : Alw c0) (q1 : Alw c1) (q2 : Alw c2) (q3 : Alw c3) :
    OC l Z EL nb [] (⟨"com/example/gentle_hub/gentlehub/server/ChannelLocationPathPinLaw", "draw", "(ICCCC)Ljava/lang/String;"⟩ : MethodName) method_3_code 5 (some (.object "java/lang/String")) rm_c_dr1 #[(.int 1), (.int c0), (.int c1), (.int c2), (.int c3)] h0 [] (fun v _ h => ∃ x, v = some (.ref x) ∧ Str Z h x [c0] ∧ Ext h0 h) := by
  have hw := K.1
  have hS : ∀ a ∈ Bundle.stringAtoms, a.before a0 Z = true := K.2.2.1
  refine oEnter (by decide +kernel) K.2.1.2.1 ?_
  intro _p _e _s m _below _meth _c T0 W0 S0
  refine oEq (g' := mkF m 0 #[.val (.int 1), .val (.int c0), .val (.int c1), .val (.int c2), .val (.int c3)] []) (by first | (simp [entryFrame, mkF, argsToLocals, Value.category]; done) | rfl) ?_
  refine oGo W0 [.iload_n 0, .iconst 1] (by decide +kernel) (ls' := #[sI 1, sI c0, sI c1, sI c2, sI c3]) (st' := [(.int 1), (.int 1)]) rfl rfl (pc' := 2) rfl ?_
  refine oIcF W0 (cd := .ne) (o := 18) (by decide +kernel) (XT.ii_ne_f (by decide)) (pc' := 5) rfl ?_
  obtain ⟨T1, h1, a1, W1, g1, E1, A1, D1, S1, C1, st1⟩ := oNew W0 (pc := 5) (ls := #[sI 1, sI c0, sI c1, sI c2, sI c3]) (st := []) (wK K 8 rfl) (wK K 9 rfl) (wK K 10 rfl) (by decide +kernel) (lb rfl) (lb rfl)
  refine oLift st1 ?_
  refine oGo W1 [.dup, .iconst 1] (by decide +kernel) (ls' := #[sI 1, sI c0, sI c1, sI c2, sI c3]) (st' := [(.int 1), (.ref a1), (.ref a1)]) rfl rfl (pc' := 10) rfl ?_
  obtain ⟨T2, h2, a2, k2, W2, g2, E2, A2, S2, C2, st2⟩ := oNewA W1 (aty := .char) (pc := 10) (ls := #[sI 1, sI c0, sI c1, sI c2, sI c3]) (st := [(.ref a1), (.ref a1)]) (wK K 11 rfl) (by decide +kernel) (n := (1 : Int32)) (by decide) (cap := 1) (lb rfl) (lb rfl) (lb rfl) (lb rfl)
  refine oLift st2 ?_
  have A2 : OA Z h2 a2 k2 .char [.int 0] := A2
  refine oGo W2 [.dup, .iconst 0, .iload_n 1] (by decide +kernel) (ls' := #[sI 1, sI c0, sI c1, sI c2, sI c3]) (st' := [(.int c0), (.int 0), (.ref a2), (.ref a2), (.ref a1), (.ref a1)]) rfl rfl (pc' := 15) rfl ?_
  obtain ⟨T3, h3, W3, Wr3, A3, C3, st3⟩ := oPut W2 A2 (j := (0 : Int32)) (x := c0) (x' := c0) (pc := 15) (ls := #[sI 1, sI c0, sI c1, sI c2, sI c3]) (st := [(.ref a2), (.ref a1), (.ref a1)]) (by decide) (i := 0) (by decide) (by simp) (Nat.le_trans W1.ext.1 g2) (A2.safe W2.warm.alike (by decide)) (ins := .castore) (Or.inl ⟨rfl, rfl, (narC (alw_lo q0))⟩) (by decide +kernel)
  refine oLift st3 ?_
  have A3 : OA Z h3 a2 k2 .char [.int c0] := A3
  obtain ⟨v4, T4, L4, h4, vm4, W4, ⟨rfl, K4, F4⟩, C4, st4⟩ := oCallN W3 (idx := 10) (pc := 16) (ls := #[sI 1, sI c0, sI c1, sI c2, sI c3]) (st := [(.ref a1)]) (a := a1) (argsL := [(.ref a2)]) (k_I1 K.2.1 [c0] (lb rfl) (lb rfl) A3 (own_cons (alw_lo q0) own_nil) (Nat.le_trans W0.ext.1 g1) (A1.ext (exW E2 Wr3 g2)) ((D1 (Or.inr (wK K 35 rfl)) (ty := .byte) (by decide)).ext (exW E2 Wr3 g2)) ((D1 (Or.inr (wK K 37 rfl)) (ty := (.array .byte)) (by decide)).ext (exW E2 Wr3 g2))) (fun y hy => by cases List.mem_singleton.mp hy; exact ⟨(A1.ext (exW E2 Wr3 g2)).lt, (C3.safe (A1.ext E2).lt (C2.safe A1.lt S1))⟩) rfl (wK K 12 rfl) (wK K 13 rfl) (wK K 10 rfl) (wK K 14 rfl) (by decide) (na := 1) rfl (by decide +kernel) rfl (stk := [(.ref a2), (.ref a1), (.ref a1)]) rfl (by decide +kernel) (V := 1) (lb rfl) (lb rfl) (lb rfl) (lb rfl) (lb rfl)
  refine oLift st4 ?_
  show OG _ _ _ _ _ _ _ _ _ _ _ (mkF m 19 #[sI 1, sI c0, sI c1, sI c2, sI c3] [(.ref a1)])
  exact oRetA rfl W4 rfl rfl (by decide +kernel) (lb rfl) (lb rfl) (fun vm' hv => ⟨_, rfl, F4, (exK (exT E1 (exW E2 Wr3 g2)) K4 (fun y hy => by cases List.mem_singleton.mp hy; exact g1))⟩)
abbrev rm_c_dr2 : Room := { frames := 4, cells := 3, slots := 8, locals := 66 }
set_option maxRecDepth 65536 in
set_option maxHeartbeats 40000000 in
theorem c_dr2 {l : Launch} {Z : State} {a0 : Array Value} {nb : Bool} (K : Ctx Z a0) {c0 c1 c2 c3 : Int32} {h0 : Heap} (q0 : Alw c0) (q1 : Alw c1) (q2 : Alw c2) (q3 : Alw c3) :
    OC l Z EL nb [] (⟨"com/example/gentle_hub/gentlehub/server/ChannelLocationPathPinLaw", "draw", "(ICCCC)Ljava/lang/String;"⟩ : MethodName) method_3_code 5 (some (.object "java/lang/String")) rm_c_dr2 #[(.int 2), (.int c0), (.int c1), (.int c2), (.int c3)] h0 [] (fun v _ h => ∃ x, v = some (.ref x) ∧ Str Z h x [c0, c1] ∧ Ext h0 h) := by
  have hw := K.1
  have hS : ∀ a ∈ Bundle.stringAtoms, a.before a0 Z = true := K.2.2.1
  refine oEnter (by decide +kernel) K.2.1.2.1 ?_
  intro _p _e _s m _below _meth _c T0 W0 S0
  refine oEq (g' := mkF m 0 #[.val (.int 2), .val (.int c0), .val (.int c1), .val (.int c2), .val (.int c3)] []) (by first | (simp [entryFrame, mkF, argsToLocals, Value.category]; done) | rfl) ?_
  refine oGo W0 [.iload_n 0, .iconst 1] (by decide +kernel) (ls' := #[sI 2, sI c0, sI c1, sI c2, sI c3]) (st' := [(.int 1), (.int 2)]) rfl rfl (pc' := 2) rfl ?_
  refine oIcT W0 (cd := .ne) (o := 18) (by decide +kernel) (XT.ii_ne_t (by decide)) (pc' := 20) (by decide) (by decide) ?_
  refine oGo W0 [.iload_n 0, .iconst 2] (by decide +kernel) (ls' := #[sI 2, sI c0, sI c1, sI c2, sI c3]) (st' := [(.int 2), (.int 2)]) rfl rfl (pc' := 22) rfl ?_
  refine oIcF W0 (cd := .ne) (o := 22) (by decide +kernel) (XT.ii_ne_f (by decide)) (pc' := 25) rfl ?_
  obtain ⟨T1, h1, a1, W1, g1, E1, A1, D1, S1, C1, st1⟩ := oNew W0 (pc := 25) (ls := #[sI 2, sI c0, sI c1, sI c2, sI c3]) (st := []) (wK K 8 rfl) (wK K 9 rfl) (wK K 10 rfl) (by decide +kernel) (lb rfl) (lb rfl)
  refine oLift st1 ?_
  refine oGo W1 [.dup, .iconst 2] (by decide +kernel) (ls' := #[sI 2, sI c0, sI c1, sI c2, sI c3]) (st' := [(.int 2), (.ref a1), (.ref a1)]) rfl rfl (pc' := 30) rfl ?_
  obtain ⟨T2, h2, a2, k2, W2, g2, E2, A2, S2, C2, st2⟩ := oNewA W1 (aty := .char) (pc := 30) (ls := #[sI 2, sI c0, sI c1, sI c2, sI c3]) (st := [(.ref a1), (.ref a1)]) (wK K 11 rfl) (by decide +kernel) (n := (2 : Int32)) (by decide) (cap := 2) (lb rfl) (lb rfl) (lb rfl) (lb rfl)
  refine oLift st2 ?_
  have A2 : OA Z h2 a2 k2 .char [.int 0, .int 0] := A2
  refine oGo W2 [.dup, .iconst 0, .iload_n 1] (by decide +kernel) (ls' := #[sI 2, sI c0, sI c1, sI c2, sI c3]) (st' := [(.int c0), (.int 0), (.ref a2), (.ref a2), (.ref a1), (.ref a1)]) rfl rfl (pc' := 35) rfl ?_
  obtain ⟨T3, h3, W3, Wr3, A3, C3, st3⟩ := oPut W2 A2 (j := (0 : Int32)) (x := c0) (x' := c0) (pc := 35) (ls := #[sI 2, sI c0, sI c1, sI c2, sI c3]) (st := [(.ref a2), (.ref a1), (.ref a1)]) (by decide) (i := 0) (by decide) (by simp) (Nat.le_trans W1.ext.1 g2) (A2.safe W2.warm.alike (by decide)) (ins := .castore) (Or.inl ⟨rfl, rfl, (narC (alw_lo q0))⟩) (by decide +kernel)
  refine oLift st3 ?_
  have A3 : OA Z h3 a2 k2 .char [.int c0, .int 0] := A3
  refine oGo W3 [.dup, .iconst 1, .iload_n 2] (by decide +kernel) (ls' := #[sI 2, sI c0, sI c1, sI c2, sI c3]) (st' := [(.int c1), (.int 1), (.ref a2), (.ref a2), (.ref a1), (.ref a1)]) rfl rfl (pc' := 39) rfl ?_
  obtain ⟨T4, h4, W4, Wr4, A4, C4, st4⟩ := oPut W3 A3 (j := (1 : Int32)) (x := c1) (x' := c1) (pc := 39) (ls := #[sI 2, sI c0, sI c1, sI c2, sI c3]) (st := [(.ref a2), (.ref a1), (.ref a1)]) (by decide) (i := 1) (by decide) (by simp) (Nat.le_trans W1.ext.1 g2) (A3.safe W3.warm.alike (by decide)) (ins := .castore) (Or.inl ⟨rfl, rfl, (narC (alw_lo q1))⟩) (by decide +kernel)
  refine oLift st4 ?_
  have A4 : OA Z h4 a2 k2 .char [.int c0, .int c1] := A4
  obtain ⟨v5, T5, L5, h5, vm5, W5, ⟨rfl, K5, F5⟩, C5, st5⟩ := oCallN W4 (idx := 10) (pc := 40) (ls := #[sI 2, sI c0, sI c1, sI c2, sI c3]) (st := [(.ref a1)]) (a := a1) (argsL := [(.ref a2)]) (k_I1 K.2.1 [c0, c1] (lb rfl) (lb rfl) A4 (own_cons (alw_lo q0) (own_cons (alw_lo q1) own_nil)) (Nat.le_trans W0.ext.1 g1) (A1.ext (exW (exW E2 Wr3 g2) Wr4 g2)) ((D1 (Or.inr (wK K 35 rfl)) (ty := .byte) (by decide)).ext (exW (exW E2 Wr3 g2) Wr4 g2)) ((D1 (Or.inr (wK K 37 rfl)) (ty := (.array .byte)) (by decide)).ext (exW (exW E2 Wr3 g2) Wr4 g2))) (fun y hy => by cases List.mem_singleton.mp hy; exact ⟨(A1.ext (exW (exW E2 Wr3 g2) Wr4 g2)).lt, (C4.safe (A1.ext (exW E2 Wr3 g2)).lt (C3.safe (A1.ext E2).lt (C2.safe A1.lt S1)))⟩) rfl (wK K 12 rfl) (wK K 13 rfl) (wK K 10 rfl) (wK K 14 rfl) (by decide) (na := 1) rfl (by decide +kernel) rfl (stk := [(.ref a2), (.ref a1), (.ref a1)]) rfl (by decide +kernel) (V := 1) (lb rfl) (lb rfl) (lb rfl) (lb rfl) (lb rfl)
  refine oLift st5 ?_
  show OG _ _ _ _ _ _ _ _ _ _ _ (mkF m 43 #[sI 2, sI c0, sI c1, sI c2, sI c3] [(.ref a1)])
  exact oRetA rfl W5 rfl rfl (by decide +kernel) (lb rfl) (lb rfl) (fun vm' hv => ⟨_, rfl, F5, (exK (exT E1 (exW (exW E2 Wr3 g2) Wr4 g2)) K5 (fun y hy => by cases List.mem_singleton.mp hy; exact g1))⟩)
abbrev rm_c_dr3 : Room := { frames := 4, cells := 3, slots := 10, locals := 66 }
set_option maxRecDepth 65536 in
set_option maxHeartbeats 40000000 in
theorem c_dr3 {l : Launch} {Z : State} {a0 : Array Value} {nb : Bool} (K : Ctx Z a0) {c0 c1 c2 c3 : Int32} {h0 : Heap} (q0 : Alw c0) (q1 : Alw c1) (q2 : Alw c2) (q3 : Alw c3) :
    OC l Z EL nb [] (⟨"com/example/gentle_hub/gentlehub/server/ChannelLocationPathPinLaw", "draw", "(ICCCC)Ljava/lang/String;"⟩ : MethodName) method_3_code 5 (some (.object "java/lang/String")) rm_c_dr3 #[(.int 3), (.int c0), (.int c1), (.int c2), (.int c3)] h0 [] (fun v _ h => ∃ x, v = some (.ref x) ∧ Str Z h x [c0, c1, c2] ∧ Ext h0 h) := by
  have hw := K.1
  have hS : ∀ a ∈ Bundle.stringAtoms, a.before a0 Z = true := K.2.2.1
  refine oEnter (by decide +kernel) K.2.1.2.1 ?_
  intro _p _e _s m _below _meth _c T0 W0 S0
  refine oEq (g' := mkF m 0 #[.val (.int 3), .val (.int c0), .val (.int c1), .val (.int c2), .val (.int c3)] []) (by first | (simp [entryFrame, mkF, argsToLocals, Value.category]; done) | rfl) ?_
  refine oGo W0 [.iload_n 0, .iconst 1] (by decide +kernel) (ls' := #[sI 3, sI c0, sI c1, sI c2, sI c3]) (st' := [(.int 1), (.int 3)]) rfl rfl (pc' := 2) rfl ?_
  refine oIcT W0 (cd := .ne) (o := 18) (by decide +kernel) (XT.ii_ne_t (by decide)) (pc' := 20) (by decide) (by decide) ?_
  refine oGo W0 [.iload_n 0, .iconst 2] (by decide +kernel) (ls' := #[sI 3, sI c0, sI c1, sI c2, sI c3]) (st' := [(.int 2), (.int 3)]) rfl rfl (pc' := 22) rfl ?_
  refine oIcT W0 (cd := .ne) (o := 22) (by decide +kernel) (XT.ii_ne_t (by decide)) (pc' := 44) (by decide) (by decide) ?_
  refine oGo W0 [.iload_n 0, .iconst 3] (by decide +kernel) (ls' := #[sI 3, sI c0, sI c1, sI c2, sI c3]) (st' := [(.int 3), (.int 3)]) rfl rfl (pc' := 46) rfl ?_
  refine oIcF W0 (cd := .ne) (o := 26) (by decide +kernel) (XT.ii_ne_f (by decide)) (pc' := 49) rfl ?_
  obtain ⟨T1, h1, a1, W1, g1, E1, A1, D1, S1, C1, st1⟩ := oNew W0 (pc := 49) (ls := #[sI 3, sI c0, sI c1, sI c2, sI c3]) (st := []) (wK K 8 rfl) (wK K 9 rfl) (wK K 10 rfl) (by decide +kernel) (lb rfl) (lb rfl)
  refine oLift st1 ?_
  refine oGo W1 [.dup, .iconst 3] (by decide +kernel) (ls' := #[sI 3, sI c0, sI c1, sI c2, sI c3]) (st' := [(.int 3), (.ref a1), (.ref a1)]) rfl rfl (pc' := 54) rfl ?_
  obtain ⟨T2, h2, a2, k2, W2, g2, E2, A2, S2, C2, st2⟩ := oNewA W1 (aty := .char) (pc := 54) (ls := #[sI 3, sI c0, sI c1, sI c2, sI c3]) (st := [(.ref a1), (.ref a1)]) (wK K 11 rfl) (by decide +kernel) (n := (3 : Int32)) (by decide) (cap := 3) (lb rfl) (lb rfl) (lb rfl) (lb rfl)
  refine oLift st2 ?_
  have A2 : OA Z h2 a2 k2 .char [.int 0, .int 0, .int 0] := A2
  refine oGo W2 [.dup, .iconst 0, .iload_n 1] (by decide +kernel) (ls' := #[sI 3, sI c0, sI c1, sI c2, sI c3]) (st' := [(.int c0), (.int 0), (.ref a2), (.ref a2), (.ref a1), (.ref a1)]) rfl rfl (pc' := 59) rfl ?_
  obtain ⟨T3, h3, W3, Wr3, A3, C3, st3⟩ := oPut W2 A2 (j := (0 : Int32)) (x := c0) (x' := c0) (pc := 59) (ls := #[sI 3, sI c0, sI c1, sI c2, sI c3]) (st := [(.ref a2), (.ref a1), (.ref a1)]) (by decide) (i := 0) (by decide) (by simp) (Nat.le_trans W1.ext.1 g2) (A2.safe W2.warm.alike (by decide)) (ins := .castore) (Or.inl ⟨rfl, rfl, (narC (alw_lo q0))⟩) (by decide +kernel)
  refine oLift st3 ?_
  have A3 : OA Z h3 a2 k2 .char [.int c0, .int 0, .int 0] := A3
  refine oGo W3 [.dup, .iconst 1, .iload_n 2] (by decide +kernel) (ls' := #[sI 3, sI c0, sI c1, sI c2, sI c3]) (st' := [(.int c1), (.int 1), (.ref a2), (.ref a2), (.ref a1), (.ref a1)]) rfl rfl (pc' := 63) rfl ?_
  obtain ⟨T4, h4, W4, Wr4, A4, C4, st4⟩ := oPut W3 A3 (j := (1 : Int32)) (x := c1) (x' := c1) (pc := 63) (ls := #[sI 3, sI c0, sI c1, sI c2, sI c3]) (st := [(.ref a2), (.ref a1), (.ref a1)]) (by decide) (i := 1) (by decide) (by simp) (Nat.le_trans W1.ext.1 g2) (A3.safe W3.warm.alike (by decide)) (ins := .castore) (Or.inl ⟨rfl, rfl, (narC (alw_lo q1))⟩) (by decide +kernel)
  refine oLift st4 ?_
  have A4 : OA Z h4 a2 k2 .char [.int c0, .int c1, .int 0] := A4
  refine oGo W4 [.dup, .iconst 2, .iload_n 3] (by decide +kernel) (ls' := #[sI 3, sI c0, sI c1, sI c2, sI c3]) (st' := [(.int c2), (.int 2), (.ref a2), (.ref a2), (.ref a1), (.ref a1)]) rfl rfl (pc' := 67) rfl ?_
  obtain ⟨T5, h5, W5, Wr5, A5, C5, st5⟩ := oPut W4 A4 (j := (2 : Int32)) (x := c2) (x' := c2) (pc := 67) (ls := #[sI 3, sI c0, sI c1, sI c2, sI c3]) (st := [(.ref a2), (.ref a1), (.ref a1)]) (by decide) (i := 2) (by decide) (by simp) (Nat.le_trans W1.ext.1 g2) (A4.safe W4.warm.alike (by decide)) (ins := .castore) (Or.inl ⟨rfl, rfl, (narC (alw_lo q2))⟩) (by decide +kernel)
  refine oLift st5 ?_
  have A5 : OA Z h5 a2 k2 .char [.int c0, .int c1, .int c2] := A5
  obtain ⟨v6, T6, L6, h6, vm6, W6, ⟨rfl, K6, F6⟩, C6, st6⟩ := oCallN W5 (idx := 10) (pc := 68) (ls := #[sI 3, sI c0, sI c1, sI c2, sI c3]) (st := [(.ref a1)]) (a := a1) (argsL := [(.ref a2)]) (k_I1 K.2.1 [c0, c1, c2] (lb rfl) (lb rfl) A5 (own_cons (alw_lo q0) (own_cons (alw_lo q1) (own_cons (alw_lo q2) own_nil))) (Nat.le_trans W0.ext.1 g1) (A1.ext (exW (exW (exW E2 Wr3 g2) Wr4 g2) Wr5 g2)) ((D1 (Or.inr (wK K 35 rfl)) (ty := .byte) (by decide)).ext (exW (exW (exW E2 Wr3 g2) Wr4 g2) Wr5 g2)) ((D1 (Or.inr (wK K 37 rfl)) (ty := (.array .byte)) (by decide)).ext (exW (exW (exW E2 Wr3 g2) Wr4 g2) Wr5 g2))) (fun y hy => by cases List.mem_singleton.mp hy; exact ⟨(A1.ext (exW (exW (exW E2 Wr3 g2) Wr4 g2) Wr5 g2)).lt, (C5.safe (A1.ext (exW (exW E2 Wr3 g2) Wr4 g2)).lt (C4.safe (A1.ext (exW E2 Wr3 g2)).lt (C3.safe (A1.ext E2).lt (C2.safe A1.lt S1))))⟩) rfl (wK K 12 rfl) (wK K 13 rfl) (wK K 10 rfl) (wK K 14 rfl) (by decide) (na := 1) rfl (by decide +kernel) rfl (stk := [(.ref a2), (.ref a1), (.ref a1)]) rfl (by decide +kernel) (V := 1) (lb rfl) (lb rfl) (lb rfl) (lb rfl) (lb rfl)
  refine oLift st6 ?_
  show OG _ _ _ _ _ _ _ _ _ _ _ (mkF m 71 #[sI 3, sI c0, sI c1, sI c2, sI c3] [(.ref a1)])
  exact oRetA rfl W6 rfl rfl (by decide +kernel) (lb rfl) (lb rfl) (fun vm' hv => ⟨_, rfl, F6, (exK (exT E1 (exW (exW (exW E2 Wr3 g2) Wr4 g2) Wr5 g2)) K6 (fun y hy => by cases List.mem_singleton.mp hy; exact g1))⟩)
abbrev rm_c_dr4 : Room := { frames := 4, cells := 3, slots := 12, locals := 66 }
set_option maxRecDepth 65536 in
set_option maxHeartbeats 40000000 in
theorem c_dr4 {l : Launch} {Z : State} {a0 : Array Value} {nb : Bool} (K : Ctx Z a0) {c0 c1 c2 c3 : Int32} {h0 : Heap} (q0 : Alw c0) (q1 : Alw c1) (q2 : Alw c2) (q3 : Alw c3) :
    OC l Z EL nb [] (⟨"com/example/gentle_hub/gentlehub/server/ChannelLocationPathPinLaw", "draw", "(ICCCC)Ljava/lang/String;"⟩ : MethodName) method_3_code 5 (some (.object "java/lang/String")) rm_c_dr4 #[(.int 4), (.int c0), (.int c1), (.int c2), (.int c3)] h0 [] (fun v _ h => ∃ x, v = some (.ref x) ∧ Str Z h x [c0, c1, c2, c3] ∧ Ext h0 h) := by
  have hw := K.1
  have hS : ∀ a ∈ Bundle.stringAtoms, a.before a0 Z = true := K.2.2.1
  refine oEnter (by decide +kernel) K.2.1.2.1 ?_
  intro _p _e _s m _below _meth _c T0 W0 S0
  refine oEq (g' := mkF m 0 #[.val (.int 4), .val (.int c0), .val (.int c1), .val (.int c2), .val (.int c3)] []) (by first | (simp [entryFrame, mkF, argsToLocals, Value.category]; done) | rfl) ?_
  refine oGo W0 [.iload_n 0, .iconst 1] (by decide +kernel) (ls' := #[sI 4, sI c0, sI c1, sI c2, sI c3]) (st' := [(.int 1), (.int 4)]) rfl rfl (pc' := 2) rfl ?_
  refine oIcT W0 (cd := .ne) (o := 18) (by decide +kernel) (XT.ii_ne_t (by decide)) (pc' := 20) (by decide) (by decide) ?_
  refine oGo W0 [.iload_n 0, .iconst 2] (by decide +kernel) (ls' := #[sI 4, sI c0, sI c1, sI c2, sI c3]) (st' := [(.int 2), (.int 4)]) rfl rfl (pc' := 22) rfl ?_
  refine oIcT W0 (cd := .ne) (o := 22) (by decide +kernel) (XT.ii_ne_t (by decide)) (pc' := 44) (by decide) (by decide) ?_
  refine oGo W0 [.iload_n 0, .iconst 3] (by decide +kernel) (ls' := #[sI 4, sI c0, sI c1, sI c2, sI c3]) (st' := [(.int 3), (.int 4)]) rfl rfl (pc' := 46) rfl ?_
  refine oIcT W0 (cd := .ne) (o := 26) (by decide +kernel) (XT.ii_ne_t (by decide)) (pc' := 72) (by decide) (by decide) ?_
  obtain ⟨T1, h1, a1, W1, g1, E1, A1, D1, S1, C1, st1⟩ := oNew W0 (pc := 72) (ls := #[sI 4, sI c0, sI c1, sI c2, sI c3]) (st := []) (wK K 8 rfl) (wK K 9 rfl) (wK K 10 rfl) (by decide +kernel) (lb rfl) (lb rfl)
  refine oLift st1 ?_
  refine oGo W1 [.dup, .iconst 4] (by decide +kernel) (ls' := #[sI 4, sI c0, sI c1, sI c2, sI c3]) (st' := [(.int 4), (.ref a1), (.ref a1)]) rfl rfl (pc' := 77) rfl ?_
  obtain ⟨T2, h2, a2, k2, W2, g2, E2, A2, S2, C2, st2⟩ := oNewA W1 (aty := .char) (pc := 77) (ls := #[sI 4, sI c0, sI c1, sI c2, sI c3]) (st := [(.ref a1), (.ref a1)]) (wK K 11 rfl) (by decide +kernel) (n := (4 : Int32)) (by decide) (cap := 4) (lb rfl) (lb rfl) (lb rfl) (lb rfl)
  refine oLift st2 ?_
  have A2 : OA Z h2 a2 k2 .char [.int 0, .int 0, .int 0, .int 0] := A2
  refine oGo W2 [.dup, .iconst 0, .iload_n 1] (by decide +kernel) (ls' := #[sI 4, sI c0, sI c1, sI c2, sI c3]) (st' := [(.int c0), (.int 0), (.ref a2), (.ref a2), (.ref a1), (.ref a1)]) rfl rfl (pc' := 82) rfl ?_
  obtain ⟨T3, h3, W3, Wr3, A3, C3, st3⟩ := oPut W2 A2 (j := (0 : Int32)) (x := c0) (x' := c0) (pc := 82) (ls := #[sI 4, sI c0, sI c1, sI c2, sI c3]) (st := [(.ref a2), (.ref a1), (.ref a1)]) (by decide) (i := 0) (by decide) (by simp) (Nat.le_trans W1.ext.1 g2) (A2.safe W2.warm.alike (by decide)) (ins := .castore) (Or.inl ⟨rfl, rfl, (narC (alw_lo q0))⟩) (by decide +kernel)
  refine oLift st3 ?_
  have A3 : OA Z h3 a2 k2 .char [.int c0, .int 0, .int 0, .int 0] := A3
  refine oGo W3 [.dup, .iconst 1, .iload_n 2] (by decide +kernel) (ls' := #[sI 4, sI c0, sI c1, sI c2, sI c3]) (st' := [(.int c1), (.int 1), (.ref a2), (.ref a2), (.ref a1), (.ref a1)]) rfl rfl (pc' := 86) rfl ?_
  obtain ⟨T4, h4, W4, Wr4, A4, C4, st4⟩ := oPut W3 A3 (j := (1 : Int32)) (x := c1) (x' := c1) (pc := 86) (ls := #[sI 4, sI c0, sI c1, sI c2, sI c3]) (st := [(.ref a2), (.ref a1), (.ref a1)]) (by decide) (i := 1) (by decide) (by simp) (Nat.le_trans W1.ext.1 g2) (A3.safe W3.warm.alike (by decide)) (ins := .castore) (Or.inl ⟨rfl, rfl, (narC (alw_lo q1))⟩) (by decide +kernel)
  refine oLift st4 ?_
  have A4 : OA Z h4 a2 k2 .char [.int c0, .int c1, .int 0, .int 0] := A4
  refine oGo W4 [.dup, .iconst 2, .iload_n 3] (by decide +kernel) (ls' := #[sI 4, sI c0, sI c1, sI c2, sI c3]) (st' := [(.int c2), (.int 2), (.ref a2), (.ref a2), (.ref a1), (.ref a1)]) rfl rfl (pc' := 90) rfl ?_
  obtain ⟨T5, h5, W5, Wr5, A5, C5, st5⟩ := oPut W4 A4 (j := (2 : Int32)) (x := c2) (x' := c2) (pc := 90) (ls := #[sI 4, sI c0, sI c1, sI c2, sI c3]) (st := [(.ref a2), (.ref a1), (.ref a1)]) (by decide) (i := 2) (by decide) (by simp) (Nat.le_trans W1.ext.1 g2) (A4.safe W4.warm.alike (by decide)) (ins := .castore) (Or.inl ⟨rfl, rfl, (narC (alw_lo q2))⟩) (by decide +kernel)
  refine oLift st5 ?_
  have A5 : OA Z h5 a2 k2 .char [.int c0, .int c1, .int c2, .int 0] := A5
  refine oGo W5 [.dup, .iconst 3, .iload 4] (by decide +kernel) (ls' := #[sI 4, sI c0, sI c1, sI c2, sI c3]) (st' := [(.int c3), (.int 3), (.ref a2), (.ref a2), (.ref a1), (.ref a1)]) rfl rfl (pc' := 95) rfl ?_
  obtain ⟨T6, h6, W6, Wr6, A6, C6, st6⟩ := oPut W5 A5 (j := (3 : Int32)) (x := c3) (x' := c3) (pc := 95) (ls := #[sI 4, sI c0, sI c1, sI c2, sI c3]) (st := [(.ref a2), (.ref a1), (.ref a1)]) (by decide) (i := 3) (by decide) (by simp) (Nat.le_trans W1.ext.1 g2) (A5.safe W5.warm.alike (by decide)) (ins := .castore) (Or.inl ⟨rfl, rfl, (narC (alw_lo q3))⟩) (by decide +kernel)
  refine oLift st6 ?_
  have A6 : OA Z h6 a2 k2 .char [.int c0, .int c1, .int c2, .int c3] := A6
  obtain ⟨v7, T7, L7, h7, vm7, W7, ⟨rfl, K7, F7⟩, C7, st7⟩ := oCallN W6 (idx := 10) (pc := 96) (ls := #[sI 4, sI c0, sI c1, sI c2, sI c3]) (st := [(.ref a1)]) (a := a1) (argsL := [(.ref a2)]) (k_I1 K.2.1 [c0, c1, c2, c3] (lb rfl) (lb rfl) A6 (own_cons (alw_lo q0) (own_cons (alw_lo q1) (own_cons (alw_lo q2) (own_cons (alw_lo q3) own_nil)))) (Nat.le_trans W0.ext.1 g1) (A1.ext (exW (exW (exW (exW E2 Wr3 g2) Wr4 g2) Wr5 g2) Wr6 g2)) ((D1 (Or.inr (wK K 35 rfl)) (ty := .byte) (by decide)).ext (exW (exW (exW (exW E2 Wr3 g2) Wr4 g2) Wr5 g2) Wr6 g2)) ((D1 (Or.inr (wK K 37 rfl)) (ty := (.array .byte)) (by decide)).ext (exW (exW (exW (exW E2 Wr3 g2) Wr4 g2) Wr5 g2) Wr6 g2))) (fun y hy => by cases List.mem_singleton.mp hy; exact ⟨(A1.ext (exW (exW (exW (exW E2 Wr3 g2) Wr4 g2) Wr5 g2) Wr6 g2)).lt, (C6.safe (A1.ext (exW (exW (exW E2 Wr3 g2) Wr4 g2) Wr5 g2)).lt (C5.safe (A1.ext (exW (exW E2 Wr3 g2) Wr4 g2)).lt (C4.safe (A1.ext (exW E2 Wr3 g2)).lt (C3.safe (A1.ext E2).lt (C2.safe A1.lt S1)))))⟩) rfl (wK K 12 rfl) (wK K 13 rfl) (wK K 10 rfl) (wK K 14 rfl) (by decide) (na := 1) rfl (by decide +kernel) rfl (stk := [(.ref a2), (.ref a1), (.ref a1)]) rfl (by decide +kernel) (V := 1) (lb rfl) (lb rfl) (lb rfl) (lb rfl) (lb rfl)
  refine oLift st7 ?_
  show OG _ _ _ _ _ _ _ _ _ _ _ (mkF m 99 #[sI 4, sI c0, sI c1, sI c2, sI c3] [(.ref a1)])
  exact oRetA rfl W7 rfl rfl (by decide +kernel) (lb rfl) (lb rfl) (fun vm' hv => ⟨_, rfl, F7, (exK (exT E1 (exW (exW (exW (exW E2 Wr3 g2) Wr4 g2) Wr5 g2) Wr6 g2)) K7 (fun y hy => by cases List.mem_singleton.mp hy; exact g1))⟩)
def Ro (Z : State) (nm : String) (r p : Addr) (ps : List Int32) : Prop := Sta Z Z.heap "com/example/gentle_hub/gentlehub/server/ChannelLocation$Role" nm "Lcom/example/gentle_hub/gentlehub/server/ChannelLocation$Role;" (.ref r) ∧ Fld Z Z.heap r "com/example/gentle_hub/gentlehub/server/ChannelLocation$Role" "pathPrefix" "Ljava/lang/String;" (.ref p) ∧ Str Z Z.heap p ps
set_option maxRecDepth 65536 in
set_option maxHeartbeats 40000000 in
theorem c_law {l : Launch} {Z : State} {a0 : Array Value} (K : Ctx Z a0) (i0 i1 i2 i3 i4 : Int32) (r0 r1 p0 p1 : Addr) (H0 : Ro Z "SUBSCRIBER" r0 p0 [47, 115, 117, 98, 47]) (H1 : Ro Z "PUBLISHER" r1 p1 [47, 112, 117, 98, 47]) (h0 : Heap) :
    OC l Z EL false tables_1 x code maxLocals ret room_1 #[(.int i0), (.int i1), (.int i2), (.int i3), (.int i4)] h0 [] (fun v _ h => v = some (.int 1)) := by
  have hw := K.1
  have hS : ∀ a ∈ Bundle.stringAtoms, a.before a0 Z = true := K.2.2.1
  obtain ⟨Sr0, Fr0, Tr0⟩ := H0
  obtain ⟨Sr1, Fr1, Tr1⟩ := H1
  refine oEnter (by decide +kernel) K.2.1.2.1 ?_
  intro _p _e _s m _below _meth _c T0 W0 S0
  refine oEq (g' := mkF m 0 #[.val (.int i0), .val (.int i1), .val (.int i2), .val (.int i3), .val (.int i4), .unset, .unset, .unset, .unset, .unset, .unset, .unset, .unset, .unset, .unset, .unset, .unset] []) (by first | (simp [entryFrame, mkF, argsToLocals, Value.category, maxLocals]; done) | rfl) ?_
  refine oGo W0 [.iload_n 0, .iconst 1, .iand] (by decide +kernel) (ls' := #[sI i0, sI i1, sI i2, sI i3, sI i4, sU, sU, sU, sU, sU, sU, sU, sU, sU, sU, sU, sU]) (st' := [(.int (i0 &&& (1 : Int32)))]) rfl rfl (pc' := 3) rfl ?_
  by_cases hc1 : (i0 &&& (1 : Int32)) = (0 : Int32)
  · refine oIfT W0 (cd := .eq) (o := 7) (by decide +kernel) (XT.i0_eq_t hc1) (pc' := 10) (by decide) (by decide) ?_
    refine oGo W0 [.iconst 0, .istore 5, .iconst 1, .iload_n 0, .iconst 1, .iushr, .iconst 3, .iand, .iadd, .istore 6, .iload_n 1] (by decide +kernel) (ls' := #[sI i0, sI i1, sI i2, sI i3, sI i4, sI 0, sI ((1 : Int32) + ((XT.ushr i0 (1 : Int32)) &&& (3 : Int32))), sU, sU, sU, sU, sU, sU, sU, sU, sU, sU]) (st' := [(.int i1)]) rfl rfl (pc' := 23) rfl ?_
    obtain ⟨v2, T2, L2, h2, vm2, W2, ⟨⟨c0, rfl, qa0⟩, e2⟩, C2, st2⟩ := oCallS W0 (idx := 13) (pc := 23) (ls := #[sI i0, sI i1, sI i2, sI i3, sI i4, sI 0, sI ((1 : Int32) + ((XT.ushr i0 (1 : Int32)) &&& (3 : Int32))), sU, sU, sU, sU, sU, sU, sU, sU, sU, sU]) (st := []) (argsL := [(.int i1)]) (c_all K) (fun x hx => nomatch hx) (wK K 0 rfl) (wK K 1 rfl) (wK K 2 rfl) (wK K 3 rfl) (by decide) (na := 1) rfl (by decide +kernel) rfl (stk := [(.int i1)]) rfl (by decide +kernel) (V := 0) (lb rfl) (lb rfl) (lb rfl) (lb rfl) (lb rfl)
    refine oLift st2 ?_
    rw [e2] at W2 C2
    show OG _ _ _ _ _ _ _ _ _ _ _ (mkF m 26 #[sI i0, sI i1, sI i2, sI i3, sI i4, sI 0, sI ((1 : Int32) + ((XT.ushr i0 (1 : Int32)) &&& (3 : Int32))), sU, sU, sU, sU, sU, sU, sU, sU, sU, sU] [(.int c0)])
    refine oGo W2 [.istore 7, .iload_n 2] (by decide +kernel) (ls' := #[sI i0, sI i1, sI i2, sI i3, sI i4, sI 0, sI ((1 : Int32) + ((XT.ushr i0 (1 : Int32)) &&& (3 : Int32))), sI c0, sU, sU, sU, sU, sU, sU, sU, sU, sU]) (st' := [(.int i2)]) rfl rfl (pc' := 29) rfl ?_
    obtain ⟨v3, T3, L3, h3, vm3, W3, ⟨⟨c1, rfl, qa1⟩, e3⟩, C3, st3⟩ := oCallS W2 (idx := 13) (pc := 29) (ls := #[sI i0, sI i1, sI i2, sI i3, sI i4, sI 0, sI ((1 : Int32) + ((XT.ushr i0 (1 : Int32)) &&& (3 : Int32))), sI c0, sU, sU, sU, sU, sU, sU, sU, sU, sU]) (st := []) (argsL := [(.int i2)]) (c_all K) (fun x hx => nomatch hx) (wK K 0 rfl) (wK K 1 rfl) (wK K 2 rfl) (wK K 3 rfl) (by decide) (na := 1) rfl (by decide +kernel) rfl (stk := [(.int i2)]) rfl (by decide +kernel) (V := 0) (lb rfl) (lb rfl) (lb rfl) (lb rfl) (lb rfl)
    refine oLift st3 ?_
    rw [e3] at W3 C3
    show OG _ _ _ _ _ _ _ _ _ _ _ (mkF m 32 #[sI i0, sI i1, sI i2, sI i3, sI i4, sI 0, sI ((1 : Int32) + ((XT.ushr i0 (1 : Int32)) &&& (3 : Int32))), sI c0, sU, sU, sU, sU, sU, sU, sU, sU, sU] [(.int c1)])
    refine oGo W3 [.istore 8, .iload_n 3] (by decide +kernel) (ls' := #[sI i0, sI i1, sI i2, sI i3, sI i4, sI 0, sI ((1 : Int32) + ((XT.ushr i0 (1 : Int32)) &&& (3 : Int32))), sI c0, sI c1, sU, sU, sU, sU, sU, sU, sU, sU]) (st' := [(.int i3)]) rfl rfl (pc' := 35) rfl ?_
    obtain ⟨v4, T4, L4, h4, vm4, W4, ⟨⟨c2, rfl, qa2⟩, e4⟩, C4, st4⟩ := oCallS W3 (idx := 13) (pc := 35) (ls := #[sI i0, sI i1, sI i2, sI i3, sI i4, sI 0, sI ((1 : Int32) + ((XT.ushr i0 (1 : Int32)) &&& (3 : Int32))), sI c0, sI c1, sU, sU, sU, sU, sU, sU, sU, sU]) (st := []) (argsL := [(.int i3)]) (c_all K) (fun x hx => nomatch hx) (wK K 0 rfl) (wK K 1 rfl) (wK K 2 rfl) (wK K 3 rfl) (by decide) (na := 1) rfl (by decide +kernel) rfl (stk := [(.int i3)]) rfl (by decide +kernel) (V := 0) (lb rfl) (lb rfl) (lb rfl) (lb rfl) (lb rfl)
    refine oLift st4 ?_
    rw [e4] at W4 C4
    show OG _ _ _ _ _ _ _ _ _ _ _ (mkF m 38 #[sI i0, sI i1, sI i2, sI i3, sI i4, sI 0, sI ((1 : Int32) + ((XT.ushr i0 (1 : Int32)) &&& (3 : Int32))), sI c0, sI c1, sU, sU, sU, sU, sU, sU, sU, sU] [(.int c2)])
    refine oGo W4 [.istore 9, .iload 4] (by decide +kernel) (ls' := #[sI i0, sI i1, sI i2, sI i3, sI i4, sI 0, sI ((1 : Int32) + ((XT.ushr i0 (1 : Int32)) &&& (3 : Int32))), sI c0, sI c1, sI c2, sU, sU, sU, sU, sU, sU, sU]) (st' := [(.int i4)]) rfl rfl (pc' := 42) rfl ?_
    obtain ⟨v5, T5, L5, h5, vm5, W5, ⟨⟨c3, rfl, qa3⟩, e5⟩, C5, st5⟩ := oCallS W4 (idx := 13) (pc := 42) (ls := #[sI i0, sI i1, sI i2, sI i3, sI i4, sI 0, sI ((1 : Int32) + ((XT.ushr i0 (1 : Int32)) &&& (3 : Int32))), sI c0, sI c1, sI c2, sU, sU, sU, sU, sU, sU, sU]) (st := []) (argsL := [(.int i4)]) (c_all K) (fun x hx => nomatch hx) (wK K 0 rfl) (wK K 1 rfl) (wK K 2 rfl) (wK K 3 rfl) (by decide) (na := 1) rfl (by decide +kernel) rfl (stk := [(.int i4)]) rfl (by decide +kernel) (V := 0) (lb rfl) (lb rfl) (lb rfl) (lb rfl) (lb rfl)
    refine oLift st5 ?_
    rw [e5] at W5 C5
    show OG _ _ _ _ _ _ _ _ _ _ _ (mkF m 45 #[sI i0, sI i1, sI i2, sI i3, sI i4, sI 0, sI ((1 : Int32) + ((XT.ushr i0 (1 : Int32)) &&& (3 : Int32))), sI c0, sI c1, sI c2, sU, sU, sU, sU, sU, sU, sU] [(.int c3)])
    refine oGo W5 [.istore 10] (by decide +kernel) (ls' := #[sI i0, sI i1, sI i2, sI i3, sI i4, sI 0, sI ((1 : Int32) + ((XT.ushr i0 (1 : Int32)) &&& (3 : Int32))), sI c0, sI c1, sI c2, sI c3, sU, sU, sU, sU, sU, sU]) (st' := []) rfl rfl (pc' := 47) rfl ?_
    rcases len4 i0 with hL | hL | hL | hL
    · rw [hL]
      refine oGo W5 [.iload 6, .iconst 1] (by decide +kernel) (ls' := #[sI i0, sI i1, sI i2, sI i3, sI i4, sI 0, sI 1, sI c0, sI c1, sI c2, sI c3, sU, sU, sU, sU, sU, sU]) (st' := [(.int 1), (.int 1)]) rfl rfl (pc' := 50) rfl ?_
      refine oIcF W5 (cd := .ne) (o := 12) (by decide +kernel) (XT.ii_ne_f (by decide)) (pc' := 53) rfl ?_
      refine oGo W5 [.iload 7, .bipush 46] (by decide +kernel) (ls' := #[sI i0, sI i1, sI i2, sI i3, sI i4, sI 0, sI 1, sI c0, sI c1, sI c2, sI c3, sU, sU, sU, sU, sU, sU]) (st' := [(.int 46), (.int c0)]) rfl rfl (pc' := 57) rfl ?_
      by_cases hc6 : c0 = (46 : Int32)
      · refine oIcF W5 (cd := .ne) (o := 5) (by decide +kernel) (XT.ii_ne_f hc6) (pc' := 60) rfl ?_
        refine oGo W5 [.iconst 1] (by decide +kernel) (ls' := #[sI i0, sI i1, sI i2, sI i3, sI i4, sI 0, sI 1, sI c0, sI c1, sI c2, sI c3, sU, sU, sU, sU, sU, sU]) (st' := [(.int 1)]) rfl rfl (pc' := 61) rfl ?_
        exact oRetN (by simp) W5 rfl (by decide +kernel) (lb rfl) (lb rfl) (fun vm' hv => rfl)
      refine oIcT W5 (cd := .ne) (o := 5) (by decide +kernel) (XT.ii_ne_t hc6) (pc' := 62) (by decide) (by decide) ?_
      refine oGo W5 [.iload 6, .iconst 2] (by decide +kernel) (ls' := #[sI i0, sI i1, sI i2, sI i3, sI i4, sI 0, sI 1, sI c0, sI c1, sI c2, sI c3, sU, sU, sU, sU, sU, sU]) (st' := [(.int 2), (.int 1)]) rfl rfl (pc' := 65) rfl ?_
      refine oIcT W5 (cd := .ne) (o := 19) (by decide +kernel) (XT.ii_ne_t (by decide)) (pc' := 84) (by decide) (by decide) ?_
      refine oGo W5 [.iload 6, .iload 7, .iload 8, .iload 9, .iload 10] (by decide +kernel) (ls' := #[sI i0, sI i1, sI i2, sI i3, sI i4, sI 0, sI 1, sI c0, sI c1, sI c2, sI c3, sU, sU, sU, sU, sU, sU]) (st' := [(.int c3), (.int c2), (.int c1), (.int c0), (.int 1)]) rfl rfl (pc' := 94) rfl ?_
      obtain ⟨v7, T7, L7, h7, vm7, W7, ⟨x, rfl, F7, E7⟩, C7, st7⟩ := oCallS W5 (idx := 19) (pc := 94) (ls := #[sI i0, sI i1, sI i2, sI i3, sI i4, sI 0, sI 1, sI c0, sI c1, sI c2, sI c3, sU, sU, sU, sU, sU, sU]) (st := []) (argsL := [(.int 1), (.int c0), (.int c1), (.int c2), (.int c3)]) (c_dr1 K (c0 := c0) (c1 := c1) (c2 := c2) (c3 := c3) qa0 qa1 qa2 qa3) (fun x hx => nomatch hx) (wK K 5 rfl) (wK K 6 rfl) (wK K 2 rfl) (wK K 7 rfl) (by decide) (na := 5) rfl (by decide +kernel) rfl (stk := [(.int c3), (.int c2), (.int c1), (.int c0), (.int 1)]) rfl (by decide +kernel) (V := 0) (lb rfl) (lb rfl) (lb rfl) (lb rfl) (lb rfl)
      refine oLift st7 ?_
      show OG _ _ _ _ _ _ _ _ _ _ _ (mkF m 97 #[sI i0, sI i1, sI i2, sI i3, sI i4, sI 0, sI 1, sI c0, sI c1, sI c2, sI c3, sU, sU, sU, sU, sU, sU] [(.ref x)])
      refine oGo W7 [.astore 11, .iload 5] (by decide +kernel) (ls' := #[sI i0, sI i1, sI i2, sI i3, sI i4, sI 0, sI 1, sI c0, sI c1, sI c2, sI c3, sR x, sU, sU, sU, sU, sU]) (st' := [(.int 0)]) rfl rfl (pc' := 101) rfl ?_
      refine oIfT W7 (cd := .eq) (o := 9) (by decide +kernel) (XT.i0_eq_t (by decide)) (pc' := 110) (by decide) (by decide) ?_
      obtain ⟨T8, W8, st8⟩ := oGetS W7 (pc := 110) (ls := #[sI i0, sI i1, sI i2, sI i3, sI i4, sI 0, sI 1, sI c0, sI c1, sI c2, sI c3, sR x, sU, sU, sU, sU, sU]) (st := []) (wK K 38 rfl) Via.refl (Sr0.ext W7.ext) (by decide +kernel)
      refine oLift st8 ?_
      refine oGo W8 [.astore 12] (by decide +kernel) (ls' := #[sI i0, sI i1, sI i2, sI i3, sI i4, sI 0, sI 1, sI c0, sI c1, sI c2, sI c3, sR x, sR r0, sU, sU, sU, sU]) (st' := []) rfl rfl (pc' := 115) rfl ?_
      obtain ⟨T9, h9, lo, W9, g9, E9, A9, D9, S9, C9, st9⟩ := oNew W8 (pc := 115) (ls := #[sI i0, sI i1, sI i2, sI i3, sI i4, sI 0, sI 1, sI c0, sI c1, sI c2, sI c3, sR x, sR r0, sU, sU, sU, sU]) (st := []) (wK K 41 rfl) (wK K 42 rfl) (wK K 43 rfl) (by decide +kernel) (lb rfl) (lb rfl)
      refine oLift st9 ?_
      refine oGo W9 [.dup, .aload 12] (by decide +kernel) (ls' := #[sI i0, sI i1, sI i2, sI i3, sI i4, sI 0, sI 1, sI c0, sI c1, sI c2, sI c3, sR x, sR r0, sU, sU, sU, sU]) (st' := [(.ref r0), (.ref lo), (.ref lo)]) rfl rfl (pc' := 121) rfl ?_
      obtain ⟨T10, h10, nm, W10, g10, E10, A10, D10, S10, C10, st10⟩ := oNew W9 (pc := 121) (ls := #[sI i0, sI i1, sI i2, sI i3, sI i4, sI 0, sI 1, sI c0, sI c1, sI c2, sI c3, sR x, sR r0, sU, sU, sU, sU]) (st := [(.ref r0), (.ref lo), (.ref lo)]) (wK K 44 rfl) (wK K 45 rfl) (wK K 46 rfl) (by decide +kernel) (lb rfl) (lb rfl)
      refine oLift st10 ?_
      refine oGo W10 [.dup, .aload 11] (by decide +kernel) (ls' := #[sI i0, sI i1, sI i2, sI i3, sI i4, sI 0, sI 1, sI c0, sI c1, sI c2, sI c3, sR x, sR r0, sU, sU, sU, sU]) (st' := [(.ref x), (.ref nm), (.ref nm), (.ref r0), (.ref lo), (.ref lo)]) rfl rfl (pc' := 127) rfl ?_
      have hnl : nm ≠ lo := Nat.ne_of_gt (Nat.lt_of_lt_of_le A9.lt g10)
      obtain ⟨v11, T11, L11, h11, vm11, W11, ⟨rfl, K11, X11, F11⟩, C11, st11⟩ := oCallN W10 (idx := 36) (pc := 127) (ls := #[sI i0, sI i1, sI i2, sI i3, sI i4, sI 0, sI 1, sI c0, sI c1, sI c2, sI c3, sR x, sR r0, sU, sU, sU, sU]) (st := [(.ref nm), (.ref r0), (.ref lo), (.ref lo)]) (a := nm) (argsL := [(.ref x)]) (c_cn1 K ((F7.ext E9).ext E10) qa0 hc6 (Nat.le_trans W9.ext.1 g10) A10 (D10 (Or.inr (wK K 115 rfl)) (ty := (.object "java/lang/String")) (by decide))) (fun x hx => nomatch hx) rfl (wK K 47 rfl) (wK K 48 rfl) (wK K 46 rfl) (wK K 49 rfl) (by decide) (na := 1) rfl (by decide +kernel) rfl (stk := [(.ref x), (.ref nm), (.ref nm), (.ref r0), (.ref lo), (.ref lo)]) rfl (by decide +kernel) (V := 4) (lb rfl) (lb rfl) (lb rfl) (lb rfl) (lb rfl)
      refine oLift st11 ?_
      show OG _ _ _ _ _ _ _ _ _ _ _ (mkF m 130 #[sI i0, sI i1, sI i2, sI i3, sI i4, sI 0, sI 1, sI c0, sI c1, sI c2, sI c3, sR x, sR r0, sU, sU, sU, sU] [(.ref nm), (.ref r0), (.ref lo), (.ref lo)])
      obtain ⟨v12, T12, L12, h12, vm12, W12, ⟨rfl, K12, X12, F12, G12⟩, C12, st12⟩ := oCallN W11 (idx := 39) (pc := 130) (ls := #[sI i0, sI i1, sI i2, sI i3, sI i4, sI 0, sI 1, sI c0, sI c1, sI c2, sI c3, sR x, sR r0, sU, sU, sU, sU]) (st := [(.ref lo)]) (a := lo) (argsL := [(.ref r0), (.ref nm)]) (c_cli K (Nat.le_trans W7.ext.1 g9) (A9.ext (exK E10 K11 (fun y hy => by cases List.mem_singleton.mp hy; exact g10))) ((D9 (Or.inr (wK K 121 rfl)) (ty := (.object "com/example/gentle_hub/gentlehub/server/ChannelLocation$Role")) (by decide)).ext (exK E10 K11 (fun y hy => by cases List.mem_singleton.mp hy; exact g10))) ((D9 (Or.inr (wK K 123 rfl)) (ty := (.object "com/example/gentle_hub/gentlehub/core/ChannelName")) (by decide)).ext (exK E10 K11 (fun y hy => by cases List.mem_singleton.mp hy; exact g10)))) (fun x hx => nomatch hx) rfl (wK K 116 rfl) (wK K 117 rfl) (wK K 43 rfl) (wK K 118 rfl) (by decide) (na := 2) rfl (by decide +kernel) rfl (stk := [(.ref nm), (.ref r0), (.ref lo), (.ref lo)]) rfl (by decide +kernel) (V := 1) (lb rfl) (lb rfl) (lb rfl) (lb rfl) (lb rfl)
      refine oLift st12 ?_
      show OG _ _ _ _ _ _ _ _ _ _ _ (mkF m 133 #[sI i0, sI i1, sI i2, sI i3, sI i4, sI 0, sI 1, sI c0, sI c1, sI c2, sI c3, sR x, sR r0, sU, sU, sU, sU] [(.ref lo)])
      refine oGo W12 [.astore 13, .aload 13] (by decide +kernel) (ls' := #[sI i0, sI i1, sI i2, sI i3, sI i4, sI 0, sI 1, sI c0, sI c1, sI c2, sI c3, sR x, sR r0, sR lo, sU, sU, sU]) (st' := [(.ref lo)]) rfl rfl (pc' := 137) rfl ?_
      obtain ⟨v13, T13, L13, h13, vm13, W13, ⟨y, rfl, F13, E13⟩, C13, st13⟩ := oCallV W12 (idx := 42) (pc := 137) (ls := #[sI i0, sI i1, sI i2, sI i3, sI i4, sI 0, sI 1, sI c0, sI c1, sI c2, sI c3, sR x, sR r0, sR lo, sU, sU, sU]) (st := []) (argsL := []) X12 (c_path K F12 G12 (Fr0.ext W12.ext) (Tr0.ext W12.ext) (X11.keep K12) (F11.keep K12 (ninS hnl nin0)) (F7.ext (exK (exT E9 (exK E10 K11 (fun y hy => by cases List.mem_singleton.mp hy; exact g10))) K12 (fun y hy => by cases List.mem_singleton.mp hy; exact g9))) (lb rfl)) (fun x hx => nomatch hx) (wK K 124 rfl) (wK K 125 rfl) (notFace_of_selects (args := #[]) (mvT W12.warm (wK K 127 rfl))) (wK K 127 rfl) (wK K 126 rfl) (wK K 43 rfl) (wK K 128 rfl) (by decide) (na := 0) rfl (by decide +kernel) rfl (stk := [(.ref lo)]) rfl (by decide +kernel) (V := 0) (lb rfl) (lb rfl) (lb rfl) (lb rfl) (lb rfl)
      refine oLift st13 ?_
      show OG _ _ _ _ _ _ _ _ _ _ _ (mkF m 140 #[sI i0, sI i1, sI i2, sI i3, sI i4, sI 0, sI 1, sI c0, sI c1, sI c2, sI c3, sR x, sR r0, sR lo, sU, sU, sU] [(.ref y)])
      refine oGo W13 [.astore 14, .aload 14] (by decide +kernel) (ls' := #[sI i0, sI i1, sI i2, sI i3, sI i4, sI 0, sI 1, sI c0, sI c1, sI c2, sI c3, sR x, sR r0, sR lo, sR y, sU, sU]) (st' := [(.ref y)]) rfl rfl (pc' := 144) rfl ?_
      refine oNuF W13 (o := 15) (by decide +kernel) (pc' := 147) rfl ?_
      refine oGo W13 [.aload 14] (by decide +kernel) (ls' := #[sI i0, sI i1, sI i2, sI i3, sI i4, sI 0, sI 1, sI c0, sI c1, sI c2, sI c3, sR x, sR r0, sR lo, sR y, sU, sU]) (st' := [(.ref y)]) rfl rfl (pc' := 149) rfl ?_
      obtain ⟨v14, T14, L14, h14, vm14, W14, ⟨rfl, e14⟩, C14, st14⟩ := oCallV W13 (idx := 46) (pc := 149) (ls := #[sI i0, sI i1, sI i2, sI i3, sI i4, sI 0, sI 1, sI c0, sI c1, sI c2, sI c3, sR x, sR r0, sR lo, sR y, sU, sU]) (st := []) (argsL := []) F13.exa (c_len K F13) (fun x hx => nomatch hx) (wK K 237 rfl) (wK K 69 rfl) (notFace_of_selects (args := #[]) (mvT W13.warm (wK K 71 rfl))) (wK K 71 rfl) (wK K 70 rfl) (wK K 10 rfl) (wK K 72 rfl) (by decide) (na := 0) rfl (by decide +kernel) rfl (stk := [(.ref y)]) rfl (by decide +kernel) (V := 0) (lb rfl) (lb rfl) (lb rfl) (lb rfl) (lb rfl)
      refine oLift st14 ?_
      rw [e14] at W14 C14
      show OG _ _ _ _ _ _ _ _ _ _ _ (mkF m 152 #[sI i0, sI i1, sI i2, sI i3, sI i4, sI 0, sI 1, sI c0, sI c1, sI c2, sI c3, sR x, sR r0, sR lo, sR y, sU, sU] [(.int 6)])
      refine oGo W14 [.iconst 5, .iload 6, .iadd] (by decide +kernel) (ls' := #[sI i0, sI i1, sI i2, sI i3, sI i4, sI 0, sI 1, sI c0, sI c1, sI c2, sI c3, sR x, sR r0, sR lo, sR y, sU, sU]) (st' := [(.int ((5 : Int32) + (1 : Int32))), (.int 6)]) rfl rfl (pc' := 156) rfl ?_
      refine oIcT W14 (cd := .eq) (o := 5) (by decide +kernel) (XT.ii_eq_t (by decide)) (pc' := 161) (by decide) (by decide) ?_
      refine oGo W14 [.iload 5] (by decide +kernel) (ls' := #[sI i0, sI i1, sI i2, sI i3, sI i4, sI 0, sI 1, sI c0, sI c1, sI c2, sI c3, sR x, sR r0, sR lo, sR y, sU, sU]) (st' := [(.int 0)]) rfl rfl (pc' := 163) rfl ?_
      refine oIfT W14 (cd := .eq) (o := 8) (by decide +kernel) (XT.i0_eq_t (by decide)) (pc' := 171) (by decide) (by decide) ?_
      refine oGo W14 [.bipush 115, .istore 15, .aload 14, .iconst 0] (by decide +kernel) (ls' := #[sI i0, sI i1, sI i2, sI i3, sI i4, sI 0, sI 1, sI c0, sI c1, sI c2, sI c3, sR x, sR r0, sR lo, sR y, sI 115, sU]) (st' := [(.int 0), (.ref y)]) rfl rfl (pc' := 178) rfl ?_
      obtain ⟨v15, T15, L15, h15, vm15, W15, ⟨rfl, e15⟩, C15, st15⟩ := oCallV W14 (idx := 50) (pc := 178) (ls := #[sI i0, sI i1, sI i2, sI i3, sI i4, sI 0, sI 1, sI c0, sI c1, sI c2, sI c3, sR x, sR r0, sR lo, sR y, sI 115, sU]) (st := []) (argsL := [(.int 0)]) F13.exa (c_chr K K.2.2.2.1 F13 (lb rfl) (i := 0) (by decide) (c := (47 : Int32)) rfl) (fun x hx => nomatch hx) (wK K 238 rfl) (wK K 79 rfl) (notFace_of_selects (args := #[]) (mvT W14.warm (wK K 81 rfl))) (wK K 81 rfl) (wK K 80 rfl) (wK K 10 rfl) (wK K 82 rfl) (by decide) (na := 1) rfl (by decide +kernel) rfl (stk := [(.int 0), (.ref y)]) rfl (by decide +kernel) (V := 0) (lb rfl) (lb rfl) (lb rfl) (lb rfl) (lb rfl)
      refine oLift st15 ?_
      rw [e15] at W15 C15
      show OG _ _ _ _ _ _ _ _ _ _ _ (mkF m 181 #[sI i0, sI i1, sI i2, sI i3, sI i4, sI 0, sI 1, sI c0, sI c1, sI c2, sI c3, sR x, sR r0, sR lo, sR y, sI 115, sU] [(.int 47)])
      refine oGo W15 [.bipush 47] (by decide +kernel) (ls' := #[sI i0, sI i1, sI i2, sI i3, sI i4, sI 0, sI 1, sI c0, sI c1, sI c2, sI c3, sR x, sR r0, sR lo, sR y, sI 115, sU]) (st' := [(.int 47), (.int 47)]) rfl rfl (pc' := 183) rfl ?_
      refine oIcF W15 (cd := .ne) (o := 51) (by decide +kernel) (XT.ii_ne_f rfl) (pc' := 186) rfl ?_
      refine oGo W15 [.aload 14, .iconst 1] (by decide +kernel) (ls' := #[sI i0, sI i1, sI i2, sI i3, sI i4, sI 0, sI 1, sI c0, sI c1, sI c2, sI c3, sR x, sR r0, sR lo, sR y, sI 115, sU]) (st' := [(.int 1), (.ref y)]) rfl rfl (pc' := 189) rfl ?_
      obtain ⟨v16, T16, L16, h16, vm16, W16, ⟨rfl, e16⟩, C16, st16⟩ := oCallV W15 (idx := 50) (pc := 189) (ls := #[sI i0, sI i1, sI i2, sI i3, sI i4, sI 0, sI 1, sI c0, sI c1, sI c2, sI c3, sR x, sR r0, sR lo, sR y, sI 115, sU]) (st := []) (argsL := [(.int 1)]) F13.exa (c_chr K K.2.2.2.1 F13 (lb rfl) (i := 1) (by decide) (c := (115 : Int32)) rfl) (fun x hx => nomatch hx) (wK K 238 rfl) (wK K 79 rfl) (notFace_of_selects (args := #[]) (mvT W15.warm (wK K 81 rfl))) (wK K 81 rfl) (wK K 80 rfl) (wK K 10 rfl) (wK K 82 rfl) (by decide) (na := 1) rfl (by decide +kernel) rfl (stk := [(.int 1), (.ref y)]) rfl (by decide +kernel) (V := 0) (lb rfl) (lb rfl) (lb rfl) (lb rfl) (lb rfl)
      refine oLift st16 ?_
      rw [e16] at W16 C16
      show OG _ _ _ _ _ _ _ _ _ _ _ (mkF m 192 #[sI i0, sI i1, sI i2, sI i3, sI i4, sI 0, sI 1, sI c0, sI c1, sI c2, sI c3, sR x, sR r0, sR lo, sR y, sI 115, sU] [(.int 115)])
      refine oGo W16 [.iload 15] (by decide +kernel) (ls' := #[sI i0, sI i1, sI i2, sI i3, sI i4, sI 0, sI 1, sI c0, sI c1, sI c2, sI c3, sR x, sR r0, sR lo, sR y, sI 115, sU]) (st' := [(.int 115), (.int 115)]) rfl rfl (pc' := 194) rfl ?_
      refine oIcF W16 (cd := .ne) (o := 40) (by decide +kernel) (XT.ii_ne_f rfl) (pc' := 197) rfl ?_
      refine oGo W16 [.aload 14, .iconst 2] (by decide +kernel) (ls' := #[sI i0, sI i1, sI i2, sI i3, sI i4, sI 0, sI 1, sI c0, sI c1, sI c2, sI c3, sR x, sR r0, sR lo, sR y, sI 115, sU]) (st' := [(.int 2), (.ref y)]) rfl rfl (pc' := 200) rfl ?_
      obtain ⟨v17, T17, L17, h17, vm17, W17, ⟨rfl, e17⟩, C17, st17⟩ := oCallV W16 (idx := 50) (pc := 200) (ls := #[sI i0, sI i1, sI i2, sI i3, sI i4, sI 0, sI 1, sI c0, sI c1, sI c2, sI c3, sR x, sR r0, sR lo, sR y, sI 115, sU]) (st := []) (argsL := [(.int 2)]) F13.exa (c_chr K K.2.2.2.1 F13 (lb rfl) (i := 2) (by decide) (c := (117 : Int32)) rfl) (fun x hx => nomatch hx) (wK K 238 rfl) (wK K 79 rfl) (notFace_of_selects (args := #[]) (mvT W16.warm (wK K 81 rfl))) (wK K 81 rfl) (wK K 80 rfl) (wK K 10 rfl) (wK K 82 rfl) (by decide) (na := 1) rfl (by decide +kernel) rfl (stk := [(.int 2), (.ref y)]) rfl (by decide +kernel) (V := 0) (lb rfl) (lb rfl) (lb rfl) (lb rfl) (lb rfl)
      refine oLift st17 ?_
      rw [e17] at W17 C17
      show OG _ _ _ _ _ _ _ _ _ _ _ (mkF m 203 #[sI i0, sI i1, sI i2, sI i3, sI i4, sI 0, sI 1, sI c0, sI c1, sI c2, sI c3, sR x, sR r0, sR lo, sR y, sI 115, sU] [(.int 117)])
      refine oGo W17 [.bipush 117] (by decide +kernel) (ls' := #[sI i0, sI i1, sI i2, sI i3, sI i4, sI 0, sI 1, sI c0, sI c1, sI c2, sI c3, sR x, sR r0, sR lo, sR y, sI 115, sU]) (st' := [(.int 117), (.int 117)]) rfl rfl (pc' := 205) rfl ?_
      refine oIcF W17 (cd := .ne) (o := 29) (by decide +kernel) (XT.ii_ne_f rfl) (pc' := 208) rfl ?_
      refine oGo W17 [.aload 14, .iconst 3] (by decide +kernel) (ls' := #[sI i0, sI i1, sI i2, sI i3, sI i4, sI 0, sI 1, sI c0, sI c1, sI c2, sI c3, sR x, sR r0, sR lo, sR y, sI 115, sU]) (st' := [(.int 3), (.ref y)]) rfl rfl (pc' := 211) rfl ?_
      obtain ⟨v18, T18, L18, h18, vm18, W18, ⟨rfl, e18⟩, C18, st18⟩ := oCallV W17 (idx := 50) (pc := 211) (ls := #[sI i0, sI i1, sI i2, sI i3, sI i4, sI 0, sI 1, sI c0, sI c1, sI c2, sI c3, sR x, sR r0, sR lo, sR y, sI 115, sU]) (st := []) (argsL := [(.int 3)]) F13.exa (c_chr K K.2.2.2.1 F13 (lb rfl) (i := 3) (by decide) (c := (98 : Int32)) rfl) (fun x hx => nomatch hx) (wK K 238 rfl) (wK K 79 rfl) (notFace_of_selects (args := #[]) (mvT W17.warm (wK K 81 rfl))) (wK K 81 rfl) (wK K 80 rfl) (wK K 10 rfl) (wK K 82 rfl) (by decide) (na := 1) rfl (by decide +kernel) rfl (stk := [(.int 3), (.ref y)]) rfl (by decide +kernel) (V := 0) (lb rfl) (lb rfl) (lb rfl) (lb rfl) (lb rfl)
      refine oLift st18 ?_
      rw [e18] at W18 C18
      show OG _ _ _ _ _ _ _ _ _ _ _ (mkF m 214 #[sI i0, sI i1, sI i2, sI i3, sI i4, sI 0, sI 1, sI c0, sI c1, sI c2, sI c3, sR x, sR r0, sR lo, sR y, sI 115, sU] [(.int 98)])
      refine oGo W18 [.bipush 98] (by decide +kernel) (ls' := #[sI i0, sI i1, sI i2, sI i3, sI i4, sI 0, sI 1, sI c0, sI c1, sI c2, sI c3, sR x, sR r0, sR lo, sR y, sI 115, sU]) (st' := [(.int 98), (.int 98)]) rfl rfl (pc' := 216) rfl ?_
      refine oIcF W18 (cd := .ne) (o := 18) (by decide +kernel) (XT.ii_ne_f rfl) (pc' := 219) rfl ?_
      refine oGo W18 [.aload 14, .iconst 4] (by decide +kernel) (ls' := #[sI i0, sI i1, sI i2, sI i3, sI i4, sI 0, sI 1, sI c0, sI c1, sI c2, sI c3, sR x, sR r0, sR lo, sR y, sI 115, sU]) (st' := [(.int 4), (.ref y)]) rfl rfl (pc' := 222) rfl ?_
      obtain ⟨v19, T19, L19, h19, vm19, W19, ⟨rfl, e19⟩, C19, st19⟩ := oCallV W18 (idx := 50) (pc := 222) (ls := #[sI i0, sI i1, sI i2, sI i3, sI i4, sI 0, sI 1, sI c0, sI c1, sI c2, sI c3, sR x, sR r0, sR lo, sR y, sI 115, sU]) (st := []) (argsL := [(.int 4)]) F13.exa (c_chr K K.2.2.2.1 F13 (lb rfl) (i := 4) (by decide) (c := (47 : Int32)) rfl) (fun x hx => nomatch hx) (wK K 238 rfl) (wK K 79 rfl) (notFace_of_selects (args := #[]) (mvT W18.warm (wK K 81 rfl))) (wK K 81 rfl) (wK K 80 rfl) (wK K 10 rfl) (wK K 82 rfl) (by decide) (na := 1) rfl (by decide +kernel) rfl (stk := [(.int 4), (.ref y)]) rfl (by decide +kernel) (V := 0) (lb rfl) (lb rfl) (lb rfl) (lb rfl) (lb rfl)
      refine oLift st19 ?_
      rw [e19] at W19 C19
      show OG _ _ _ _ _ _ _ _ _ _ _ (mkF m 225 #[sI i0, sI i1, sI i2, sI i3, sI i4, sI 0, sI 1, sI c0, sI c1, sI c2, sI c3, sR x, sR r0, sR lo, sR y, sI 115, sU] [(.int 47)])
      refine oGo W19 [.bipush 47] (by decide +kernel) (ls' := #[sI i0, sI i1, sI i2, sI i3, sI i4, sI 0, sI 1, sI c0, sI c1, sI c2, sI c3, sR x, sR r0, sR lo, sR y, sI 115, sU]) (st' := [(.int 47), (.int 47)]) rfl rfl (pc' := 227) rfl ?_
      refine oIcF W19 (cd := .ne) (o := 7) (by decide +kernel) (XT.ii_ne_f rfl) (pc' := 230) rfl ?_
      refine oGo W19 [.iconst 1, .goto 4, .istore 16, .iload 16] (by decide +kernel) (ls' := #[sI i0, sI i1, sI i2, sI i3, sI i4, sI 0, sI 1, sI c0, sI c1, sI c2, sI c3, sR x, sR r0, sR lo, sR y, sI 115, sI 1]) (st' := [(.int 1)]) rfl rfl (pc' := 239) rfl ?_
      refine oIfF W19 (cd := .eq) (o := 18) (by decide +kernel) (XT.i0_eq_f (by decide)) (pc' := 242) rfl ?_
      refine oGo W19 [.aload 14, .iconst 5] (by decide +kernel) (ls' := #[sI i0, sI i1, sI i2, sI i3, sI i4, sI 0, sI 1, sI c0, sI c1, sI c2, sI c3, sR x, sR r0, sR lo, sR y, sI 115, sI 1]) (st' := [(.int 5), (.ref y)]) rfl rfl (pc' := 245) rfl ?_
      obtain ⟨v20, T20, L20, h20, vm20, W20, ⟨rfl, e20⟩, C20, st20⟩ := oCallV W19 (idx := 50) (pc := 245) (ls := #[sI i0, sI i1, sI i2, sI i3, sI i4, sI 0, sI 1, sI c0, sI c1, sI c2, sI c3, sR x, sR r0, sR lo, sR y, sI 115, sI 1]) (st := []) (argsL := [(.int 5)]) F13.exa (c_chr K K.2.2.2.1 F13 (lb rfl) (i := 5) (by decide) (c := c0) rfl) (fun x hx => nomatch hx) (wK K 238 rfl) (wK K 79 rfl) (notFace_of_selects (args := #[]) (mvT W19.warm (wK K 81 rfl))) (wK K 81 rfl) (wK K 80 rfl) (wK K 10 rfl) (wK K 82 rfl) (by decide) (na := 1) rfl (by decide +kernel) rfl (stk := [(.int 5), (.ref y)]) rfl (by decide +kernel) (V := 0) (lb rfl) (lb rfl) (lb rfl) (lb rfl) (lb rfl)
      refine oLift st20 ?_
      rw [e20] at W20 C20
      show OG _ _ _ _ _ _ _ _ _ _ _ (mkF m 248 #[sI i0, sI i1, sI i2, sI i3, sI i4, sI 0, sI 1, sI c0, sI c1, sI c2, sI c3, sR x, sR r0, sR lo, sR y, sI 115, sI 1] [(.int c0)])
      refine oGo W20 [.iload 7] (by decide +kernel) (ls' := #[sI i0, sI i1, sI i2, sI i3, sI i4, sI 0, sI 1, sI c0, sI c1, sI c2, sI c3, sR x, sR r0, sR lo, sR y, sI 115, sI 1]) (st' := [(.int c0), (.int c0)]) rfl rfl (pc' := 250) rfl ?_
      refine oIcF W20 (cd := .ne) (o := 7) (by decide +kernel) (XT.ii_ne_f rfl) (pc' := 253) rfl ?_
      refine oGo W20 [.iconst 1, .goto 4, .istore 16, .iload 6, .iconst 2] (by decide +kernel) (ls' := #[sI i0, sI i1, sI i2, sI i3, sI i4, sI 0, sI 1, sI c0, sI c1, sI c2, sI c3, sR x, sR r0, sR lo, sR y, sI 115, sI 1]) (st' := [(.int 2), (.int 1)]) rfl rfl (pc' := 263) rfl ?_
      refine oIcT W20 (cd := .lt) (o := 27) (by decide +kernel) (XT.ii_lt_t (by decide)) (pc' := 290) (by decide) (by decide) ?_
      refine oGo W20 [.iload 6, .iconst 3] (by decide +kernel) (ls' := #[sI i0, sI i1, sI i2, sI i3, sI i4, sI 0, sI 1, sI c0, sI c1, sI c2, sI c3, sR x, sR r0, sR lo, sR y, sI 115, sI 1]) (st' := [(.int 3), (.int 1)]) rfl rfl (pc' := 293) rfl ?_
      refine oIcT W20 (cd := .lt) (o := 27) (by decide +kernel) (XT.ii_lt_t (by decide)) (pc' := 320) (by decide) (by decide) ?_
      refine oGo W20 [.iload 6, .iconst 4] (by decide +kernel) (ls' := #[sI i0, sI i1, sI i2, sI i3, sI i4, sI 0, sI 1, sI c0, sI c1, sI c2, sI c3, sR x, sR r0, sR lo, sR y, sI 115, sI 1]) (st' := [(.int 4), (.int 1)]) rfl rfl (pc' := 323) rfl ?_
      refine oIcT W20 (cd := .lt) (o := 27) (by decide +kernel) (XT.ii_lt_t (by decide)) (pc' := 350) (by decide) (by decide) ?_
      refine oGo W20 [.iload 16] (by decide +kernel) (ls' := #[sI i0, sI i1, sI i2, sI i3, sI i4, sI 0, sI 1, sI c0, sI c1, sI c2, sI c3, sR x, sR r0, sR lo, sR y, sI 115, sI 1]) (st' := [(.int 1)]) rfl rfl (pc' := 352) rfl ?_
      exact oRetN (by simp) W20 rfl (by decide +kernel) (lb rfl) (lb rfl) (fun vm' hv => rfl)
    · rw [hL]
      refine oGo W5 [.iload 6, .iconst 1] (by decide +kernel) (ls' := #[sI i0, sI i1, sI i2, sI i3, sI i4, sI 0, sI 2, sI c0, sI c1, sI c2, sI c3, sU, sU, sU, sU, sU, sU]) (st' := [(.int 1), (.int 2)]) rfl rfl (pc' := 50) rfl ?_
      refine oIcT W5 (cd := .ne) (o := 12) (by decide +kernel) (XT.ii_ne_t (by decide)) (pc' := 62) (by decide) (by decide) ?_
      refine oGo W5 [.iload 6, .iconst 2] (by decide +kernel) (ls' := #[sI i0, sI i1, sI i2, sI i3, sI i4, sI 0, sI 2, sI c0, sI c1, sI c2, sI c3, sU, sU, sU, sU, sU, sU]) (st' := [(.int 2), (.int 2)]) rfl rfl (pc' := 65) rfl ?_
      refine oIcF W5 (cd := .ne) (o := 19) (by decide +kernel) (XT.ii_ne_f (by decide)) (pc' := 68) rfl ?_
      refine oGo W5 [.iload 7, .bipush 46] (by decide +kernel) (ls' := #[sI i0, sI i1, sI i2, sI i3, sI i4, sI 0, sI 2, sI c0, sI c1, sI c2, sI c3, sU, sU, sU, sU, sU, sU]) (st' := [(.int 46), (.int c0)]) rfl rfl (pc' := 72) rfl ?_
      by_cases hc21 : c0 = (46 : Int32)
      rotate_left
      · refine oIcT W5 (cd := .ne) (o := 12) (by decide +kernel) (XT.ii_ne_t hc21) (pc' := 84) (by decide) (by decide) ?_
        refine oGo W5 [.iload 6, .iload 7, .iload 8, .iload 9, .iload 10] (by decide +kernel) (ls' := #[sI i0, sI i1, sI i2, sI i3, sI i4, sI 0, sI 2, sI c0, sI c1, sI c2, sI c3, sU, sU, sU, sU, sU, sU]) (st' := [(.int c3), (.int c2), (.int c1), (.int c0), (.int 2)]) rfl rfl (pc' := 94) rfl ?_
        obtain ⟨v22, T22, L22, h22, vm22, W22, ⟨x, rfl, F22, E22⟩, C22, st22⟩ := oCallS W5 (idx := 19) (pc := 94) (ls := #[sI i0, sI i1, sI i2, sI i3, sI i4, sI 0, sI 2, sI c0, sI c1, sI c2, sI c3, sU, sU, sU, sU, sU, sU]) (st := []) (argsL := [(.int 2), (.int c0), (.int c1), (.int c2), (.int c3)]) (c_dr2 K (c0 := c0) (c1 := c1) (c2 := c2) (c3 := c3) qa0 qa1 qa2 qa3) (fun x hx => nomatch hx) (wK K 5 rfl) (wK K 6 rfl) (wK K 2 rfl) (wK K 7 rfl) (by decide) (na := 5) rfl (by decide +kernel) rfl (stk := [(.int c3), (.int c2), (.int c1), (.int c0), (.int 2)]) rfl (by decide +kernel) (V := 0) (lb rfl) (lb rfl) (lb rfl) (lb rfl) (lb rfl)
        refine oLift st22 ?_
        show OG _ _ _ _ _ _ _ _ _ _ _ (mkF m 97 #[sI i0, sI i1, sI i2, sI i3, sI i4, sI 0, sI 2, sI c0, sI c1, sI c2, sI c3, sU, sU, sU, sU, sU, sU] [(.ref x)])
        refine oGo W22 [.astore 11, .iload 5] (by decide +kernel) (ls' := #[sI i0, sI i1, sI i2, sI i3, sI i4, sI 0, sI 2, sI c0, sI c1, sI c2, sI c3, sR x, sU, sU, sU, sU, sU]) (st' := [(.int 0)]) rfl rfl (pc' := 101) rfl ?_
        refine oIfT W22 (cd := .eq) (o := 9) (by decide +kernel) (XT.i0_eq_t (by decide)) (pc' := 110) (by decide) (by decide) ?_
        obtain ⟨T23, W23, st23⟩ := oGetS W22 (pc := 110) (ls := #[sI i0, sI i1, sI i2, sI i3, sI i4, sI 0, sI 2, sI c0, sI c1, sI c2, sI c3, sR x, sU, sU, sU, sU, sU]) (st := []) (wK K 38 rfl) Via.refl (Sr0.ext W22.ext) (by decide +kernel)
        refine oLift st23 ?_
        refine oGo W23 [.astore 12] (by decide +kernel) (ls' := #[sI i0, sI i1, sI i2, sI i3, sI i4, sI 0, sI 2, sI c0, sI c1, sI c2, sI c3, sR x, sR r0, sU, sU, sU, sU]) (st' := []) rfl rfl (pc' := 115) rfl ?_
        obtain ⟨T24, h24, lo, W24, g24, E24, A24, D24, S24, C24, st24⟩ := oNew W23 (pc := 115) (ls := #[sI i0, sI i1, sI i2, sI i3, sI i4, sI 0, sI 2, sI c0, sI c1, sI c2, sI c3, sR x, sR r0, sU, sU, sU, sU]) (st := []) (wK K 41 rfl) (wK K 42 rfl) (wK K 43 rfl) (by decide +kernel) (lb rfl) (lb rfl)
        refine oLift st24 ?_
        refine oGo W24 [.dup, .aload 12] (by decide +kernel) (ls' := #[sI i0, sI i1, sI i2, sI i3, sI i4, sI 0, sI 2, sI c0, sI c1, sI c2, sI c3, sR x, sR r0, sU, sU, sU, sU]) (st' := [(.ref r0), (.ref lo), (.ref lo)]) rfl rfl (pc' := 121) rfl ?_
        obtain ⟨T25, h25, nm, W25, g25, E25, A25, D25, S25, C25, st25⟩ := oNew W24 (pc := 121) (ls := #[sI i0, sI i1, sI i2, sI i3, sI i4, sI 0, sI 2, sI c0, sI c1, sI c2, sI c3, sR x, sR r0, sU, sU, sU, sU]) (st := [(.ref r0), (.ref lo), (.ref lo)]) (wK K 44 rfl) (wK K 45 rfl) (wK K 46 rfl) (by decide +kernel) (lb rfl) (lb rfl)
        refine oLift st25 ?_
        refine oGo W25 [.dup, .aload 11] (by decide +kernel) (ls' := #[sI i0, sI i1, sI i2, sI i3, sI i4, sI 0, sI 2, sI c0, sI c1, sI c2, sI c3, sR x, sR r0, sU, sU, sU, sU]) (st' := [(.ref x), (.ref nm), (.ref nm), (.ref r0), (.ref lo), (.ref lo)]) rfl rfl (pc' := 127) rfl ?_
        have hnl : nm ≠ lo := Nat.ne_of_gt (Nat.lt_of_lt_of_le A24.lt g25)
        obtain ⟨v26, T26, L26, h26, vm26, W26, ⟨rfl, K26, X26, F26⟩, C26, st26⟩ := oCallN W25 (idx := 36) (pc := 127) (ls := #[sI i0, sI i1, sI i2, sI i3, sI i4, sI 0, sI 2, sI c0, sI c1, sI c2, sI c3, sR x, sR r0, sU, sU, sU, sU]) (st := [(.ref nm), (.ref r0), (.ref lo), (.ref lo)]) (a := nm) (argsL := [(.ref x)]) (c_cn2 K ((F22.ext E24).ext E25) qa0 qa1 (fun q => hc21 q.1) (Nat.le_trans W24.ext.1 g25) A25 (D25 (Or.inr (wK K 115 rfl)) (ty := (.object "java/lang/String")) (by decide))) (fun x hx => nomatch hx) rfl (wK K 47 rfl) (wK K 48 rfl) (wK K 46 rfl) (wK K 49 rfl) (by decide) (na := 1) rfl (by decide +kernel) rfl (stk := [(.ref x), (.ref nm), (.ref nm), (.ref r0), (.ref lo), (.ref lo)]) rfl (by decide +kernel) (V := 4) (lb rfl) (lb rfl) (lb rfl) (lb rfl) (lb rfl)
        refine oLift st26 ?_
        show OG _ _ _ _ _ _ _ _ _ _ _ (mkF m 130 #[sI i0, sI i1, sI i2, sI i3, sI i4, sI 0, sI 2, sI c0, sI c1, sI c2, sI c3, sR x, sR r0, sU, sU, sU, sU] [(.ref nm), (.ref r0), (.ref lo), (.ref lo)])
        obtain ⟨v27, T27, L27, h27, vm27, W27, ⟨rfl, K27, X27, F27, G27⟩, C27, st27⟩ := oCallN W26 (idx := 39) (pc := 130) (ls := #[sI i0, sI i1, sI i2, sI i3, sI i4, sI 0, sI 2, sI c0, sI c1, sI c2, sI c3, sR x, sR r0, sU, sU, sU, sU]) (st := [(.ref lo)]) (a := lo) (argsL := [(.ref r0), (.ref nm)]) (c_cli K (Nat.le_trans W22.ext.1 g24) (A24.ext (exK E25 K26 (fun y hy => by cases List.mem_singleton.mp hy; exact g25))) ((D24 (Or.inr (wK K 121 rfl)) (ty := (.object "com/example/gentle_hub/gentlehub/server/ChannelLocation$Role")) (by decide)).ext (exK E25 K26 (fun y hy => by cases List.mem_singleton.mp hy; exact g25))) ((D24 (Or.inr (wK K 123 rfl)) (ty := (.object "com/example/gentle_hub/gentlehub/core/ChannelName")) (by decide)).ext (exK E25 K26 (fun y hy => by cases List.mem_singleton.mp hy; exact g25)))) (fun x hx => nomatch hx) rfl (wK K 116 rfl) (wK K 117 rfl) (wK K 43 rfl) (wK K 118 rfl) (by decide) (na := 2) rfl (by decide +kernel) rfl (stk := [(.ref nm), (.ref r0), (.ref lo), (.ref lo)]) rfl (by decide +kernel) (V := 1) (lb rfl) (lb rfl) (lb rfl) (lb rfl) (lb rfl)
        refine oLift st27 ?_
        show OG _ _ _ _ _ _ _ _ _ _ _ (mkF m 133 #[sI i0, sI i1, sI i2, sI i3, sI i4, sI 0, sI 2, sI c0, sI c1, sI c2, sI c3, sR x, sR r0, sU, sU, sU, sU] [(.ref lo)])
        refine oGo W27 [.astore 13, .aload 13] (by decide +kernel) (ls' := #[sI i0, sI i1, sI i2, sI i3, sI i4, sI 0, sI 2, sI c0, sI c1, sI c2, sI c3, sR x, sR r0, sR lo, sU, sU, sU]) (st' := [(.ref lo)]) rfl rfl (pc' := 137) rfl ?_
        obtain ⟨v28, T28, L28, h28, vm28, W28, ⟨y, rfl, F28, E28⟩, C28, st28⟩ := oCallV W27 (idx := 42) (pc := 137) (ls := #[sI i0, sI i1, sI i2, sI i3, sI i4, sI 0, sI 2, sI c0, sI c1, sI c2, sI c3, sR x, sR r0, sR lo, sU, sU, sU]) (st := []) (argsL := []) X27 (c_path K F27 G27 (Fr0.ext W27.ext) (Tr0.ext W27.ext) (X26.keep K27) (F26.keep K27 (ninS hnl nin0)) (F22.ext (exK (exT E24 (exK E25 K26 (fun y hy => by cases List.mem_singleton.mp hy; exact g25))) K27 (fun y hy => by cases List.mem_singleton.mp hy; exact g24))) (lb rfl)) (fun x hx => nomatch hx) (wK K 124 rfl) (wK K 125 rfl) (notFace_of_selects (args := #[]) (mvT W27.warm (wK K 127 rfl))) (wK K 127 rfl) (wK K 126 rfl) (wK K 43 rfl) (wK K 128 rfl) (by decide) (na := 0) rfl (by decide +kernel) rfl (stk := [(.ref lo)]) rfl (by decide +kernel) (V := 0) (lb rfl) (lb rfl) (lb rfl) (lb rfl) (lb rfl)
        refine oLift st28 ?_
        show OG _ _ _ _ _ _ _ _ _ _ _ (mkF m 140 #[sI i0, sI i1, sI i2, sI i3, sI i4, sI 0, sI 2, sI c0, sI c1, sI c2, sI c3, sR x, sR r0, sR lo, sU, sU, sU] [(.ref y)])
        refine oGo W28 [.astore 14, .aload 14] (by decide +kernel) (ls' := #[sI i0, sI i1, sI i2, sI i3, sI i4, sI 0, sI 2, sI c0, sI c1, sI c2, sI c3, sR x, sR r0, sR lo, sR y, sU, sU]) (st' := [(.ref y)]) rfl rfl (pc' := 144) rfl ?_
        refine oNuF W28 (o := 15) (by decide +kernel) (pc' := 147) rfl ?_
        refine oGo W28 [.aload 14] (by decide +kernel) (ls' := #[sI i0, sI i1, sI i2, sI i3, sI i4, sI 0, sI 2, sI c0, sI c1, sI c2, sI c3, sR x, sR r0, sR lo, sR y, sU, sU]) (st' := [(.ref y)]) rfl rfl (pc' := 149) rfl ?_
        obtain ⟨v29, T29, L29, h29, vm29, W29, ⟨rfl, e29⟩, C29, st29⟩ := oCallV W28 (idx := 46) (pc := 149) (ls := #[sI i0, sI i1, sI i2, sI i3, sI i4, sI 0, sI 2, sI c0, sI c1, sI c2, sI c3, sR x, sR r0, sR lo, sR y, sU, sU]) (st := []) (argsL := []) F28.exa (c_len K F28) (fun x hx => nomatch hx) (wK K 237 rfl) (wK K 69 rfl) (notFace_of_selects (args := #[]) (mvT W28.warm (wK K 71 rfl))) (wK K 71 rfl) (wK K 70 rfl) (wK K 10 rfl) (wK K 72 rfl) (by decide) (na := 0) rfl (by decide +kernel) rfl (stk := [(.ref y)]) rfl (by decide +kernel) (V := 0) (lb rfl) (lb rfl) (lb rfl) (lb rfl) (lb rfl)
        refine oLift st29 ?_
        rw [e29] at W29 C29
        show OG _ _ _ _ _ _ _ _ _ _ _ (mkF m 152 #[sI i0, sI i1, sI i2, sI i3, sI i4, sI 0, sI 2, sI c0, sI c1, sI c2, sI c3, sR x, sR r0, sR lo, sR y, sU, sU] [(.int 7)])
        refine oGo W29 [.iconst 5, .iload 6, .iadd] (by decide +kernel) (ls' := #[sI i0, sI i1, sI i2, sI i3, sI i4, sI 0, sI 2, sI c0, sI c1, sI c2, sI c3, sR x, sR r0, sR lo, sR y, sU, sU]) (st' := [(.int ((5 : Int32) + (2 : Int32))), (.int 7)]) rfl rfl (pc' := 156) rfl ?_
        refine oIcT W29 (cd := .eq) (o := 5) (by decide +kernel) (XT.ii_eq_t (by decide)) (pc' := 161) (by decide) (by decide) ?_
        refine oGo W29 [.iload 5] (by decide +kernel) (ls' := #[sI i0, sI i1, sI i2, sI i3, sI i4, sI 0, sI 2, sI c0, sI c1, sI c2, sI c3, sR x, sR r0, sR lo, sR y, sU, sU]) (st' := [(.int 0)]) rfl rfl (pc' := 163) rfl ?_
        refine oIfT W29 (cd := .eq) (o := 8) (by decide +kernel) (XT.i0_eq_t (by decide)) (pc' := 171) (by decide) (by decide) ?_
        refine oGo W29 [.bipush 115, .istore 15, .aload 14, .iconst 0] (by decide +kernel) (ls' := #[sI i0, sI i1, sI i2, sI i3, sI i4, sI 0, sI 2, sI c0, sI c1, sI c2, sI c3, sR x, sR r0, sR lo, sR y, sI 115, sU]) (st' := [(.int 0), (.ref y)]) rfl rfl (pc' := 178) rfl ?_
        obtain ⟨v30, T30, L30, h30, vm30, W30, ⟨rfl, e30⟩, C30, st30⟩ := oCallV W29 (idx := 50) (pc := 178) (ls := #[sI i0, sI i1, sI i2, sI i3, sI i4, sI 0, sI 2, sI c0, sI c1, sI c2, sI c3, sR x, sR r0, sR lo, sR y, sI 115, sU]) (st := []) (argsL := [(.int 0)]) F28.exa (c_chr K K.2.2.2.1 F28 (lb rfl) (i := 0) (by decide) (c := (47 : Int32)) rfl) (fun x hx => nomatch hx) (wK K 238 rfl) (wK K 79 rfl) (notFace_of_selects (args := #[]) (mvT W29.warm (wK K 81 rfl))) (wK K 81 rfl) (wK K 80 rfl) (wK K 10 rfl) (wK K 82 rfl) (by decide) (na := 1) rfl (by decide +kernel) rfl (stk := [(.int 0), (.ref y)]) rfl (by decide +kernel) (V := 0) (lb rfl) (lb rfl) (lb rfl) (lb rfl) (lb rfl)
        refine oLift st30 ?_
        rw [e30] at W30 C30
        show OG _ _ _ _ _ _ _ _ _ _ _ (mkF m 181 #[sI i0, sI i1, sI i2, sI i3, sI i4, sI 0, sI 2, sI c0, sI c1, sI c2, sI c3, sR x, sR r0, sR lo, sR y, sI 115, sU] [(.int 47)])
        refine oGo W30 [.bipush 47] (by decide +kernel) (ls' := #[sI i0, sI i1, sI i2, sI i3, sI i4, sI 0, sI 2, sI c0, sI c1, sI c2, sI c3, sR x, sR r0, sR lo, sR y, sI 115, sU]) (st' := [(.int 47), (.int 47)]) rfl rfl (pc' := 183) rfl ?_
        refine oIcF W30 (cd := .ne) (o := 51) (by decide +kernel) (XT.ii_ne_f rfl) (pc' := 186) rfl ?_
        refine oGo W30 [.aload 14, .iconst 1] (by decide +kernel) (ls' := #[sI i0, sI i1, sI i2, sI i3, sI i4, sI 0, sI 2, sI c0, sI c1, sI c2, sI c3, sR x, sR r0, sR lo, sR y, sI 115, sU]) (st' := [(.int 1), (.ref y)]) rfl rfl (pc' := 189) rfl ?_
        obtain ⟨v31, T31, L31, h31, vm31, W31, ⟨rfl, e31⟩, C31, st31⟩ := oCallV W30 (idx := 50) (pc := 189) (ls := #[sI i0, sI i1, sI i2, sI i3, sI i4, sI 0, sI 2, sI c0, sI c1, sI c2, sI c3, sR x, sR r0, sR lo, sR y, sI 115, sU]) (st := []) (argsL := [(.int 1)]) F28.exa (c_chr K K.2.2.2.1 F28 (lb rfl) (i := 1) (by decide) (c := (115 : Int32)) rfl) (fun x hx => nomatch hx) (wK K 238 rfl) (wK K 79 rfl) (notFace_of_selects (args := #[]) (mvT W30.warm (wK K 81 rfl))) (wK K 81 rfl) (wK K 80 rfl) (wK K 10 rfl) (wK K 82 rfl) (by decide) (na := 1) rfl (by decide +kernel) rfl (stk := [(.int 1), (.ref y)]) rfl (by decide +kernel) (V := 0) (lb rfl) (lb rfl) (lb rfl) (lb rfl) (lb rfl)
        refine oLift st31 ?_
        rw [e31] at W31 C31
        show OG _ _ _ _ _ _ _ _ _ _ _ (mkF m 192 #[sI i0, sI i1, sI i2, sI i3, sI i4, sI 0, sI 2, sI c0, sI c1, sI c2, sI c3, sR x, sR r0, sR lo, sR y, sI 115, sU] [(.int 115)])
        refine oGo W31 [.iload 15] (by decide +kernel) (ls' := #[sI i0, sI i1, sI i2, sI i3, sI i4, sI 0, sI 2, sI c0, sI c1, sI c2, sI c3, sR x, sR r0, sR lo, sR y, sI 115, sU]) (st' := [(.int 115), (.int 115)]) rfl rfl (pc' := 194) rfl ?_
        refine oIcF W31 (cd := .ne) (o := 40) (by decide +kernel) (XT.ii_ne_f rfl) (pc' := 197) rfl ?_
        refine oGo W31 [.aload 14, .iconst 2] (by decide +kernel) (ls' := #[sI i0, sI i1, sI i2, sI i3, sI i4, sI 0, sI 2, sI c0, sI c1, sI c2, sI c3, sR x, sR r0, sR lo, sR y, sI 115, sU]) (st' := [(.int 2), (.ref y)]) rfl rfl (pc' := 200) rfl ?_
        obtain ⟨v32, T32, L32, h32, vm32, W32, ⟨rfl, e32⟩, C32, st32⟩ := oCallV W31 (idx := 50) (pc := 200) (ls := #[sI i0, sI i1, sI i2, sI i3, sI i4, sI 0, sI 2, sI c0, sI c1, sI c2, sI c3, sR x, sR r0, sR lo, sR y, sI 115, sU]) (st := []) (argsL := [(.int 2)]) F28.exa (c_chr K K.2.2.2.1 F28 (lb rfl) (i := 2) (by decide) (c := (117 : Int32)) rfl) (fun x hx => nomatch hx) (wK K 238 rfl) (wK K 79 rfl) (notFace_of_selects (args := #[]) (mvT W31.warm (wK K 81 rfl))) (wK K 81 rfl) (wK K 80 rfl) (wK K 10 rfl) (wK K 82 rfl) (by decide) (na := 1) rfl (by decide +kernel) rfl (stk := [(.int 2), (.ref y)]) rfl (by decide +kernel) (V := 0) (lb rfl) (lb rfl) (lb rfl) (lb rfl) (lb rfl)
        refine oLift st32 ?_
        rw [e32] at W32 C32
        show OG _ _ _ _ _ _ _ _ _ _ _ (mkF m 203 #[sI i0, sI i1, sI i2, sI i3, sI i4, sI 0, sI 2, sI c0, sI c1, sI c2, sI c3, sR x, sR r0, sR lo, sR y, sI 115, sU] [(.int 117)])
        refine oGo W32 [.bipush 117] (by decide +kernel) (ls' := #[sI i0, sI i1, sI i2, sI i3, sI i4, sI 0, sI 2, sI c0, sI c1, sI c2, sI c3, sR x, sR r0, sR lo, sR y, sI 115, sU]) (st' := [(.int 117), (.int 117)]) rfl rfl (pc' := 205) rfl ?_
        refine oIcF W32 (cd := .ne) (o := 29) (by decide +kernel) (XT.ii_ne_f rfl) (pc' := 208) rfl ?_
        refine oGo W32 [.aload 14, .iconst 3] (by decide +kernel) (ls' := #[sI i0, sI i1, sI i2, sI i3, sI i4, sI 0, sI 2, sI c0, sI c1, sI c2, sI c3, sR x, sR r0, sR lo, sR y, sI 115, sU]) (st' := [(.int 3), (.ref y)]) rfl rfl (pc' := 211) rfl ?_
        obtain ⟨v33, T33, L33, h33, vm33, W33, ⟨rfl, e33⟩, C33, st33⟩ := oCallV W32 (idx := 50) (pc := 211) (ls := #[sI i0, sI i1, sI i2, sI i3, sI i4, sI 0, sI 2, sI c0, sI c1, sI c2, sI c3, sR x, sR r0, sR lo, sR y, sI 115, sU]) (st := []) (argsL := [(.int 3)]) F28.exa (c_chr K K.2.2.2.1 F28 (lb rfl) (i := 3) (by decide) (c := (98 : Int32)) rfl) (fun x hx => nomatch hx) (wK K 238 rfl) (wK K 79 rfl) (notFace_of_selects (args := #[]) (mvT W32.warm (wK K 81 rfl))) (wK K 81 rfl) (wK K 80 rfl) (wK K 10 rfl) (wK K 82 rfl) (by decide) (na := 1) rfl (by decide +kernel) rfl (stk := [(.int 3), (.ref y)]) rfl (by decide +kernel) (V := 0) (lb rfl) (lb rfl) (lb rfl) (lb rfl) (lb rfl)
        refine oLift st33 ?_
        rw [e33] at W33 C33
        show OG _ _ _ _ _ _ _ _ _ _ _ (mkF m 214 #[sI i0, sI i1, sI i2, sI i3, sI i4, sI 0, sI 2, sI c0, sI c1, sI c2, sI c3, sR x, sR r0, sR lo, sR y, sI 115, sU] [(.int 98)])
        refine oGo W33 [.bipush 98] (by decide +kernel) (ls' := #[sI i0, sI i1, sI i2, sI i3, sI i4, sI 0, sI 2, sI c0, sI c1, sI c2, sI c3, sR x, sR r0, sR lo, sR y, sI 115, sU]) (st' := [(.int 98), (.int 98)]) rfl rfl (pc' := 216) rfl ?_
        refine oIcF W33 (cd := .ne) (o := 18) (by decide +kernel) (XT.ii_ne_f rfl) (pc' := 219) rfl ?_
        refine oGo W33 [.aload 14, .iconst 4] (by decide +kernel) (ls' := #[sI i0, sI i1, sI i2, sI i3, sI i4, sI 0, sI 2, sI c0, sI c1, sI c2, sI c3, sR x, sR r0, sR lo, sR y, sI 115, sU]) (st' := [(.int 4), (.ref y)]) rfl rfl (pc' := 222) rfl ?_
        obtain ⟨v34, T34, L34, h34, vm34, W34, ⟨rfl, e34⟩, C34, st34⟩ := oCallV W33 (idx := 50) (pc := 222) (ls := #[sI i0, sI i1, sI i2, sI i3, sI i4, sI 0, sI 2, sI c0, sI c1, sI c2, sI c3, sR x, sR r0, sR lo, sR y, sI 115, sU]) (st := []) (argsL := [(.int 4)]) F28.exa (c_chr K K.2.2.2.1 F28 (lb rfl) (i := 4) (by decide) (c := (47 : Int32)) rfl) (fun x hx => nomatch hx) (wK K 238 rfl) (wK K 79 rfl) (notFace_of_selects (args := #[]) (mvT W33.warm (wK K 81 rfl))) (wK K 81 rfl) (wK K 80 rfl) (wK K 10 rfl) (wK K 82 rfl) (by decide) (na := 1) rfl (by decide +kernel) rfl (stk := [(.int 4), (.ref y)]) rfl (by decide +kernel) (V := 0) (lb rfl) (lb rfl) (lb rfl) (lb rfl) (lb rfl)
        refine oLift st34 ?_
        rw [e34] at W34 C34
        show OG _ _ _ _ _ _ _ _ _ _ _ (mkF m 225 #[sI i0, sI i1, sI i2, sI i3, sI i4, sI 0, sI 2, sI c0, sI c1, sI c2, sI c3, sR x, sR r0, sR lo, sR y, sI 115, sU] [(.int 47)])
        refine oGo W34 [.bipush 47] (by decide +kernel) (ls' := #[sI i0, sI i1, sI i2, sI i3, sI i4, sI 0, sI 2, sI c0, sI c1, sI c2, sI c3, sR x, sR r0, sR lo, sR y, sI 115, sU]) (st' := [(.int 47), (.int 47)]) rfl rfl (pc' := 227) rfl ?_
        refine oIcF W34 (cd := .ne) (o := 7) (by decide +kernel) (XT.ii_ne_f rfl) (pc' := 230) rfl ?_
        refine oGo W34 [.iconst 1, .goto 4, .istore 16, .iload 16] (by decide +kernel) (ls' := #[sI i0, sI i1, sI i2, sI i3, sI i4, sI 0, sI 2, sI c0, sI c1, sI c2, sI c3, sR x, sR r0, sR lo, sR y, sI 115, sI 1]) (st' := [(.int 1)]) rfl rfl (pc' := 239) rfl ?_
        refine oIfF W34 (cd := .eq) (o := 18) (by decide +kernel) (XT.i0_eq_f (by decide)) (pc' := 242) rfl ?_
        refine oGo W34 [.aload 14, .iconst 5] (by decide +kernel) (ls' := #[sI i0, sI i1, sI i2, sI i3, sI i4, sI 0, sI 2, sI c0, sI c1, sI c2, sI c3, sR x, sR r0, sR lo, sR y, sI 115, sI 1]) (st' := [(.int 5), (.ref y)]) rfl rfl (pc' := 245) rfl ?_
        obtain ⟨v35, T35, L35, h35, vm35, W35, ⟨rfl, e35⟩, C35, st35⟩ := oCallV W34 (idx := 50) (pc := 245) (ls := #[sI i0, sI i1, sI i2, sI i3, sI i4, sI 0, sI 2, sI c0, sI c1, sI c2, sI c3, sR x, sR r0, sR lo, sR y, sI 115, sI 1]) (st := []) (argsL := [(.int 5)]) F28.exa (c_chr K K.2.2.2.1 F28 (lb rfl) (i := 5) (by decide) (c := c0) rfl) (fun x hx => nomatch hx) (wK K 238 rfl) (wK K 79 rfl) (notFace_of_selects (args := #[]) (mvT W34.warm (wK K 81 rfl))) (wK K 81 rfl) (wK K 80 rfl) (wK K 10 rfl) (wK K 82 rfl) (by decide) (na := 1) rfl (by decide +kernel) rfl (stk := [(.int 5), (.ref y)]) rfl (by decide +kernel) (V := 0) (lb rfl) (lb rfl) (lb rfl) (lb rfl) (lb rfl)
        refine oLift st35 ?_
        rw [e35] at W35 C35
        show OG _ _ _ _ _ _ _ _ _ _ _ (mkF m 248 #[sI i0, sI i1, sI i2, sI i3, sI i4, sI 0, sI 2, sI c0, sI c1, sI c2, sI c3, sR x, sR r0, sR lo, sR y, sI 115, sI 1] [(.int c0)])
        refine oGo W35 [.iload 7] (by decide +kernel) (ls' := #[sI i0, sI i1, sI i2, sI i3, sI i4, sI 0, sI 2, sI c0, sI c1, sI c2, sI c3, sR x, sR r0, sR lo, sR y, sI 115, sI 1]) (st' := [(.int c0), (.int c0)]) rfl rfl (pc' := 250) rfl ?_
        refine oIcF W35 (cd := .ne) (o := 7) (by decide +kernel) (XT.ii_ne_f rfl) (pc' := 253) rfl ?_
        refine oGo W35 [.iconst 1, .goto 4, .istore 16, .iload 6, .iconst 2] (by decide +kernel) (ls' := #[sI i0, sI i1, sI i2, sI i3, sI i4, sI 0, sI 2, sI c0, sI c1, sI c2, sI c3, sR x, sR r0, sR lo, sR y, sI 115, sI 1]) (st' := [(.int 2), (.int 2)]) rfl rfl (pc' := 263) rfl ?_
        refine oIcF W35 (cd := .lt) (o := 27) (by decide +kernel) (XT.ii_lt_f (by decide)) (pc' := 266) rfl ?_
        refine oGo W35 [.iload 16] (by decide +kernel) (ls' := #[sI i0, sI i1, sI i2, sI i3, sI i4, sI 0, sI 2, sI c0, sI c1, sI c2, sI c3, sR x, sR r0, sR lo, sR y, sI 115, sI 1]) (st' := [(.int 1)]) rfl rfl (pc' := 268) rfl ?_
        refine oIfF W35 (cd := .eq) (o := 19) (by decide +kernel) (XT.i0_eq_f (by decide)) (pc' := 271) rfl ?_
        refine oGo W35 [.aload 14, .bipush 6] (by decide +kernel) (ls' := #[sI i0, sI i1, sI i2, sI i3, sI i4, sI 0, sI 2, sI c0, sI c1, sI c2, sI c3, sR x, sR r0, sR lo, sR y, sI 115, sI 1]) (st' := [(.int 6), (.ref y)]) rfl rfl (pc' := 275) rfl ?_
        obtain ⟨v36, T36, L36, h36, vm36, W36, ⟨rfl, e36⟩, C36, st36⟩ := oCallV W35 (idx := 50) (pc := 275) (ls := #[sI i0, sI i1, sI i2, sI i3, sI i4, sI 0, sI 2, sI c0, sI c1, sI c2, sI c3, sR x, sR r0, sR lo, sR y, sI 115, sI 1]) (st := []) (argsL := [(.int 6)]) F28.exa (c_chr K K.2.2.2.1 F28 (lb rfl) (i := 6) (by decide) (c := c1) rfl) (fun x hx => nomatch hx) (wK K 238 rfl) (wK K 79 rfl) (notFace_of_selects (args := #[]) (mvT W35.warm (wK K 81 rfl))) (wK K 81 rfl) (wK K 80 rfl) (wK K 10 rfl) (wK K 82 rfl) (by decide) (na := 1) rfl (by decide +kernel) rfl (stk := [(.int 6), (.ref y)]) rfl (by decide +kernel) (V := 0) (lb rfl) (lb rfl) (lb rfl) (lb rfl) (lb rfl)
        refine oLift st36 ?_
        rw [e36] at W36 C36
        show OG _ _ _ _ _ _ _ _ _ _ _ (mkF m 278 #[sI i0, sI i1, sI i2, sI i3, sI i4, sI 0, sI 2, sI c0, sI c1, sI c2, sI c3, sR x, sR r0, sR lo, sR y, sI 115, sI 1] [(.int c1)])
        refine oGo W36 [.iload 8] (by decide +kernel) (ls' := #[sI i0, sI i1, sI i2, sI i3, sI i4, sI 0, sI 2, sI c0, sI c1, sI c2, sI c3, sR x, sR r0, sR lo, sR y, sI 115, sI 1]) (st' := [(.int c1), (.int c1)]) rfl rfl (pc' := 280) rfl ?_
        refine oIcF W36 (cd := .ne) (o := 7) (by decide +kernel) (XT.ii_ne_f rfl) (pc' := 283) rfl ?_
        refine oGo W36 [.iconst 1, .goto 4, .istore 16, .iload 6, .iconst 3] (by decide +kernel) (ls' := #[sI i0, sI i1, sI i2, sI i3, sI i4, sI 0, sI 2, sI c0, sI c1, sI c2, sI c3, sR x, sR r0, sR lo, sR y, sI 115, sI 1]) (st' := [(.int 3), (.int 2)]) rfl rfl (pc' := 293) rfl ?_
        refine oIcT W36 (cd := .lt) (o := 27) (by decide +kernel) (XT.ii_lt_t (by decide)) (pc' := 320) (by decide) (by decide) ?_
        refine oGo W36 [.iload 6, .iconst 4] (by decide +kernel) (ls' := #[sI i0, sI i1, sI i2, sI i3, sI i4, sI 0, sI 2, sI c0, sI c1, sI c2, sI c3, sR x, sR r0, sR lo, sR y, sI 115, sI 1]) (st' := [(.int 4), (.int 2)]) rfl rfl (pc' := 323) rfl ?_
        refine oIcT W36 (cd := .lt) (o := 27) (by decide +kernel) (XT.ii_lt_t (by decide)) (pc' := 350) (by decide) (by decide) ?_
        refine oGo W36 [.iload 16] (by decide +kernel) (ls' := #[sI i0, sI i1, sI i2, sI i3, sI i4, sI 0, sI 2, sI c0, sI c1, sI c2, sI c3, sR x, sR r0, sR lo, sR y, sI 115, sI 1]) (st' := [(.int 1)]) rfl rfl (pc' := 352) rfl ?_
        exact oRetN (by simp) W36 rfl (by decide +kernel) (lb rfl) (lb rfl) (fun vm' hv => rfl)
      refine oIcF W5 (cd := .ne) (o := 12) (by decide +kernel) (XT.ii_ne_f hc21) (pc' := 75) rfl ?_
      refine oGo W5 [.iload 8, .bipush 46] (by decide +kernel) (ls' := #[sI i0, sI i1, sI i2, sI i3, sI i4, sI 0, sI 2, sI c0, sI c1, sI c2, sI c3, sU, sU, sU, sU, sU, sU]) (st' := [(.int 46), (.int c1)]) rfl rfl (pc' := 79) rfl ?_
      by_cases hc37 : c1 = (46 : Int32)
      · refine oIcF W5 (cd := .ne) (o := 5) (by decide +kernel) (XT.ii_ne_f hc37) (pc' := 82) rfl ?_
        refine oGo W5 [.iconst 1] (by decide +kernel) (ls' := #[sI i0, sI i1, sI i2, sI i3, sI i4, sI 0, sI 2, sI c0, sI c1, sI c2, sI c3, sU, sU, sU, sU, sU, sU]) (st' := [(.int 1)]) rfl rfl (pc' := 83) rfl ?_
        exact oRetN (by simp) W5 rfl (by decide +kernel) (lb rfl) (lb rfl) (fun vm' hv => rfl)
      refine oIcT W5 (cd := .ne) (o := 5) (by decide +kernel) (XT.ii_ne_t hc37) (pc' := 84) (by decide) (by decide) ?_
      refine oGo W5 [.iload 6, .iload 7, .iload 8, .iload 9, .iload 10] (by decide +kernel) (ls' := #[sI i0, sI i1, sI i2, sI i3, sI i4, sI 0, sI 2, sI c0, sI c1, sI c2, sI c3, sU, sU, sU, sU, sU, sU]) (st' := [(.int c3), (.int c2), (.int c1), (.int c0), (.int 2)]) rfl rfl (pc' := 94) rfl ?_
      obtain ⟨v38, T38, L38, h38, vm38, W38, ⟨x, rfl, F38, E38⟩, C38, st38⟩ := oCallS W5 (idx := 19) (pc := 94) (ls := #[sI i0, sI i1, sI i2, sI i3, sI i4, sI 0, sI 2, sI c0, sI c1, sI c2, sI c3, sU, sU, sU, sU, sU, sU]) (st := []) (argsL := [(.int 2), (.int c0), (.int c1), (.int c2), (.int c3)]) (c_dr2 K (c0 := c0) (c1 := c1) (c2 := c2) (c3 := c3) qa0 qa1 qa2 qa3) (fun x hx => nomatch hx) (wK K 5 rfl) (wK K 6 rfl) (wK K 2 rfl) (wK K 7 rfl) (by decide) (na := 5) rfl (by decide +kernel) rfl (stk := [(.int c3), (.int c2), (.int c1), (.int c0), (.int 2)]) rfl (by decide +kernel) (V := 0) (lb rfl) (lb rfl) (lb rfl) (lb rfl) (lb rfl)
      refine oLift st38 ?_
      show OG _ _ _ _ _ _ _ _ _ _ _ (mkF m 97 #[sI i0, sI i1, sI i2, sI i3, sI i4, sI 0, sI 2, sI c0, sI c1, sI c2, sI c3, sU, sU, sU, sU, sU, sU] [(.ref x)])
      refine oGo W38 [.astore 11, .iload 5] (by decide +kernel) (ls' := #[sI i0, sI i1, sI i2, sI i3, sI i4, sI 0, sI 2, sI c0, sI c1, sI c2, sI c3, sR x, sU, sU, sU, sU, sU]) (st' := [(.int 0)]) rfl rfl (pc' := 101) rfl ?_
      refine oIfT W38 (cd := .eq) (o := 9) (by decide +kernel) (XT.i0_eq_t (by decide)) (pc' := 110) (by decide) (by decide) ?_
      obtain ⟨T39, W39, st39⟩ := oGetS W38 (pc := 110) (ls := #[sI i0, sI i1, sI i2, sI i3, sI i4, sI 0, sI 2, sI c0, sI c1, sI c2, sI c3, sR x, sU, sU, sU, sU, sU]) (st := []) (wK K 38 rfl) Via.refl (Sr0.ext W38.ext) (by decide +kernel)
      refine oLift st39 ?_
      refine oGo W39 [.astore 12] (by decide +kernel) (ls' := #[sI i0, sI i1, sI i2, sI i3, sI i4, sI 0, sI 2, sI c0, sI c1, sI c2, sI c3, sR x, sR r0, sU, sU, sU, sU]) (st' := []) rfl rfl (pc' := 115) rfl ?_
      obtain ⟨T40, h40, lo, W40, g40, E40, A40, D40, S40, C40, st40⟩ := oNew W39 (pc := 115) (ls := #[sI i0, sI i1, sI i2, sI i3, sI i4, sI 0, sI 2, sI c0, sI c1, sI c2, sI c3, sR x, sR r0, sU, sU, sU, sU]) (st := []) (wK K 41 rfl) (wK K 42 rfl) (wK K 43 rfl) (by decide +kernel) (lb rfl) (lb rfl)
      refine oLift st40 ?_
      refine oGo W40 [.dup, .aload 12] (by decide +kernel) (ls' := #[sI i0, sI i1, sI i2, sI i3, sI i4, sI 0, sI 2, sI c0, sI c1, sI c2, sI c3, sR x, sR r0, sU, sU, sU, sU]) (st' := [(.ref r0), (.ref lo), (.ref lo)]) rfl rfl (pc' := 121) rfl ?_
      obtain ⟨T41, h41, nm, W41, g41, E41, A41, D41, S41, C41, st41⟩ := oNew W40 (pc := 121) (ls := #[sI i0, sI i1, sI i2, sI i3, sI i4, sI 0, sI 2, sI c0, sI c1, sI c2, sI c3, sR x, sR r0, sU, sU, sU, sU]) (st := [(.ref r0), (.ref lo), (.ref lo)]) (wK K 44 rfl) (wK K 45 rfl) (wK K 46 rfl) (by decide +kernel) (lb rfl) (lb rfl)
      refine oLift st41 ?_
      refine oGo W41 [.dup, .aload 11] (by decide +kernel) (ls' := #[sI i0, sI i1, sI i2, sI i3, sI i4, sI 0, sI 2, sI c0, sI c1, sI c2, sI c3, sR x, sR r0, sU, sU, sU, sU]) (st' := [(.ref x), (.ref nm), (.ref nm), (.ref r0), (.ref lo), (.ref lo)]) rfl rfl (pc' := 127) rfl ?_
      have hnl : nm ≠ lo := Nat.ne_of_gt (Nat.lt_of_lt_of_le A40.lt g41)
      obtain ⟨v42, T42, L42, h42, vm42, W42, ⟨rfl, K42, X42, F42⟩, C42, st42⟩ := oCallN W41 (idx := 36) (pc := 127) (ls := #[sI i0, sI i1, sI i2, sI i3, sI i4, sI 0, sI 2, sI c0, sI c1, sI c2, sI c3, sR x, sR r0, sU, sU, sU, sU]) (st := [(.ref nm), (.ref r0), (.ref lo), (.ref lo)]) (a := nm) (argsL := [(.ref x)]) (c_cn2 K ((F38.ext E40).ext E41) qa0 qa1 (fun q => hc37 q.2) (Nat.le_trans W40.ext.1 g41) A41 (D41 (Or.inr (wK K 115 rfl)) (ty := (.object "java/lang/String")) (by decide))) (fun x hx => nomatch hx) rfl (wK K 47 rfl) (wK K 48 rfl) (wK K 46 rfl) (wK K 49 rfl) (by decide) (na := 1) rfl (by decide +kernel) rfl (stk := [(.ref x), (.ref nm), (.ref nm), (.ref r0), (.ref lo), (.ref lo)]) rfl (by decide +kernel) (V := 4) (lb rfl) (lb rfl) (lb rfl) (lb rfl) (lb rfl)
      refine oLift st42 ?_
      show OG _ _ _ _ _ _ _ _ _ _ _ (mkF m 130 #[sI i0, sI i1, sI i2, sI i3, sI i4, sI 0, sI 2, sI c0, sI c1, sI c2, sI c3, sR x, sR r0, sU, sU, sU, sU] [(.ref nm), (.ref r0), (.ref lo), (.ref lo)])
      obtain ⟨v43, T43, L43, h43, vm43, W43, ⟨rfl, K43, X43, F43, G43⟩, C43, st43⟩ := oCallN W42 (idx := 39) (pc := 130) (ls := #[sI i0, sI i1, sI i2, sI i3, sI i4, sI 0, sI 2, sI c0, sI c1, sI c2, sI c3, sR x, sR r0, sU, sU, sU, sU]) (st := [(.ref lo)]) (a := lo) (argsL := [(.ref r0), (.ref nm)]) (c_cli K (Nat.le_trans W38.ext.1 g40) (A40.ext (exK E41 K42 (fun y hy => by cases List.mem_singleton.mp hy; exact g41))) ((D40 (Or.inr (wK K 121 rfl)) (ty := (.object "com/example/gentle_hub/gentlehub/server/ChannelLocation$Role")) (by decide)).ext (exK E41 K42 (fun y hy => by cases List.mem_singleton.mp hy; exact g41))) ((D40 (Or.inr (wK K 123 rfl)) (ty := (.object "com/example/gentle_hub/gentlehub/core/ChannelName")) (by decide)).ext (exK E41 K42 (fun y hy => by cases List.mem_singleton.mp hy; exact g41)))) (fun x hx => nomatch hx) rfl (wK K 116 rfl) (wK K 117 rfl) (wK K 43 rfl) (wK K 118 rfl) (by decide) (na := 2) rfl (by decide +kernel) rfl (stk := [(.ref nm), (.ref r0), (.ref lo), (.ref lo)]) rfl (by decide +kernel) (V := 1) (lb rfl) (lb rfl) (lb rfl) (lb rfl) (lb rfl)
      refine oLift st43 ?_
      show OG _ _ _ _ _ _ _ _ _ _ _ (mkF m 133 #[sI i0, sI i1, sI i2, sI i3, sI i4, sI 0, sI 2, sI c0, sI c1, sI c2, sI c3, sR x, sR r0, sU, sU, sU, sU] [(.ref lo)])
      refine oGo W43 [.astore 13, .aload 13] (by decide +kernel) (ls' := #[sI i0, sI i1, sI i2, sI i3, sI i4, sI 0, sI 2, sI c0, sI c1, sI c2, sI c3, sR x, sR r0, sR lo, sU, sU, sU]) (st' := [(.ref lo)]) rfl rfl (pc' := 137) rfl ?_
      obtain ⟨v44, T44, L44, h44, vm44, W44, ⟨y, rfl, F44, E44⟩, C44, st44⟩ := oCallV W43 (idx := 42) (pc := 137) (ls := #[sI i0, sI i1, sI i2, sI i3, sI i4, sI 0, sI 2, sI c0, sI c1, sI c2, sI c3, sR x, sR r0, sR lo, sU, sU, sU]) (st := []) (argsL := []) X43 (c_path K F43 G43 (Fr0.ext W43.ext) (Tr0.ext W43.ext) (X42.keep K43) (F42.keep K43 (ninS hnl nin0)) (F38.ext (exK (exT E40 (exK E41 K42 (fun y hy => by cases List.mem_singleton.mp hy; exact g41))) K43 (fun y hy => by cases List.mem_singleton.mp hy; exact g40))) (lb rfl)) (fun x hx => nomatch hx) (wK K 124 rfl) (wK K 125 rfl) (notFace_of_selects (args := #[]) (mvT W43.warm (wK K 127 rfl))) (wK K 127 rfl) (wK K 126 rfl) (wK K 43 rfl) (wK K 128 rfl) (by decide) (na := 0) rfl (by decide +kernel) rfl (stk := [(.ref lo)]) rfl (by decide +kernel) (V := 0) (lb rfl) (lb rfl) (lb rfl) (lb rfl) (lb rfl)
      refine oLift st44 ?_
      show OG _ _ _ _ _ _ _ _ _ _ _ (mkF m 140 #[sI i0, sI i1, sI i2, sI i3, sI i4, sI 0, sI 2, sI c0, sI c1, sI c2, sI c3, sR x, sR r0, sR lo, sU, sU, sU] [(.ref y)])
      refine oGo W44 [.astore 14, .aload 14] (by decide +kernel) (ls' := #[sI i0, sI i1, sI i2, sI i3, sI i4, sI 0, sI 2, sI c0, sI c1, sI c2, sI c3, sR x, sR r0, sR lo, sR y, sU, sU]) (st' := [(.ref y)]) rfl rfl (pc' := 144) rfl ?_
      refine oNuF W44 (o := 15) (by decide +kernel) (pc' := 147) rfl ?_
      refine oGo W44 [.aload 14] (by decide +kernel) (ls' := #[sI i0, sI i1, sI i2, sI i3, sI i4, sI 0, sI 2, sI c0, sI c1, sI c2, sI c3, sR x, sR r0, sR lo, sR y, sU, sU]) (st' := [(.ref y)]) rfl rfl (pc' := 149) rfl ?_
      obtain ⟨v45, T45, L45, h45, vm45, W45, ⟨rfl, e45⟩, C45, st45⟩ := oCallV W44 (idx := 46) (pc := 149) (ls := #[sI i0, sI i1, sI i2, sI i3, sI i4, sI 0, sI 2, sI c0, sI c1, sI c2, sI c3, sR x, sR r0, sR lo, sR y, sU, sU]) (st := []) (argsL := []) F44.exa (c_len K F44) (fun x hx => nomatch hx) (wK K 237 rfl) (wK K 69 rfl) (notFace_of_selects (args := #[]) (mvT W44.warm (wK K 71 rfl))) (wK K 71 rfl) (wK K 70 rfl) (wK K 10 rfl) (wK K 72 rfl) (by decide) (na := 0) rfl (by decide +kernel) rfl (stk := [(.ref y)]) rfl (by decide +kernel) (V := 0) (lb rfl) (lb rfl) (lb rfl) (lb rfl) (lb rfl)
      refine oLift st45 ?_
      rw [e45] at W45 C45
      show OG _ _ _ _ _ _ _ _ _ _ _ (mkF m 152 #[sI i0, sI i1, sI i2, sI i3, sI i4, sI 0, sI 2, sI c0, sI c1, sI c2, sI c3, sR x, sR r0, sR lo, sR y, sU, sU] [(.int 7)])
      refine oGo W45 [.iconst 5, .iload 6, .iadd] (by decide +kernel) (ls' := #[sI i0, sI i1, sI i2, sI i3, sI i4, sI 0, sI 2, sI c0, sI c1, sI c2, sI c3, sR x, sR r0, sR lo, sR y, sU, sU]) (st' := [(.int ((5 : Int32) + (2 : Int32))), (.int 7)]) rfl rfl (pc' := 156) rfl ?_
      refine oIcT W45 (cd := .eq) (o := 5) (by decide +kernel) (XT.ii_eq_t (by decide)) (pc' := 161) (by decide) (by decide) ?_
      refine oGo W45 [.iload 5] (by decide +kernel) (ls' := #[sI i0, sI i1, sI i2, sI i3, sI i4, sI 0, sI 2, sI c0, sI c1, sI c2, sI c3, sR x, sR r0, sR lo, sR y, sU, sU]) (st' := [(.int 0)]) rfl rfl (pc' := 163) rfl ?_
      refine oIfT W45 (cd := .eq) (o := 8) (by decide +kernel) (XT.i0_eq_t (by decide)) (pc' := 171) (by decide) (by decide) ?_
      refine oGo W45 [.bipush 115, .istore 15, .aload 14, .iconst 0] (by decide +kernel) (ls' := #[sI i0, sI i1, sI i2, sI i3, sI i4, sI 0, sI 2, sI c0, sI c1, sI c2, sI c3, sR x, sR r0, sR lo, sR y, sI 115, sU]) (st' := [(.int 0), (.ref y)]) rfl rfl (pc' := 178) rfl ?_
      obtain ⟨v46, T46, L46, h46, vm46, W46, ⟨rfl, e46⟩, C46, st46⟩ := oCallV W45 (idx := 50) (pc := 178) (ls := #[sI i0, sI i1, sI i2, sI i3, sI i4, sI 0, sI 2, sI c0, sI c1, sI c2, sI c3, sR x, sR r0, sR lo, sR y, sI 115, sU]) (st := []) (argsL := [(.int 0)]) F44.exa (c_chr K K.2.2.2.1 F44 (lb rfl) (i := 0) (by decide) (c := (47 : Int32)) rfl) (fun x hx => nomatch hx) (wK K 238 rfl) (wK K 79 rfl) (notFace_of_selects (args := #[]) (mvT W45.warm (wK K 81 rfl))) (wK K 81 rfl) (wK K 80 rfl) (wK K 10 rfl) (wK K 82 rfl) (by decide) (na := 1) rfl (by decide +kernel) rfl (stk := [(.int 0), (.ref y)]) rfl (by decide +kernel) (V := 0) (lb rfl) (lb rfl) (lb rfl) (lb rfl) (lb rfl)
      refine oLift st46 ?_
      rw [e46] at W46 C46
      show OG _ _ _ _ _ _ _ _ _ _ _ (mkF m 181 #[sI i0, sI i1, sI i2, sI i3, sI i4, sI 0, sI 2, sI c0, sI c1, sI c2, sI c3, sR x, sR r0, sR lo, sR y, sI 115, sU] [(.int 47)])
      refine oGo W46 [.bipush 47] (by decide +kernel) (ls' := #[sI i0, sI i1, sI i2, sI i3, sI i4, sI 0, sI 2, sI c0, sI c1, sI c2, sI c3, sR x, sR r0, sR lo, sR y, sI 115, sU]) (st' := [(.int 47), (.int 47)]) rfl rfl (pc' := 183) rfl ?_
      refine oIcF W46 (cd := .ne) (o := 51) (by decide +kernel) (XT.ii_ne_f rfl) (pc' := 186) rfl ?_
      refine oGo W46 [.aload 14, .iconst 1] (by decide +kernel) (ls' := #[sI i0, sI i1, sI i2, sI i3, sI i4, sI 0, sI 2, sI c0, sI c1, sI c2, sI c3, sR x, sR r0, sR lo, sR y, sI 115, sU]) (st' := [(.int 1), (.ref y)]) rfl rfl (pc' := 189) rfl ?_
      obtain ⟨v47, T47, L47, h47, vm47, W47, ⟨rfl, e47⟩, C47, st47⟩ := oCallV W46 (idx := 50) (pc := 189) (ls := #[sI i0, sI i1, sI i2, sI i3, sI i4, sI 0, sI 2, sI c0, sI c1, sI c2, sI c3, sR x, sR r0, sR lo, sR y, sI 115, sU]) (st := []) (argsL := [(.int 1)]) F44.exa (c_chr K K.2.2.2.1 F44 (lb rfl) (i := 1) (by decide) (c := (115 : Int32)) rfl) (fun x hx => nomatch hx) (wK K 238 rfl) (wK K 79 rfl) (notFace_of_selects (args := #[]) (mvT W46.warm (wK K 81 rfl))) (wK K 81 rfl) (wK K 80 rfl) (wK K 10 rfl) (wK K 82 rfl) (by decide) (na := 1) rfl (by decide +kernel) rfl (stk := [(.int 1), (.ref y)]) rfl (by decide +kernel) (V := 0) (lb rfl) (lb rfl) (lb rfl) (lb rfl) (lb rfl)
      refine oLift st47 ?_
      rw [e47] at W47 C47
      show OG _ _ _ _ _ _ _ _ _ _ _ (mkF m 192 #[sI i0, sI i1, sI i2, sI i3, sI i4, sI 0, sI 2, sI c0, sI c1, sI c2, sI c3, sR x, sR r0, sR lo, sR y, sI 115, sU] [(.int 115)])
      refine oGo W47 [.iload 15] (by decide +kernel) (ls' := #[sI i0, sI i1, sI i2, sI i3, sI i4, sI 0, sI 2, sI c0, sI c1, sI c2, sI c3, sR x, sR r0, sR lo, sR y, sI 115, sU]) (st' := [(.int 115), (.int 115)]) rfl rfl (pc' := 194) rfl ?_
      refine oIcF W47 (cd := .ne) (o := 40) (by decide +kernel) (XT.ii_ne_f rfl) (pc' := 197) rfl ?_
      refine oGo W47 [.aload 14, .iconst 2] (by decide +kernel) (ls' := #[sI i0, sI i1, sI i2, sI i3, sI i4, sI 0, sI 2, sI c0, sI c1, sI c2, sI c3, sR x, sR r0, sR lo, sR y, sI 115, sU]) (st' := [(.int 2), (.ref y)]) rfl rfl (pc' := 200) rfl ?_
      obtain ⟨v48, T48, L48, h48, vm48, W48, ⟨rfl, e48⟩, C48, st48⟩ := oCallV W47 (idx := 50) (pc := 200) (ls := #[sI i0, sI i1, sI i2, sI i3, sI i4, sI 0, sI 2, sI c0, sI c1, sI c2, sI c3, sR x, sR r0, sR lo, sR y, sI 115, sU]) (st := []) (argsL := [(.int 2)]) F44.exa (c_chr K K.2.2.2.1 F44 (lb rfl) (i := 2) (by decide) (c := (117 : Int32)) rfl) (fun x hx => nomatch hx) (wK K 238 rfl) (wK K 79 rfl) (notFace_of_selects (args := #[]) (mvT W47.warm (wK K 81 rfl))) (wK K 81 rfl) (wK K 80 rfl) (wK K 10 rfl) (wK K 82 rfl) (by decide) (na := 1) rfl (by decide +kernel) rfl (stk := [(.int 2), (.ref y)]) rfl (by decide +kernel) (V := 0) (lb rfl) (lb rfl) (lb rfl) (lb rfl) (lb rfl)
      refine oLift st48 ?_
      rw [e48] at W48 C48
      show OG _ _ _ _ _ _ _ _ _ _ _ (mkF m 203 #[sI i0, sI i1, sI i2, sI i3, sI i4, sI 0, sI 2, sI c0, sI c1, sI c2, sI c3, sR x, sR r0, sR lo, sR y, sI 115, sU] [(.int 117)])
      refine oGo W48 [.bipush 117] (by decide +kernel) (ls' := #[sI i0, sI i1, sI i2, sI i3, sI i4, sI 0, sI 2, sI c0, sI c1, sI c2, sI c3, sR x, sR r0, sR lo, sR y, sI 115, sU]) (st' := [(.int 117), (.int 117)]) rfl rfl (pc' := 205) rfl ?_
      refine oIcF W48 (cd := .ne) (o := 29) (by decide +kernel) (XT.ii_ne_f rfl) (pc' := 208) rfl ?_
      refine oGo W48 [.aload 14, .iconst 3] (by decide +kernel) (ls' := #[sI i0, sI i1, sI i2, sI i3, sI i4, sI 0, sI 2, sI c0, sI c1, sI c2, sI c3, sR x, sR r0, sR lo, sR y, sI 115, sU]) (st' := [(.int 3), (.ref y)]) rfl rfl (pc' := 211) rfl ?_
      obtain ⟨v49, T49, L49, h49, vm49, W49, ⟨rfl, e49⟩, C49, st49⟩ := oCallV W48 (idx := 50) (pc := 211) (ls := #[sI i0, sI i1, sI i2, sI i3, sI i4, sI 0, sI 2, sI c0, sI c1, sI c2, sI c3, sR x, sR r0, sR lo, sR y, sI 115, sU]) (st := []) (argsL := [(.int 3)]) F44.exa (c_chr K K.2.2.2.1 F44 (lb rfl) (i := 3) (by decide) (c := (98 : Int32)) rfl) (fun x hx => nomatch hx) (wK K 238 rfl) (wK K 79 rfl) (notFace_of_selects (args := #[]) (mvT W48.warm (wK K 81 rfl))) (wK K 81 rfl) (wK K 80 rfl) (wK K 10 rfl) (wK K 82 rfl) (by decide) (na := 1) rfl (by decide +kernel) rfl (stk := [(.int 3), (.ref y)]) rfl (by decide +kernel) (V := 0) (lb rfl) (lb rfl) (lb rfl) (lb rfl) (lb rfl)
      refine oLift st49 ?_
      rw [e49] at W49 C49
      show OG _ _ _ _ _ _ _ _ _ _ _ (mkF m 214 #[sI i0, sI i1, sI i2, sI i3, sI i4, sI 0, sI 2, sI c0, sI c1, sI c2, sI c3, sR x, sR r0, sR lo, sR y, sI 115, sU] [(.int 98)])
      refine oGo W49 [.bipush 98] (by decide +kernel) (ls' := #[sI i0, sI i1, sI i2, sI i3, sI i4, sI 0, sI 2, sI c0, sI c1, sI c2, sI c3, sR x, sR r0, sR lo, sR y, sI 115, sU]) (st' := [(.int 98), (.int 98)]) rfl rfl (pc' := 216) rfl ?_
      refine oIcF W49 (cd := .ne) (o := 18) (by decide +kernel) (XT.ii_ne_f rfl) (pc' := 219) rfl ?_
      refine oGo W49 [.aload 14, .iconst 4] (by decide +kernel) (ls' := #[sI i0, sI i1, sI i2, sI i3, sI i4, sI 0, sI 2, sI c0, sI c1, sI c2, sI c3, sR x, sR r0, sR lo, sR y, sI 115, sU]) (st' := [(.int 4), (.ref y)]) rfl rfl (pc' := 222) rfl ?_
      obtain ⟨v50, T50, L50, h50, vm50, W50, ⟨rfl, e50⟩, C50, st50⟩ := oCallV W49 (idx := 50) (pc := 222) (ls := #[sI i0, sI i1, sI i2, sI i3, sI i4, sI 0, sI 2, sI c0, sI c1, sI c2, sI c3, sR x, sR r0, sR lo, sR y, sI 115, sU]) (st := []) (argsL := [(.int 4)]) F44.exa (c_chr K K.2.2.2.1 F44 (lb rfl) (i := 4) (by decide) (c := (47 : Int32)) rfl) (fun x hx => nomatch hx) (wK K 238 rfl) (wK K 79 rfl) (notFace_of_selects (args := #[]) (mvT W49.warm (wK K 81 rfl))) (wK K 81 rfl) (wK K 80 rfl) (wK K 10 rfl) (wK K 82 rfl) (by decide) (na := 1) rfl (by decide +kernel) rfl (stk := [(.int 4), (.ref y)]) rfl (by decide +kernel) (V := 0) (lb rfl) (lb rfl) (lb rfl) (lb rfl) (lb rfl)
      refine oLift st50 ?_
      rw [e50] at W50 C50
      show OG _ _ _ _ _ _ _ _ _ _ _ (mkF m 225 #[sI i0, sI i1, sI i2, sI i3, sI i4, sI 0, sI 2, sI c0, sI c1, sI c2, sI c3, sR x, sR r0, sR lo, sR y, sI 115, sU] [(.int 47)])
      refine oGo W50 [.bipush 47] (by decide +kernel) (ls' := #[sI i0, sI i1, sI i2, sI i3, sI i4, sI 0, sI 2, sI c0, sI c1, sI c2, sI c3, sR x, sR r0, sR lo, sR y, sI 115, sU]) (st' := [(.int 47), (.int 47)]) rfl rfl (pc' := 227) rfl ?_
      refine oIcF W50 (cd := .ne) (o := 7) (by decide +kernel) (XT.ii_ne_f rfl) (pc' := 230) rfl ?_
      refine oGo W50 [.iconst 1, .goto 4, .istore 16, .iload 16] (by decide +kernel) (ls' := #[sI i0, sI i1, sI i2, sI i3, sI i4, sI 0, sI 2, sI c0, sI c1, sI c2, sI c3, sR x, sR r0, sR lo, sR y, sI 115, sI 1]) (st' := [(.int 1)]) rfl rfl (pc' := 239) rfl ?_
      refine oIfF W50 (cd := .eq) (o := 18) (by decide +kernel) (XT.i0_eq_f (by decide)) (pc' := 242) rfl ?_
      refine oGo W50 [.aload 14, .iconst 5] (by decide +kernel) (ls' := #[sI i0, sI i1, sI i2, sI i3, sI i4, sI 0, sI 2, sI c0, sI c1, sI c2, sI c3, sR x, sR r0, sR lo, sR y, sI 115, sI 1]) (st' := [(.int 5), (.ref y)]) rfl rfl (pc' := 245) rfl ?_
      obtain ⟨v51, T51, L51, h51, vm51, W51, ⟨rfl, e51⟩, C51, st51⟩ := oCallV W50 (idx := 50) (pc := 245) (ls := #[sI i0, sI i1, sI i2, sI i3, sI i4, sI 0, sI 2, sI c0, sI c1, sI c2, sI c3, sR x, sR r0, sR lo, sR y, sI 115, sI 1]) (st := []) (argsL := [(.int 5)]) F44.exa (c_chr K K.2.2.2.1 F44 (lb rfl) (i := 5) (by decide) (c := c0) rfl) (fun x hx => nomatch hx) (wK K 238 rfl) (wK K 79 rfl) (notFace_of_selects (args := #[]) (mvT W50.warm (wK K 81 rfl))) (wK K 81 rfl) (wK K 80 rfl) (wK K 10 rfl) (wK K 82 rfl) (by decide) (na := 1) rfl (by decide +kernel) rfl (stk := [(.int 5), (.ref y)]) rfl (by decide +kernel) (V := 0) (lb rfl) (lb rfl) (lb rfl) (lb rfl) (lb rfl)
      refine oLift st51 ?_
      rw [e51] at W51 C51
      show OG _ _ _ _ _ _ _ _ _ _ _ (mkF m 248 #[sI i0, sI i1, sI i2, sI i3, sI i4, sI 0, sI 2, sI c0, sI c1, sI c2, sI c3, sR x, sR r0, sR lo, sR y, sI 115, sI 1] [(.int c0)])
      refine oGo W51 [.iload 7] (by decide +kernel) (ls' := #[sI i0, sI i1, sI i2, sI i3, sI i4, sI 0, sI 2, sI c0, sI c1, sI c2, sI c3, sR x, sR r0, sR lo, sR y, sI 115, sI 1]) (st' := [(.int c0), (.int c0)]) rfl rfl (pc' := 250) rfl ?_
      refine oIcF W51 (cd := .ne) (o := 7) (by decide +kernel) (XT.ii_ne_f rfl) (pc' := 253) rfl ?_
      refine oGo W51 [.iconst 1, .goto 4, .istore 16, .iload 6, .iconst 2] (by decide +kernel) (ls' := #[sI i0, sI i1, sI i2, sI i3, sI i4, sI 0, sI 2, sI c0, sI c1, sI c2, sI c3, sR x, sR r0, sR lo, sR y, sI 115, sI 1]) (st' := [(.int 2), (.int 2)]) rfl rfl (pc' := 263) rfl ?_
      refine oIcF W51 (cd := .lt) (o := 27) (by decide +kernel) (XT.ii_lt_f (by decide)) (pc' := 266) rfl ?_
      refine oGo W51 [.iload 16] (by decide +kernel) (ls' := #[sI i0, sI i1, sI i2, sI i3, sI i4, sI 0, sI 2, sI c0, sI c1, sI c2, sI c3, sR x, sR r0, sR lo, sR y, sI 115, sI 1]) (st' := [(.int 1)]) rfl rfl (pc' := 268) rfl ?_
      refine oIfF W51 (cd := .eq) (o := 19) (by decide +kernel) (XT.i0_eq_f (by decide)) (pc' := 271) rfl ?_
      refine oGo W51 [.aload 14, .bipush 6] (by decide +kernel) (ls' := #[sI i0, sI i1, sI i2, sI i3, sI i4, sI 0, sI 2, sI c0, sI c1, sI c2, sI c3, sR x, sR r0, sR lo, sR y, sI 115, sI 1]) (st' := [(.int 6), (.ref y)]) rfl rfl (pc' := 275) rfl ?_
      obtain ⟨v52, T52, L52, h52, vm52, W52, ⟨rfl, e52⟩, C52, st52⟩ := oCallV W51 (idx := 50) (pc := 275) (ls := #[sI i0, sI i1, sI i2, sI i3, sI i4, sI 0, sI 2, sI c0, sI c1, sI c2, sI c3, sR x, sR r0, sR lo, sR y, sI 115, sI 1]) (st := []) (argsL := [(.int 6)]) F44.exa (c_chr K K.2.2.2.1 F44 (lb rfl) (i := 6) (by decide) (c := c1) rfl) (fun x hx => nomatch hx) (wK K 238 rfl) (wK K 79 rfl) (notFace_of_selects (args := #[]) (mvT W51.warm (wK K 81 rfl))) (wK K 81 rfl) (wK K 80 rfl) (wK K 10 rfl) (wK K 82 rfl) (by decide) (na := 1) rfl (by decide +kernel) rfl (stk := [(.int 6), (.ref y)]) rfl (by decide +kernel) (V := 0) (lb rfl) (lb rfl) (lb rfl) (lb rfl) (lb rfl)
      refine oLift st52 ?_
      rw [e52] at W52 C52
      show OG _ _ _ _ _ _ _ _ _ _ _ (mkF m 278 #[sI i0, sI i1, sI i2, sI i3, sI i4, sI 0, sI 2, sI c0, sI c1, sI c2, sI c3, sR x, sR r0, sR lo, sR y, sI 115, sI 1] [(.int c1)])
      refine oGo W52 [.iload 8] (by decide +kernel) (ls' := #[sI i0, sI i1, sI i2, sI i3, sI i4, sI 0, sI 2, sI c0, sI c1, sI c2, sI c3, sR x, sR r0, sR lo, sR y, sI 115, sI 1]) (st' := [(.int c1), (.int c1)]) rfl rfl (pc' := 280) rfl ?_
      refine oIcF W52 (cd := .ne) (o := 7) (by decide +kernel) (XT.ii_ne_f rfl) (pc' := 283) rfl ?_
      refine oGo W52 [.iconst 1, .goto 4, .istore 16, .iload 6, .iconst 3] (by decide +kernel) (ls' := #[sI i0, sI i1, sI i2, sI i3, sI i4, sI 0, sI 2, sI c0, sI c1, sI c2, sI c3, sR x, sR r0, sR lo, sR y, sI 115, sI 1]) (st' := [(.int 3), (.int 2)]) rfl rfl (pc' := 293) rfl ?_
      refine oIcT W52 (cd := .lt) (o := 27) (by decide +kernel) (XT.ii_lt_t (by decide)) (pc' := 320) (by decide) (by decide) ?_
      refine oGo W52 [.iload 6, .iconst 4] (by decide +kernel) (ls' := #[sI i0, sI i1, sI i2, sI i3, sI i4, sI 0, sI 2, sI c0, sI c1, sI c2, sI c3, sR x, sR r0, sR lo, sR y, sI 115, sI 1]) (st' := [(.int 4), (.int 2)]) rfl rfl (pc' := 323) rfl ?_
      refine oIcT W52 (cd := .lt) (o := 27) (by decide +kernel) (XT.ii_lt_t (by decide)) (pc' := 350) (by decide) (by decide) ?_
      refine oGo W52 [.iload 16] (by decide +kernel) (ls' := #[sI i0, sI i1, sI i2, sI i3, sI i4, sI 0, sI 2, sI c0, sI c1, sI c2, sI c3, sR x, sR r0, sR lo, sR y, sI 115, sI 1]) (st' := [(.int 1)]) rfl rfl (pc' := 352) rfl ?_
      exact oRetN (by simp) W52 rfl (by decide +kernel) (lb rfl) (lb rfl) (fun vm' hv => rfl)
    · rw [hL]
      refine oGo W5 [.iload 6, .iconst 1] (by decide +kernel) (ls' := #[sI i0, sI i1, sI i2, sI i3, sI i4, sI 0, sI 3, sI c0, sI c1, sI c2, sI c3, sU, sU, sU, sU, sU, sU]) (st' := [(.int 1), (.int 3)]) rfl rfl (pc' := 50) rfl ?_
      refine oIcT W5 (cd := .ne) (o := 12) (by decide +kernel) (XT.ii_ne_t (by decide)) (pc' := 62) (by decide) (by decide) ?_
      refine oGo W5 [.iload 6, .iconst 2] (by decide +kernel) (ls' := #[sI i0, sI i1, sI i2, sI i3, sI i4, sI 0, sI 3, sI c0, sI c1, sI c2, sI c3, sU, sU, sU, sU, sU, sU]) (st' := [(.int 2), (.int 3)]) rfl rfl (pc' := 65) rfl ?_
      refine oIcT W5 (cd := .ne) (o := 19) (by decide +kernel) (XT.ii_ne_t (by decide)) (pc' := 84) (by decide) (by decide) ?_
      refine oGo W5 [.iload 6, .iload 7, .iload 8, .iload 9, .iload 10] (by decide +kernel) (ls' := #[sI i0, sI i1, sI i2, sI i3, sI i4, sI 0, sI 3, sI c0, sI c1, sI c2, sI c3, sU, sU, sU, sU, sU, sU]) (st' := [(.int c3), (.int c2), (.int c1), (.int c0), (.int 3)]) rfl rfl (pc' := 94) rfl ?_
      obtain ⟨v53, T53, L53, h53, vm53, W53, ⟨x, rfl, F53, E53⟩, C53, st53⟩ := oCallS W5 (idx := 19) (pc := 94) (ls := #[sI i0, sI i1, sI i2, sI i3, sI i4, sI 0, sI 3, sI c0, sI c1, sI c2, sI c3, sU, sU, sU, sU, sU, sU]) (st := []) (argsL := [(.int 3), (.int c0), (.int c1), (.int c2), (.int c3)]) (c_dr3 K (c0 := c0) (c1 := c1) (c2 := c2) (c3 := c3) qa0 qa1 qa2 qa3) (fun x hx => nomatch hx) (wK K 5 rfl) (wK K 6 rfl) (wK K 2 rfl) (wK K 7 rfl) (by decide) (na := 5) rfl (by decide +kernel) rfl (stk := [(.int c3), (.int c2), (.int c1), (.int c0), (.int 3)]) rfl (by decide +kernel) (V := 0) (lb rfl) (lb rfl) (lb rfl) (lb rfl) (lb rfl)
      refine oLift st53 ?_
      show OG _ _ _ _ _ _ _ _ _ _ _ (mkF m 97 #[sI i0, sI i1, sI i2, sI i3, sI i4, sI 0, sI 3, sI c0, sI c1, sI c2, sI c3, sU, sU, sU, sU, sU, sU] [(.ref x)])
      refine oGo W53 [.astore 11, .iload 5] (by decide +kernel) (ls' := #[sI i0, sI i1, sI i2, sI i3, sI i4, sI 0, sI 3, sI c0, sI c1, sI c2, sI c3, sR x, sU, sU, sU, sU, sU]) (st' := [(.int 0)]) rfl rfl (pc' := 101) rfl ?_
      refine oIfT W53 (cd := .eq) (o := 9) (by decide +kernel) (XT.i0_eq_t (by decide)) (pc' := 110) (by decide) (by decide) ?_
      obtain ⟨T54, W54, st54⟩ := oGetS W53 (pc := 110) (ls := #[sI i0, sI i1, sI i2, sI i3, sI i4, sI 0, sI 3, sI c0, sI c1, sI c2, sI c3, sR x, sU, sU, sU, sU, sU]) (st := []) (wK K 38 rfl) Via.refl (Sr0.ext W53.ext) (by decide +kernel)
      refine oLift st54 ?_
      refine oGo W54 [.astore 12] (by decide +kernel) (ls' := #[sI i0, sI i1, sI i2, sI i3, sI i4, sI 0, sI 3, sI c0, sI c1, sI c2, sI c3, sR x, sR r0, sU, sU, sU, sU]) (st' := []) rfl rfl (pc' := 115) rfl ?_
      obtain ⟨T55, h55, lo, W55, g55, E55, A55, D55, S55, C55, st55⟩ := oNew W54 (pc := 115) (ls := #[sI i0, sI i1, sI i2, sI i3, sI i4, sI 0, sI 3, sI c0, sI c1, sI c2, sI c3, sR x, sR r0, sU, sU, sU, sU]) (st := []) (wK K 41 rfl) (wK K 42 rfl) (wK K 43 rfl) (by decide +kernel) (lb rfl) (lb rfl)
      refine oLift st55 ?_
      refine oGo W55 [.dup, .aload 12] (by decide +kernel) (ls' := #[sI i0, sI i1, sI i2, sI i3, sI i4, sI 0, sI 3, sI c0, sI c1, sI c2, sI c3, sR x, sR r0, sU, sU, sU, sU]) (st' := [(.ref r0), (.ref lo), (.ref lo)]) rfl rfl (pc' := 121) rfl ?_
      obtain ⟨T56, h56, nm, W56, g56, E56, A56, D56, S56, C56, st56⟩ := oNew W55 (pc := 121) (ls := #[sI i0, sI i1, sI i2, sI i3, sI i4, sI 0, sI 3, sI c0, sI c1, sI c2, sI c3, sR x, sR r0, sU, sU, sU, sU]) (st := [(.ref r0), (.ref lo), (.ref lo)]) (wK K 44 rfl) (wK K 45 rfl) (wK K 46 rfl) (by decide +kernel) (lb rfl) (lb rfl)
      refine oLift st56 ?_
      refine oGo W56 [.dup, .aload 11] (by decide +kernel) (ls' := #[sI i0, sI i1, sI i2, sI i3, sI i4, sI 0, sI 3, sI c0, sI c1, sI c2, sI c3, sR x, sR r0, sU, sU, sU, sU]) (st' := [(.ref x), (.ref nm), (.ref nm), (.ref r0), (.ref lo), (.ref lo)]) rfl rfl (pc' := 127) rfl ?_
      have hnl : nm ≠ lo := Nat.ne_of_gt (Nat.lt_of_lt_of_le A55.lt g56)
      obtain ⟨v57, T57, L57, h57, vm57, W57, ⟨rfl, K57, X57, F57⟩, C57, st57⟩ := oCallN W56 (idx := 36) (pc := 127) (ls := #[sI i0, sI i1, sI i2, sI i3, sI i4, sI 0, sI 3, sI c0, sI c1, sI c2, sI c3, sR x, sR r0, sU, sU, sU, sU]) (st := [(.ref nm), (.ref r0), (.ref lo), (.ref lo)]) (a := nm) (argsL := [(.ref x)]) (c_cn3 K ((F53.ext E55).ext E56) qa0 qa1 qa2 (Nat.le_trans W55.ext.1 g56) A56 (D56 (Or.inr (wK K 115 rfl)) (ty := (.object "java/lang/String")) (by decide))) (fun x hx => nomatch hx) rfl (wK K 47 rfl) (wK K 48 rfl) (wK K 46 rfl) (wK K 49 rfl) (by decide) (na := 1) rfl (by decide +kernel) rfl (stk := [(.ref x), (.ref nm), (.ref nm), (.ref r0), (.ref lo), (.ref lo)]) rfl (by decide +kernel) (V := 4) (lb rfl) (lb rfl) (lb rfl) (lb rfl) (lb rfl)
      refine oLift st57 ?_
      show OG _ _ _ _ _ _ _ _ _ _ _ (mkF m 130 #[sI i0, sI i1, sI i2, sI i3, sI i4, sI 0, sI 3, sI c0, sI c1, sI c2, sI c3, sR x, sR r0, sU, sU, sU, sU] [(.ref nm), (.ref r0), (.ref lo), (.ref lo)])
      obtain ⟨v58, T58, L58, h58, vm58, W58, ⟨rfl, K58, X58, F58, G58⟩, C58, st58⟩ := oCallN W57 (idx := 39) (pc := 130) (ls := #[sI i0, sI i1, sI i2, sI i3, sI i4, sI 0, sI 3, sI c0, sI c1, sI c2, sI c3, sR x, sR r0, sU, sU, sU, sU]) (st := [(.ref lo)]) (a := lo) (argsL := [(.ref r0), (.ref nm)]) (c_cli K (Nat.le_trans W53.ext.1 g55) (A55.ext (exK E56 K57 (fun y hy => by cases List.mem_singleton.mp hy; exact g56))) ((D55 (Or.inr (wK K 121 rfl)) (ty := (.object "com/example/gentle_hub/gentlehub/server/ChannelLocation$Role")) (by decide)).ext (exK E56 K57 (fun y hy => by cases List.mem_singleton.mp hy; exact g56))) ((D55 (Or.inr (wK K 123 rfl)) (ty := (.object "com/example/gentle_hub/gentlehub/core/ChannelName")) (by decide)).ext (exK E56 K57 (fun y hy => by cases List.mem_singleton.mp hy; exact g56)))) (fun x hx => nomatch hx) rfl (wK K 116 rfl) (wK K 117 rfl) (wK K 43 rfl) (wK K 118 rfl) (by decide) (na := 2) rfl (by decide +kernel) rfl (stk := [(.ref nm), (.ref r0), (.ref lo), (.ref lo)]) rfl (by decide +kernel) (V := 1) (lb rfl) (lb rfl) (lb rfl) (lb rfl) (lb rfl)
      refine oLift st58 ?_
      show OG _ _ _ _ _ _ _ _ _ _ _ (mkF m 133 #[sI i0, sI i1, sI i2, sI i3, sI i4, sI 0, sI 3, sI c0, sI c1, sI c2, sI c3, sR x, sR r0, sU, sU, sU, sU] [(.ref lo)])
      refine oGo W58 [.astore 13, .aload 13] (by decide +kernel) (ls' := #[sI i0, sI i1, sI i2, sI i3, sI i4, sI 0, sI 3, sI c0, sI c1, sI c2, sI c3, sR x, sR r0, sR lo, sU, sU, sU]) (st' := [(.ref lo)]) rfl rfl (pc' := 137) rfl ?_
      obtain ⟨v59, T59, L59, h59, vm59, W59, ⟨y, rfl, F59, E59⟩, C59, st59⟩ := oCallV W58 (idx := 42) (pc := 137) (ls := #[sI i0, sI i1, sI i2, sI i3, sI i4, sI 0, sI 3, sI c0, sI c1, sI c2, sI c3, sR x, sR r0, sR lo, sU, sU, sU]) (st := []) (argsL := []) X58 (c_path K F58 G58 (Fr0.ext W58.ext) (Tr0.ext W58.ext) (X57.keep K58) (F57.keep K58 (ninS hnl nin0)) (F53.ext (exK (exT E55 (exK E56 K57 (fun y hy => by cases List.mem_singleton.mp hy; exact g56))) K58 (fun y hy => by cases List.mem_singleton.mp hy; exact g55))) (lb rfl)) (fun x hx => nomatch hx) (wK K 124 rfl) (wK K 125 rfl) (notFace_of_selects (args := #[]) (mvT W58.warm (wK K 127 rfl))) (wK K 127 rfl) (wK K 126 rfl) (wK K 43 rfl) (wK K 128 rfl) (by decide) (na := 0) rfl (by decide +kernel) rfl (stk := [(.ref lo)]) rfl (by decide +kernel) (V := 0) (lb rfl) (lb rfl) (lb rfl) (lb rfl) (lb rfl)
      refine oLift st59 ?_
      show OG _ _ _ _ _ _ _ _ _ _ _ (mkF m 140 #[sI i0, sI i1, sI i2, sI i3, sI i4, sI 0, sI 3, sI c0, sI c1, sI c2, sI c3, sR x, sR r0, sR lo, sU, sU, sU] [(.ref y)])
      refine oGo W59 [.astore 14, .aload 14] (by decide +kernel) (ls' := #[sI i0, sI i1, sI i2, sI i3, sI i4, sI 0, sI 3, sI c0, sI c1, sI c2, sI c3, sR x, sR r0, sR lo, sR y, sU, sU]) (st' := [(.ref y)]) rfl rfl (pc' := 144) rfl ?_
      refine oNuF W59 (o := 15) (by decide +kernel) (pc' := 147) rfl ?_
      refine oGo W59 [.aload 14] (by decide +kernel) (ls' := #[sI i0, sI i1, sI i2, sI i3, sI i4, sI 0, sI 3, sI c0, sI c1, sI c2, sI c3, sR x, sR r0, sR lo, sR y, sU, sU]) (st' := [(.ref y)]) rfl rfl (pc' := 149) rfl ?_
      obtain ⟨v60, T60, L60, h60, vm60, W60, ⟨rfl, e60⟩, C60, st60⟩ := oCallV W59 (idx := 46) (pc := 149) (ls := #[sI i0, sI i1, sI i2, sI i3, sI i4, sI 0, sI 3, sI c0, sI c1, sI c2, sI c3, sR x, sR r0, sR lo, sR y, sU, sU]) (st := []) (argsL := []) F59.exa (c_len K F59) (fun x hx => nomatch hx) (wK K 237 rfl) (wK K 69 rfl) (notFace_of_selects (args := #[]) (mvT W59.warm (wK K 71 rfl))) (wK K 71 rfl) (wK K 70 rfl) (wK K 10 rfl) (wK K 72 rfl) (by decide) (na := 0) rfl (by decide +kernel) rfl (stk := [(.ref y)]) rfl (by decide +kernel) (V := 0) (lb rfl) (lb rfl) (lb rfl) (lb rfl) (lb rfl)
      refine oLift st60 ?_
      rw [e60] at W60 C60
      show OG _ _ _ _ _ _ _ _ _ _ _ (mkF m 152 #[sI i0, sI i1, sI i2, sI i3, sI i4, sI 0, sI 3, sI c0, sI c1, sI c2, sI c3, sR x, sR r0, sR lo, sR y, sU, sU] [(.int 8)])
      refine oGo W60 [.iconst 5, .iload 6, .iadd] (by decide +kernel) (ls' := #[sI i0, sI i1, sI i2, sI i3, sI i4, sI 0, sI 3, sI c0, sI c1, sI c2, sI c3, sR x, sR r0, sR lo, sR y, sU, sU]) (st' := [(.int ((5 : Int32) + (3 : Int32))), (.int 8)]) rfl rfl (pc' := 156) rfl ?_
      refine oIcT W60 (cd := .eq) (o := 5) (by decide +kernel) (XT.ii_eq_t (by decide)) (pc' := 161) (by decide) (by decide) ?_
      refine oGo W60 [.iload 5] (by decide +kernel) (ls' := #[sI i0, sI i1, sI i2, sI i3, sI i4, sI 0, sI 3, sI c0, sI c1, sI c2, sI c3, sR x, sR r0, sR lo, sR y, sU, sU]) (st' := [(.int 0)]) rfl rfl (pc' := 163) rfl ?_
      refine oIfT W60 (cd := .eq) (o := 8) (by decide +kernel) (XT.i0_eq_t (by decide)) (pc' := 171) (by decide) (by decide) ?_
      refine oGo W60 [.bipush 115, .istore 15, .aload 14, .iconst 0] (by decide +kernel) (ls' := #[sI i0, sI i1, sI i2, sI i3, sI i4, sI 0, sI 3, sI c0, sI c1, sI c2, sI c3, sR x, sR r0, sR lo, sR y, sI 115, sU]) (st' := [(.int 0), (.ref y)]) rfl rfl (pc' := 178) rfl ?_
      obtain ⟨v61, T61, L61, h61, vm61, W61, ⟨rfl, e61⟩, C61, st61⟩ := oCallV W60 (idx := 50) (pc := 178) (ls := #[sI i0, sI i1, sI i2, sI i3, sI i4, sI 0, sI 3, sI c0, sI c1, sI c2, sI c3, sR x, sR r0, sR lo, sR y, sI 115, sU]) (st := []) (argsL := [(.int 0)]) F59.exa (c_chr K K.2.2.2.1 F59 (lb rfl) (i := 0) (by decide) (c := (47 : Int32)) rfl) (fun x hx => nomatch hx) (wK K 238 rfl) (wK K 79 rfl) (notFace_of_selects (args := #[]) (mvT W60.warm (wK K 81 rfl))) (wK K 81 rfl) (wK K 80 rfl) (wK K 10 rfl) (wK K 82 rfl) (by decide) (na := 1) rfl (by decide +kernel) rfl (stk := [(.int 0), (.ref y)]) rfl (by decide +kernel) (V := 0) (lb rfl) (lb rfl) (lb rfl) (lb rfl) (lb rfl)
      refine oLift st61 ?_
      rw [e61] at W61 C61
      show OG _ _ _ _ _ _ _ _ _ _ _ (mkF m 181 #[sI i0, sI i1, sI i2, sI i3, sI i4, sI 0, sI 3, sI c0, sI c1, sI c2, sI c3, sR x, sR r0, sR lo, sR y, sI 115, sU] [(.int 47)])
      refine oGo W61 [.bipush 47] (by decide +kernel) (ls' := #[sI i0, sI i1, sI i2, sI i3, sI i4, sI 0, sI 3, sI c0, sI c1, sI c2, sI c3, sR x, sR r0, sR lo, sR y, sI 115, sU]) (st' := [(.int 47), (.int 47)]) rfl rfl (pc' := 183) rfl ?_
      refine oIcF W61 (cd := .ne) (o := 51) (by decide +kernel) (XT.ii_ne_f rfl) (pc' := 186) rfl ?_
      refine oGo W61 [.aload 14, .iconst 1] (by decide +kernel) (ls' := #[sI i0, sI i1, sI i2, sI i3, sI i4, sI 0, sI 3, sI c0, sI c1, sI c2, sI c3, sR x, sR r0, sR lo, sR y, sI 115, sU]) (st' := [(.int 1), (.ref y)]) rfl rfl (pc' := 189) rfl ?_
      obtain ⟨v62, T62, L62, h62, vm62, W62, ⟨rfl, e62⟩, C62, st62⟩ := oCallV W61 (idx := 50) (pc := 189) (ls := #[sI i0, sI i1, sI i2, sI i3, sI i4, sI 0, sI 3, sI c0, sI c1, sI c2, sI c3, sR x, sR r0, sR lo, sR y, sI 115, sU]) (st := []) (argsL := [(.int 1)]) F59.exa (c_chr K K.2.2.2.1 F59 (lb rfl) (i := 1) (by decide) (c := (115 : Int32)) rfl) (fun x hx => nomatch hx) (wK K 238 rfl) (wK K 79 rfl) (notFace_of_selects (args := #[]) (mvT W61.warm (wK K 81 rfl))) (wK K 81 rfl) (wK K 80 rfl) (wK K 10 rfl) (wK K 82 rfl) (by decide) (na := 1) rfl (by decide +kernel) rfl (stk := [(.int 1), (.ref y)]) rfl (by decide +kernel) (V := 0) (lb rfl) (lb rfl) (lb rfl) (lb rfl) (lb rfl)
      refine oLift st62 ?_
      rw [e62] at W62 C62
      show OG _ _ _ _ _ _ _ _ _ _ _ (mkF m 192 #[sI i0, sI i1, sI i2, sI i3, sI i4, sI 0, sI 3, sI c0, sI c1, sI c2, sI c3, sR x, sR r0, sR lo, sR y, sI 115, sU] [(.int 115)])
      refine oGo W62 [.iload 15] (by decide +kernel) (ls' := #[sI i0, sI i1, sI i2, sI i3, sI i4, sI 0, sI 3, sI c0, sI c1, sI c2, sI c3, sR x, sR r0, sR lo, sR y, sI 115, sU]) (st' := [(.int 115), (.int 115)]) rfl rfl (pc' := 194) rfl ?_
      refine oIcF W62 (cd := .ne) (o := 40) (by decide +kernel) (XT.ii_ne_f rfl) (pc' := 197) rfl ?_
      refine oGo W62 [.aload 14, .iconst 2] (by decide +kernel) (ls' := #[sI i0, sI i1, sI i2, sI i3, sI i4, sI 0, sI 3, sI c0, sI c1, sI c2, sI c3, sR x, sR r0, sR lo, sR y, sI 115, sU]) (st' := [(.int 2), (.ref y)]) rfl rfl (pc' := 200) rfl ?_
      obtain ⟨v63, T63, L63, h63, vm63, W63, ⟨rfl, e63⟩, C63, st63⟩ := oCallV W62 (idx := 50) (pc := 200) (ls := #[sI i0, sI i1, sI i2, sI i3, sI i4, sI 0, sI 3, sI c0, sI c1, sI c2, sI c3, sR x, sR r0, sR lo, sR y, sI 115, sU]) (st := []) (argsL := [(.int 2)]) F59.exa (c_chr K K.2.2.2.1 F59 (lb rfl) (i := 2) (by decide) (c := (117 : Int32)) rfl) (fun x hx => nomatch hx) (wK K 238 rfl) (wK K 79 rfl) (notFace_of_selects (args := #[]) (mvT W62.warm (wK K 81 rfl))) (wK K 81 rfl) (wK K 80 rfl) (wK K 10 rfl) (wK K 82 rfl) (by decide) (na := 1) rfl (by decide +kernel) rfl (stk := [(.int 2), (.ref y)]) rfl (by decide +kernel) (V := 0) (lb rfl) (lb rfl) (lb rfl) (lb rfl) (lb rfl)
      refine oLift st63 ?_
      rw [e63] at W63 C63
      show OG _ _ _ _ _ _ _ _ _ _ _ (mkF m 203 #[sI i0, sI i1, sI i2, sI i3, sI i4, sI 0, sI 3, sI c0, sI c1, sI c2, sI c3, sR x, sR r0, sR lo, sR y, sI 115, sU] [(.int 117)])
      refine oGo W63 [.bipush 117] (by decide +kernel) (ls' := #[sI i0, sI i1, sI i2, sI i3, sI i4, sI 0, sI 3, sI c0, sI c1, sI c2, sI c3, sR x, sR r0, sR lo, sR y, sI 115, sU]) (st' := [(.int 117), (.int 117)]) rfl rfl (pc' := 205) rfl ?_
      refine oIcF W63 (cd := .ne) (o := 29) (by decide +kernel) (XT.ii_ne_f rfl) (pc' := 208) rfl ?_
      refine oGo W63 [.aload 14, .iconst 3] (by decide +kernel) (ls' := #[sI i0, sI i1, sI i2, sI i3, sI i4, sI 0, sI 3, sI c0, sI c1, sI c2, sI c3, sR x, sR r0, sR lo, sR y, sI 115, sU]) (st' := [(.int 3), (.ref y)]) rfl rfl (pc' := 211) rfl ?_
      obtain ⟨v64, T64, L64, h64, vm64, W64, ⟨rfl, e64⟩, C64, st64⟩ := oCallV W63 (idx := 50) (pc := 211) (ls := #[sI i0, sI i1, sI i2, sI i3, sI i4, sI 0, sI 3, sI c0, sI c1, sI c2, sI c3, sR x, sR r0, sR lo, sR y, sI 115, sU]) (st := []) (argsL := [(.int 3)]) F59.exa (c_chr K K.2.2.2.1 F59 (lb rfl) (i := 3) (by decide) (c := (98 : Int32)) rfl) (fun x hx => nomatch hx) (wK K 238 rfl) (wK K 79 rfl) (notFace_of_selects (args := #[]) (mvT W63.warm (wK K 81 rfl))) (wK K 81 rfl) (wK K 80 rfl) (wK K 10 rfl) (wK K 82 rfl) (by decide) (na := 1) rfl (by decide +kernel) rfl (stk := [(.int 3), (.ref y)]) rfl (by decide +kernel) (V := 0) (lb rfl) (lb rfl) (lb rfl) (lb rfl) (lb rfl)
      refine oLift st64 ?_
      rw [e64] at W64 C64
      show OG _ _ _ _ _ _ _ _ _ _ _ (mkF m 214 #[sI i0, sI i1, sI i2, sI i3, sI i4, sI 0, sI 3, sI c0, sI c1, sI c2, sI c3, sR x, sR r0, sR lo, sR y, sI 115, sU] [(.int 98)])
      refine oGo W64 [.bipush 98] (by decide +kernel) (ls' := #[sI i0, sI i1, sI i2, sI i3, sI i4, sI 0, sI 3, sI c0, sI c1, sI c2, sI c3, sR x, sR r0, sR lo, sR y, sI 115, sU]) (st' := [(.int 98), (.int 98)]) rfl rfl (pc' := 216) rfl ?_
      refine oIcF W64 (cd := .ne) (o := 18) (by decide +kernel) (XT.ii_ne_f rfl) (pc' := 219) rfl ?_
      refine oGo W64 [.aload 14, .iconst 4] (by decide +kernel) (ls' := #[sI i0, sI i1, sI i2, sI i3, sI i4, sI 0, sI 3, sI c0, sI c1, sI c2, sI c3, sR x, sR r0, sR lo, sR y, sI 115, sU]) (st' := [(.int 4), (.ref y)]) rfl rfl (pc' := 222) rfl ?_
      obtain ⟨v65, T65, L65, h65, vm65, W65, ⟨rfl, e65⟩, C65, st65⟩ := oCallV W64 (idx := 50) (pc := 222) (ls := #[sI i0, sI i1, sI i2, sI i3, sI i4, sI 0, sI 3, sI c0, sI c1, sI c2, sI c3, sR x, sR r0, sR lo, sR y, sI 115, sU]) (st := []) (argsL := [(.int 4)]) F59.exa (c_chr K K.2.2.2.1 F59 (lb rfl) (i := 4) (by decide) (c := (47 : Int32)) rfl) (fun x hx => nomatch hx) (wK K 238 rfl) (wK K 79 rfl) (notFace_of_selects (args := #[]) (mvT W64.warm (wK K 81 rfl))) (wK K 81 rfl) (wK K 80 rfl) (wK K 10 rfl) (wK K 82 rfl) (by decide) (na := 1) rfl (by decide +kernel) rfl (stk := [(.int 4), (.ref y)]) rfl (by decide +kernel) (V := 0) (lb rfl) (lb rfl) (lb rfl) (lb rfl) (lb rfl)
      refine oLift st65 ?_
      rw [e65] at W65 C65
      show OG _ _ _ _ _ _ _ _ _ _ _ (mkF m 225 #[sI i0, sI i1, sI i2, sI i3, sI i4, sI 0, sI 3, sI c0, sI c1, sI c2, sI c3, sR x, sR r0, sR lo, sR y, sI 115, sU] [(.int 47)])
      refine oGo W65 [.bipush 47] (by decide +kernel) (ls' := #[sI i0, sI i1, sI i2, sI i3, sI i4, sI 0, sI 3, sI c0, sI c1, sI c2, sI c3, sR x, sR r0, sR lo, sR y, sI 115, sU]) (st' := [(.int 47), (.int 47)]) rfl rfl (pc' := 227) rfl ?_
      refine oIcF W65 (cd := .ne) (o := 7) (by decide +kernel) (XT.ii_ne_f rfl) (pc' := 230) rfl ?_
      refine oGo W65 [.iconst 1, .goto 4, .istore 16, .iload 16] (by decide +kernel) (ls' := #[sI i0, sI i1, sI i2, sI i3, sI i4, sI 0, sI 3, sI c0, sI c1, sI c2, sI c3, sR x, sR r0, sR lo, sR y, sI 115, sI 1]) (st' := [(.int 1)]) rfl rfl (pc' := 239) rfl ?_
      refine oIfF W65 (cd := .eq) (o := 18) (by decide +kernel) (XT.i0_eq_f (by decide)) (pc' := 242) rfl ?_
      refine oGo W65 [.aload 14, .iconst 5] (by decide +kernel) (ls' := #[sI i0, sI i1, sI i2, sI i3, sI i4, sI 0, sI 3, sI c0, sI c1, sI c2, sI c3, sR x, sR r0, sR lo, sR y, sI 115, sI 1]) (st' := [(.int 5), (.ref y)]) rfl rfl (pc' := 245) rfl ?_
      obtain ⟨v66, T66, L66, h66, vm66, W66, ⟨rfl, e66⟩, C66, st66⟩ := oCallV W65 (idx := 50) (pc := 245) (ls := #[sI i0, sI i1, sI i2, sI i3, sI i4, sI 0, sI 3, sI c0, sI c1, sI c2, sI c3, sR x, sR r0, sR lo, sR y, sI 115, sI 1]) (st := []) (argsL := [(.int 5)]) F59.exa (c_chr K K.2.2.2.1 F59 (lb rfl) (i := 5) (by decide) (c := c0) rfl) (fun x hx => nomatch hx) (wK K 238 rfl) (wK K 79 rfl) (notFace_of_selects (args := #[]) (mvT W65.warm (wK K 81 rfl))) (wK K 81 rfl) (wK K 80 rfl) (wK K 10 rfl) (wK K 82 rfl) (by decide) (na := 1) rfl (by decide +kernel) rfl (stk := [(.int 5), (.ref y)]) rfl (by decide +kernel) (V := 0) (lb rfl) (lb rfl) (lb rfl) (lb rfl) (lb rfl)
      refine oLift st66 ?_
      rw [e66] at W66 C66
      show OG _ _ _ _ _ _ _ _ _ _ _ (mkF m 248 #[sI i0, sI i1, sI i2, sI i3, sI i4, sI 0, sI 3, sI c0, sI c1, sI c2, sI c3, sR x, sR r0, sR lo, sR y, sI 115, sI 1] [(.int c0)])
      refine oGo W66 [.iload 7] (by decide +kernel) (ls' := #[sI i0, sI i1, sI i2, sI i3, sI i4, sI 0, sI 3, sI c0, sI c1, sI c2, sI c3, sR x, sR r0, sR lo, sR y, sI 115, sI 1]) (st' := [(.int c0), (.int c0)]) rfl rfl (pc' := 250) rfl ?_
      refine oIcF W66 (cd := .ne) (o := 7) (by decide +kernel) (XT.ii_ne_f rfl) (pc' := 253) rfl ?_
      refine oGo W66 [.iconst 1, .goto 4, .istore 16, .iload 6, .iconst 2] (by decide +kernel) (ls' := #[sI i0, sI i1, sI i2, sI i3, sI i4, sI 0, sI 3, sI c0, sI c1, sI c2, sI c3, sR x, sR r0, sR lo, sR y, sI 115, sI 1]) (st' := [(.int 2), (.int 3)]) rfl rfl (pc' := 263) rfl ?_
      refine oIcF W66 (cd := .lt) (o := 27) (by decide +kernel) (XT.ii_lt_f (by decide)) (pc' := 266) rfl ?_
      refine oGo W66 [.iload 16] (by decide +kernel) (ls' := #[sI i0, sI i1, sI i2, sI i3, sI i4, sI 0, sI 3, sI c0, sI c1, sI c2, sI c3, sR x, sR r0, sR lo, sR y, sI 115, sI 1]) (st' := [(.int 1)]) rfl rfl (pc' := 268) rfl ?_
      refine oIfF W66 (cd := .eq) (o := 19) (by decide +kernel) (XT.i0_eq_f (by decide)) (pc' := 271) rfl ?_
      refine oGo W66 [.aload 14, .bipush 6] (by decide +kernel) (ls' := #[sI i0, sI i1, sI i2, sI i3, sI i4, sI 0, sI 3, sI c0, sI c1, sI c2, sI c3, sR x, sR r0, sR lo, sR y, sI 115, sI 1]) (st' := [(.int 6), (.ref y)]) rfl rfl (pc' := 275) rfl ?_
      obtain ⟨v67, T67, L67, h67, vm67, W67, ⟨rfl, e67⟩, C67, st67⟩ := oCallV W66 (idx := 50) (pc := 275) (ls := #[sI i0, sI i1, sI i2, sI i3, sI i4, sI 0, sI 3, sI c0, sI c1, sI c2, sI c3, sR x, sR r0, sR lo, sR y, sI 115, sI 1]) (st := []) (argsL := [(.int 6)]) F59.exa (c_chr K K.2.2.2.1 F59 (lb rfl) (i := 6) (by decide) (c := c1) rfl) (fun x hx => nomatch hx) (wK K 238 rfl) (wK K 79 rfl) (notFace_of_selects (args := #[]) (mvT W66.warm (wK K 81 rfl))) (wK K 81 rfl) (wK K 80 rfl) (wK K 10 rfl) (wK K 82 rfl) (by decide) (na := 1) rfl (by decide +kernel) rfl (stk := [(.int 6), (.ref y)]) rfl (by decide +kernel) (V := 0) (lb rfl) (lb rfl) (lb rfl) (lb rfl) (lb rfl)
      refine oLift st67 ?_
      rw [e67] at W67 C67
      show OG _ _ _ _ _ _ _ _ _ _ _ (mkF m 278 #[sI i0, sI i1, sI i2, sI i3, sI i4, sI 0, sI 3, sI c0, sI c1, sI c2, sI c3, sR x, sR r0, sR lo, sR y, sI 115, sI 1] [(.int c1)])
      refine oGo W67 [.iload 8] (by decide +kernel) (ls' := #[sI i0, sI i1, sI i2, sI i3, sI i4, sI 0, sI 3, sI c0, sI c1, sI c2, sI c3, sR x, sR r0, sR lo, sR y, sI 115, sI 1]) (st' := [(.int c1), (.int c1)]) rfl rfl (pc' := 280) rfl ?_
      refine oIcF W67 (cd := .ne) (o := 7) (by decide +kernel) (XT.ii_ne_f rfl) (pc' := 283) rfl ?_
      refine oGo W67 [.iconst 1, .goto 4, .istore 16, .iload 6, .iconst 3] (by decide +kernel) (ls' := #[sI i0, sI i1, sI i2, sI i3, sI i4, sI 0, sI 3, sI c0, sI c1, sI c2, sI c3, sR x, sR r0, sR lo, sR y, sI 115, sI 1]) (st' := [(.int 3), (.int 3)]) rfl rfl (pc' := 293) rfl ?_
      refine oIcF W67 (cd := .lt) (o := 27) (by decide +kernel) (XT.ii_lt_f (by decide)) (pc' := 296) rfl ?_
      refine oGo W67 [.iload 16] (by decide +kernel) (ls' := #[sI i0, sI i1, sI i2, sI i3, sI i4, sI 0, sI 3, sI c0, sI c1, sI c2, sI c3, sR x, sR r0, sR lo, sR y, sI 115, sI 1]) (st' := [(.int 1)]) rfl rfl (pc' := 298) rfl ?_
      refine oIfF W67 (cd := .eq) (o := 19) (by decide +kernel) (XT.i0_eq_f (by decide)) (pc' := 301) rfl ?_
      refine oGo W67 [.aload 14, .bipush 7] (by decide +kernel) (ls' := #[sI i0, sI i1, sI i2, sI i3, sI i4, sI 0, sI 3, sI c0, sI c1, sI c2, sI c3, sR x, sR r0, sR lo, sR y, sI 115, sI 1]) (st' := [(.int 7), (.ref y)]) rfl rfl (pc' := 305) rfl ?_
      obtain ⟨v68, T68, L68, h68, vm68, W68, ⟨rfl, e68⟩, C68, st68⟩ := oCallV W67 (idx := 50) (pc := 305) (ls := #[sI i0, sI i1, sI i2, sI i3, sI i4, sI 0, sI 3, sI c0, sI c1, sI c2, sI c3, sR x, sR r0, sR lo, sR y, sI 115, sI 1]) (st := []) (argsL := [(.int 7)]) F59.exa (c_chr K K.2.2.2.1 F59 (lb rfl) (i := 7) (by decide) (c := c2) rfl) (fun x hx => nomatch hx) (wK K 238 rfl) (wK K 79 rfl) (notFace_of_selects (args := #[]) (mvT W67.warm (wK K 81 rfl))) (wK K 81 rfl) (wK K 80 rfl) (wK K 10 rfl) (wK K 82 rfl) (by decide) (na := 1) rfl (by decide +kernel) rfl (stk := [(.int 7), (.ref y)]) rfl (by decide +kernel) (V := 0) (lb rfl) (lb rfl) (lb rfl) (lb rfl) (lb rfl)
      refine oLift st68 ?_
      rw [e68] at W68 C68
      show OG _ _ _ _ _ _ _ _ _ _ _ (mkF m 308 #[sI i0, sI i1, sI i2, sI i3, sI i4, sI 0, sI 3, sI c0, sI c1, sI c2, sI c3, sR x, sR r0, sR lo, sR y, sI 115, sI 1] [(.int c2)])
      refine oGo W68 [.iload 9] (by decide +kernel) (ls' := #[sI i0, sI i1, sI i2, sI i3, sI i4, sI 0, sI 3, sI c0, sI c1, sI c2, sI c3, sR x, sR r0, sR lo, sR y, sI 115, sI 1]) (st' := [(.int c2), (.int c2)]) rfl rfl (pc' := 310) rfl ?_
      refine oIcF W68 (cd := .ne) (o := 7) (by decide +kernel) (XT.ii_ne_f rfl) (pc' := 313) rfl ?_
      refine oGo W68 [.iconst 1, .goto 4, .istore 16, .iload 6, .iconst 4] (by decide +kernel) (ls' := #[sI i0, sI i1, sI i2, sI i3, sI i4, sI 0, sI 3, sI c0, sI c1, sI c2, sI c3, sR x, sR r0, sR lo, sR y, sI 115, sI 1]) (st' := [(.int 4), (.int 3)]) rfl rfl (pc' := 323) rfl ?_
      refine oIcT W68 (cd := .lt) (o := 27) (by decide +kernel) (XT.ii_lt_t (by decide)) (pc' := 350) (by decide) (by decide) ?_
      refine oGo W68 [.iload 16] (by decide +kernel) (ls' := #[sI i0, sI i1, sI i2, sI i3, sI i4, sI 0, sI 3, sI c0, sI c1, sI c2, sI c3, sR x, sR r0, sR lo, sR y, sI 115, sI 1]) (st' := [(.int 1)]) rfl rfl (pc' := 352) rfl ?_
      exact oRetN (by simp) W68 rfl (by decide +kernel) (lb rfl) (lb rfl) (fun vm' hv => rfl)
    · rw [hL]
      refine oGo W5 [.iload 6, .iconst 1] (by decide +kernel) (ls' := #[sI i0, sI i1, sI i2, sI i3, sI i4, sI 0, sI 4, sI c0, sI c1, sI c2, sI c3, sU, sU, sU, sU, sU, sU]) (st' := [(.int 1), (.int 4)]) rfl rfl (pc' := 50) rfl ?_
      refine oIcT W5 (cd := .ne) (o := 12) (by decide +kernel) (XT.ii_ne_t (by decide)) (pc' := 62) (by decide) (by decide) ?_
      refine oGo W5 [.iload 6, .iconst 2] (by decide +kernel) (ls' := #[sI i0, sI i1, sI i2, sI i3, sI i4, sI 0, sI 4, sI c0, sI c1, sI c2, sI c3, sU, sU, sU, sU, sU, sU]) (st' := [(.int 2), (.int 4)]) rfl rfl (pc' := 65) rfl ?_
      refine oIcT W5 (cd := .ne) (o := 19) (by decide +kernel) (XT.ii_ne_t (by decide)) (pc' := 84) (by decide) (by decide) ?_
      refine oGo W5 [.iload 6, .iload 7, .iload 8, .iload 9, .iload 10] (by decide +kernel) (ls' := #[sI i0, sI i1, sI i2, sI i3, sI i4, sI 0, sI 4, sI c0, sI c1, sI c2, sI c3, sU, sU, sU, sU, sU, sU]) (st' := [(.int c3), (.int c2), (.int c1), (.int c0), (.int 4)]) rfl rfl (pc' := 94) rfl ?_
      obtain ⟨v69, T69, L69, h69, vm69, W69, ⟨x, rfl, F69, E69⟩, C69, st69⟩ := oCallS W5 (idx := 19) (pc := 94) (ls := #[sI i0, sI i1, sI i2, sI i3, sI i4, sI 0, sI 4, sI c0, sI c1, sI c2, sI c3, sU, sU, sU, sU, sU, sU]) (st := []) (argsL := [(.int 4), (.int c0), (.int c1), (.int c2), (.int c3)]) (c_dr4 K (c0 := c0) (c1 := c1) (c2 := c2) (c3 := c3) qa0 qa1 qa2 qa3) (fun x hx => nomatch hx) (wK K 5 rfl) (wK K 6 rfl) (wK K 2 rfl) (wK K 7 rfl) (by decide) (na := 5) rfl (by decide +kernel) rfl (stk := [(.int c3), (.int c2), (.int c1), (.int c0), (.int 4)]) rfl (by decide +kernel) (V := 0) (lb rfl) (lb rfl) (lb rfl) (lb rfl) (lb rfl)
      refine oLift st69 ?_
      show OG _ _ _ _ _ _ _ _ _ _ _ (mkF m 97 #[sI i0, sI i1, sI i2, sI i3, sI i4, sI 0, sI 4, sI c0, sI c1, sI c2, sI c3, sU, sU, sU, sU, sU, sU] [(.ref x)])
      refine oGo W69 [.astore 11, .iload 5] (by decide +kernel) (ls' := #[sI i0, sI i1, sI i2, sI i3, sI i4, sI 0, sI 4, sI c0, sI c1, sI c2, sI c3, sR x, sU, sU, sU, sU, sU]) (st' := [(.int 0)]) rfl rfl (pc' := 101) rfl ?_
      refine oIfT W69 (cd := .eq) (o := 9) (by decide +kernel) (XT.i0_eq_t (by decide)) (pc' := 110) (by decide) (by decide) ?_
      obtain ⟨T70, W70, st70⟩ := oGetS W69 (pc := 110) (ls := #[sI i0, sI i1, sI i2, sI i3, sI i4, sI 0, sI 4, sI c0, sI c1, sI c2, sI c3, sR x, sU, sU, sU, sU, sU]) (st := []) (wK K 38 rfl) Via.refl (Sr0.ext W69.ext) (by decide +kernel)
      refine oLift st70 ?_
      refine oGo W70 [.astore 12] (by decide +kernel) (ls' := #[sI i0, sI i1, sI i2, sI i3, sI i4, sI 0, sI 4, sI c0, sI c1, sI c2, sI c3, sR x, sR r0, sU, sU, sU, sU]) (st' := []) rfl rfl (pc' := 115) rfl ?_
      obtain ⟨T71, h71, lo, W71, g71, E71, A71, D71, S71, C71, st71⟩ := oNew W70 (pc := 115) (ls := #[sI i0, sI i1, sI i2, sI i3, sI i4, sI 0, sI 4, sI c0, sI c1, sI c2, sI c3, sR x, sR r0, sU, sU, sU, sU]) (st := []) (wK K 41 rfl) (wK K 42 rfl) (wK K 43 rfl) (by decide +kernel) (lb rfl) (lb rfl)
      refine oLift st71 ?_
      refine oGo W71 [.dup, .aload 12] (by decide +kernel) (ls' := #[sI i0, sI i1, sI i2, sI i3, sI i4, sI 0, sI 4, sI c0, sI c1, sI c2, sI c3, sR x, sR r0, sU, sU, sU, sU]) (st' := [(.ref r0), (.ref lo), (.ref lo)]) rfl rfl (pc' := 121) rfl ?_
      obtain ⟨T72, h72, nm, W72, g72, E72, A72, D72, S72, C72, st72⟩ := oNew W71 (pc := 121) (ls := #[sI i0, sI i1, sI i2, sI i3, sI i4, sI 0, sI 4, sI c0, sI c1, sI c2, sI c3, sR x, sR r0, sU, sU, sU, sU]) (st := [(.ref r0), (.ref lo), (.ref lo)]) (wK K 44 rfl) (wK K 45 rfl) (wK K 46 rfl) (by decide +kernel) (lb rfl) (lb rfl)
      refine oLift st72 ?_
      refine oGo W72 [.dup, .aload 11] (by decide +kernel) (ls' := #[sI i0, sI i1, sI i2, sI i3, sI i4, sI 0, sI 4, sI c0, sI c1, sI c2, sI c3, sR x, sR r0, sU, sU, sU, sU]) (st' := [(.ref x), (.ref nm), (.ref nm), (.ref r0), (.ref lo), (.ref lo)]) rfl rfl (pc' := 127) rfl ?_
      have hnl : nm ≠ lo := Nat.ne_of_gt (Nat.lt_of_lt_of_le A71.lt g72)
      obtain ⟨v73, T73, L73, h73, vm73, W73, ⟨rfl, K73, X73, F73⟩, C73, st73⟩ := oCallN W72 (idx := 36) (pc := 127) (ls := #[sI i0, sI i1, sI i2, sI i3, sI i4, sI 0, sI 4, sI c0, sI c1, sI c2, sI c3, sR x, sR r0, sU, sU, sU, sU]) (st := [(.ref nm), (.ref r0), (.ref lo), (.ref lo)]) (a := nm) (argsL := [(.ref x)]) (c_cn4 K ((F69.ext E71).ext E72) qa0 qa1 qa2 qa3 (Nat.le_trans W71.ext.1 g72) A72 (D72 (Or.inr (wK K 115 rfl)) (ty := (.object "java/lang/String")) (by decide))) (fun x hx => nomatch hx) rfl (wK K 47 rfl) (wK K 48 rfl) (wK K 46 rfl) (wK K 49 rfl) (by decide) (na := 1) rfl (by decide +kernel) rfl (stk := [(.ref x), (.ref nm), (.ref nm), (.ref r0), (.ref lo), (.ref lo)]) rfl (by decide +kernel) (V := 4) (lb rfl) (lb rfl) (lb rfl) (lb rfl) (lb rfl)
      refine oLift st73 ?_
      show OG _ _ _ _ _ _ _ _ _ _ _ (mkF m 130 #[sI i0, sI i1, sI i2, sI i3, sI i4, sI 0, sI 4, sI c0, sI c1, sI c2, sI c3, sR x, sR r0, sU, sU, sU, sU] [(.ref nm), (.ref r0), (.ref lo), (.ref lo)])
      obtain ⟨v74, T74, L74, h74, vm74, W74, ⟨rfl, K74, X74, F74, G74⟩, C74, st74⟩ := oCallN W73 (idx := 39) (pc := 130) (ls := #[sI i0, sI i1, sI i2, sI i3, sI i4, sI 0, sI 4, sI c0, sI c1, sI c2, sI c3, sR x, sR r0, sU, sU, sU, sU]) (st := [(.ref lo)]) (a := lo) (argsL := [(.ref r0), (.ref nm)]) (c_cli K (Nat.le_trans W69.ext.1 g71) (A71.ext (exK E72 K73 (fun y hy => by cases List.mem_singleton.mp hy; exact g72))) ((D71 (Or.inr (wK K 121 rfl)) (ty := (.object "com/example/gentle_hub/gentlehub/server/ChannelLocation$Role")) (by decide)).ext (exK E72 K73 (fun y hy => by cases List.mem_singleton.mp hy; exact g72))) ((D71 (Or.inr (wK K 123 rfl)) (ty := (.object "com/example/gentle_hub/gentlehub/core/ChannelName")) (by decide)).ext (exK E72 K73 (fun y hy => by cases List.mem_singleton.mp hy; exact g72)))) (fun x hx => nomatch hx) rfl (wK K 116 rfl) (wK K 117 rfl) (wK K 43 rfl) (wK K 118 rfl) (by decide) (na := 2) rfl (by decide +kernel) rfl (stk := [(.ref nm), (.ref r0), (.ref lo), (.ref lo)]) rfl (by decide +kernel) (V := 1) (lb rfl) (lb rfl) (lb rfl) (lb rfl) (lb rfl)
      refine oLift st74 ?_
      show OG _ _ _ _ _ _ _ _ _ _ _ (mkF m 133 #[sI i0, sI i1, sI i2, sI i3, sI i4, sI 0, sI 4, sI c0, sI c1, sI c2, sI c3, sR x, sR r0, sU, sU, sU, sU] [(.ref lo)])
      refine oGo W74 [.astore 13, .aload 13] (by decide +kernel) (ls' := #[sI i0, sI i1, sI i2, sI i3, sI i4, sI 0, sI 4, sI c0, sI c1, sI c2, sI c3, sR x, sR r0, sR lo, sU, sU, sU]) (st' := [(.ref lo)]) rfl rfl (pc' := 137) rfl ?_
      obtain ⟨v75, T75, L75, h75, vm75, W75, ⟨y, rfl, F75, E75⟩, C75, st75⟩ := oCallV W74 (idx := 42) (pc := 137) (ls := #[sI i0, sI i1, sI i2, sI i3, sI i4, sI 0, sI 4, sI c0, sI c1, sI c2, sI c3, sR x, sR r0, sR lo, sU, sU, sU]) (st := []) (argsL := []) X74 (c_path K F74 G74 (Fr0.ext W74.ext) (Tr0.ext W74.ext) (X73.keep K74) (F73.keep K74 (ninS hnl nin0)) (F69.ext (exK (exT E71 (exK E72 K73 (fun y hy => by cases List.mem_singleton.mp hy; exact g72))) K74 (fun y hy => by cases List.mem_singleton.mp hy; exact g71))) (lb rfl)) (fun x hx => nomatch hx) (wK K 124 rfl) (wK K 125 rfl) (notFace_of_selects (args := #[]) (mvT W74.warm (wK K 127 rfl))) (wK K 127 rfl) (wK K 126 rfl) (wK K 43 rfl) (wK K 128 rfl) (by decide) (na := 0) rfl (by decide +kernel) rfl (stk := [(.ref lo)]) rfl (by decide +kernel) (V := 0) (lb rfl) (lb rfl) (lb rfl) (lb rfl) (lb rfl)
      refine oLift st75 ?_
      show OG _ _ _ _ _ _ _ _ _ _ _ (mkF m 140 #[sI i0, sI i1, sI i2, sI i3, sI i4, sI 0, sI 4, sI c0, sI c1, sI c2, sI c3, sR x, sR r0, sR lo, sU, sU, sU] [(.ref y)])
      refine oGo W75 [.astore 14, .aload 14] (by decide +kernel) (ls' := #[sI i0, sI i1, sI i2, sI i3, sI i4, sI 0, sI 4, sI c0, sI c1, sI c2, sI c3, sR x, sR r0, sR lo, sR y, sU, sU]) (st' := [(.ref y)]) rfl rfl (pc' := 144) rfl ?_
      refine oNuF W75 (o := 15) (by decide +kernel) (pc' := 147) rfl ?_
      refine oGo W75 [.aload 14] (by decide +kernel) (ls' := #[sI i0, sI i1, sI i2, sI i3, sI i4, sI 0, sI 4, sI c0, sI c1, sI c2, sI c3, sR x, sR r0, sR lo, sR y, sU, sU]) (st' := [(.ref y)]) rfl rfl (pc' := 149) rfl ?_
      obtain ⟨v76, T76, L76, h76, vm76, W76, ⟨rfl, e76⟩, C76, st76⟩ := oCallV W75 (idx := 46) (pc := 149) (ls := #[sI i0, sI i1, sI i2, sI i3, sI i4, sI 0, sI 4, sI c0, sI c1, sI c2, sI c3, sR x, sR r0, sR lo, sR y, sU, sU]) (st := []) (argsL := []) F75.exa (c_len K F75) (fun x hx => nomatch hx) (wK K 237 rfl) (wK K 69 rfl) (notFace_of_selects (args := #[]) (mvT W75.warm (wK K 71 rfl))) (wK K 71 rfl) (wK K 70 rfl) (wK K 10 rfl) (wK K 72 rfl) (by decide) (na := 0) rfl (by decide +kernel) rfl (stk := [(.ref y)]) rfl (by decide +kernel) (V := 0) (lb rfl) (lb rfl) (lb rfl) (lb rfl) (lb rfl)
      refine oLift st76 ?_
      rw [e76] at W76 C76
      show OG _ _ _ _ _ _ _ _ _ _ _ (mkF m 152 #[sI i0, sI i1, sI i2, sI i3, sI i4, sI 0, sI 4, sI c0, sI c1, sI c2, sI c3, sR x, sR r0, sR lo, sR y, sU, sU] [(.int 9)])
      refine oGo W76 [.iconst 5, .iload 6, .iadd] (by decide +kernel) (ls' := #[sI i0, sI i1, sI i2, sI i3, sI i4, sI 0, sI 4, sI c0, sI c1, sI c2, sI c3, sR x, sR r0, sR lo, sR y, sU, sU]) (st' := [(.int ((5 : Int32) + (4 : Int32))), (.int 9)]) rfl rfl (pc' := 156) rfl ?_
      refine oIcT W76 (cd := .eq) (o := 5) (by decide +kernel) (XT.ii_eq_t (by decide)) (pc' := 161) (by decide) (by decide) ?_
      refine oGo W76 [.iload 5] (by decide +kernel) (ls' := #[sI i0, sI i1, sI i2, sI i3, sI i4, sI 0, sI 4, sI c0, sI c1, sI c2, sI c3, sR x, sR r0, sR lo, sR y, sU, sU]) (st' := [(.int 0)]) rfl rfl (pc' := 163) rfl ?_
      refine oIfT W76 (cd := .eq) (o := 8) (by decide +kernel) (XT.i0_eq_t (by decide)) (pc' := 171) (by decide) (by decide) ?_
      refine oGo W76 [.bipush 115, .istore 15, .aload 14, .iconst 0] (by decide +kernel) (ls' := #[sI i0, sI i1, sI i2, sI i3, sI i4, sI 0, sI 4, sI c0, sI c1, sI c2, sI c3, sR x, sR r0, sR lo, sR y, sI 115, sU]) (st' := [(.int 0), (.ref y)]) rfl rfl (pc' := 178) rfl ?_
      obtain ⟨v77, T77, L77, h77, vm77, W77, ⟨rfl, e77⟩, C77, st77⟩ := oCallV W76 (idx := 50) (pc := 178) (ls := #[sI i0, sI i1, sI i2, sI i3, sI i4, sI 0, sI 4, sI c0, sI c1, sI c2, sI c3, sR x, sR r0, sR lo, sR y, sI 115, sU]) (st := []) (argsL := [(.int 0)]) F75.exa (c_chr K K.2.2.2.1 F75 (lb rfl) (i := 0) (by decide) (c := (47 : Int32)) rfl) (fun x hx => nomatch hx) (wK K 238 rfl) (wK K 79 rfl) (notFace_of_selects (args := #[]) (mvT W76.warm (wK K 81 rfl))) (wK K 81 rfl) (wK K 80 rfl) (wK K 10 rfl) (wK K 82 rfl) (by decide) (na := 1) rfl (by decide +kernel) rfl (stk := [(.int 0), (.ref y)]) rfl (by decide +kernel) (V := 0) (lb rfl) (lb rfl) (lb rfl) (lb rfl) (lb rfl)
      refine oLift st77 ?_
      rw [e77] at W77 C77
      show OG _ _ _ _ _ _ _ _ _ _ _ (mkF m 181 #[sI i0, sI i1, sI i2, sI i3, sI i4, sI 0, sI 4, sI c0, sI c1, sI c2, sI c3, sR x, sR r0, sR lo, sR y, sI 115, sU] [(.int 47)])
      refine oGo W77 [.bipush 47] (by decide +kernel) (ls' := #[sI i0, sI i1, sI i2, sI i3, sI i4, sI 0, sI 4, sI c0, sI c1, sI c2, sI c3, sR x, sR r0, sR lo, sR y, sI 115, sU]) (st' := [(.int 47), (.int 47)]) rfl rfl (pc' := 183) rfl ?_
      refine oIcF W77 (cd := .ne) (o := 51) (by decide +kernel) (XT.ii_ne_f rfl) (pc' := 186) rfl ?_
      refine oGo W77 [.aload 14, .iconst 1] (by decide +kernel) (ls' := #[sI i0, sI i1, sI i2, sI i3, sI i4, sI 0, sI 4, sI c0, sI c1, sI c2, sI c3, sR x, sR r0, sR lo, sR y, sI 115, sU]) (st' := [(.int 1), (.ref y)]) rfl rfl (pc' := 189) rfl ?_
      obtain ⟨v78, T78, L78, h78, vm78, W78, ⟨rfl, e78⟩, C78, st78⟩ := oCallV W77 (idx := 50) (pc := 189) (ls := #[sI i0, sI i1, sI i2, sI i3, sI i4, sI 0, sI 4, sI c0, sI c1, sI c2, sI c3, sR x, sR r0, sR lo, sR y, sI 115, sU]) (st := []) (argsL := [(.int 1)]) F75.exa (c_chr K K.2.2.2.1 F75 (lb rfl) (i := 1) (by decide) (c := (115 : Int32)) rfl) (fun x hx => nomatch hx) (wK K 238 rfl) (wK K 79 rfl) (notFace_of_selects (args := #[]) (mvT W77.warm (wK K 81 rfl))) (wK K 81 rfl) (wK K 80 rfl) (wK K 10 rfl) (wK K 82 rfl) (by decide) (na := 1) rfl (by decide +kernel) rfl (stk := [(.int 1), (.ref y)]) rfl (by decide +kernel) (V := 0) (lb rfl) (lb rfl) (lb rfl) (lb rfl) (lb rfl)
      refine oLift st78 ?_
      rw [e78] at W78 C78
      show OG _ _ _ _ _ _ _ _ _ _ _ (mkF m 192 #[sI i0, sI i1, sI i2, sI i3, sI i4, sI 0, sI 4, sI c0, sI c1, sI c2, sI c3, sR x, sR r0, sR lo, sR y, sI 115, sU] [(.int 115)])
      refine oGo W78 [.iload 15] (by decide +kernel) (ls' := #[sI i0, sI i1, sI i2, sI i3, sI i4, sI 0, sI 4, sI c0, sI c1, sI c2, sI c3, sR x, sR r0, sR lo, sR y, sI 115, sU]) (st' := [(.int 115), (.int 115)]) rfl rfl (pc' := 194) rfl ?_
      refine oIcF W78 (cd := .ne) (o := 40) (by decide +kernel) (XT.ii_ne_f rfl) (pc' := 197) rfl ?_
      refine oGo W78 [.aload 14, .iconst 2] (by decide +kernel) (ls' := #[sI i0, sI i1, sI i2, sI i3, sI i4, sI 0, sI 4, sI c0, sI c1, sI c2, sI c3, sR x, sR r0, sR lo, sR y, sI 115, sU]) (st' := [(.int 2), (.ref y)]) rfl rfl (pc' := 200) rfl ?_
      obtain ⟨v79, T79, L79, h79, vm79, W79, ⟨rfl, e79⟩, C79, st79⟩ := oCallV W78 (idx := 50) (pc := 200) (ls := #[sI i0, sI i1, sI i2, sI i3, sI i4, sI 0, sI 4, sI c0, sI c1, sI c2, sI c3, sR x, sR r0, sR lo, sR y, sI 115, sU]) (st := []) (argsL := [(.int 2)]) F75.exa (c_chr K K.2.2.2.1 F75 (lb rfl) (i := 2) (by decide) (c := (117 : Int32)) rfl) (fun x hx => nomatch hx) (wK K 238 rfl) (wK K 79 rfl) (notFace_of_selects (args := #[]) (mvT W78.warm (wK K 81 rfl))) (wK K 81 rfl) (wK K 80 rfl) (wK K 10 rfl) (wK K 82 rfl) (by decide) (na := 1) rfl (by decide +kernel) rfl (stk := [(.int 2), (.ref y)]) rfl (by decide +kernel) (V := 0) (lb rfl) (lb rfl) (lb rfl) (lb rfl) (lb rfl)
      refine oLift st79 ?_
      rw [e79] at W79 C79
      show OG _ _ _ _ _ _ _ _ _ _ _ (mkF m 203 #[sI i0, sI i1, sI i2, sI i3, sI i4, sI 0, sI 4, sI c0, sI c1, sI c2, sI c3, sR x, sR r0, sR lo, sR y, sI 115, sU] [(.int 117)])
      refine oGo W79 [.bipush 117] (by decide +kernel) (ls' := #[sI i0, sI i1, sI i2, sI i3, sI i4, sI 0, sI 4, sI c0, sI c1, sI c2, sI c3, sR x, sR r0, sR lo, sR y, sI 115, sU]) (st' := [(.int 117), (.int 117)]) rfl rfl (pc' := 205) rfl ?_
      refine oIcF W79 (cd := .ne) (o := 29) (by decide +kernel) (XT.ii_ne_f rfl) (pc' := 208) rfl ?_
      refine oGo W79 [.aload 14, .iconst 3] (by decide +kernel) (ls' := #[sI i0, sI i1, sI i2, sI i3, sI i4, sI 0, sI 4, sI c0, sI c1, sI c2, sI c3, sR x, sR r0, sR lo, sR y, sI 115, sU]) (st' := [(.int 3), (.ref y)]) rfl rfl (pc' := 211) rfl ?_
      obtain ⟨v80, T80, L80, h80, vm80, W80, ⟨rfl, e80⟩, C80, st80⟩ := oCallV W79 (idx := 50) (pc := 211) (ls := #[sI i0, sI i1, sI i2, sI i3, sI i4, sI 0, sI 4, sI c0, sI c1, sI c2, sI c3, sR x, sR r0, sR lo, sR y, sI 115, sU]) (st := []) (argsL := [(.int 3)]) F75.exa (c_chr K K.2.2.2.1 F75 (lb rfl) (i := 3) (by decide) (c := (98 : Int32)) rfl) (fun x hx => nomatch hx) (wK K 238 rfl) (wK K 79 rfl) (notFace_of_selects (args := #[]) (mvT W79.warm (wK K 81 rfl))) (wK K 81 rfl) (wK K 80 rfl) (wK K 10 rfl) (wK K 82 rfl) (by decide) (na := 1) rfl (by decide +kernel) rfl (stk := [(.int 3), (.ref y)]) rfl (by decide +kernel) (V := 0) (lb rfl) (lb rfl) (lb rfl) (lb rfl) (lb rfl)
      refine oLift st80 ?_
      rw [e80] at W80 C80
      show OG _ _ _ _ _ _ _ _ _ _ _ (mkF m 214 #[sI i0, sI i1, sI i2, sI i3, sI i4, sI 0, sI 4, sI c0, sI c1, sI c2, sI c3, sR x, sR r0, sR lo, sR y, sI 115, sU] [(.int 98)])
      refine oGo W80 [.bipush 98] (by decide +kernel) (ls' := #[sI i0, sI i1, sI i2, sI i3, sI i4, sI 0, sI 4, sI c0, sI c1, sI c2, sI c3, sR x, sR r0, sR lo, sR y, sI 115, sU]) (st' := [(.int 98), (.int 98)]) rfl rfl (pc' := 216) rfl ?_
      refine oIcF W80 (cd := .ne) (o := 18) (by decide +kernel) (XT.ii_ne_f rfl) (pc' := 219) rfl ?_
      refine oGo W80 [.aload 14, .iconst 4] (by decide +kernel) (ls' := #[sI i0, sI i1, sI i2, sI i3, sI i4, sI 0, sI 4, sI c0, sI c1, sI c2, sI c3, sR x, sR r0, sR lo, sR y, sI 115, sU]) (st' := [(.int 4), (.ref y)]) rfl rfl (pc' := 222) rfl ?_
      obtain ⟨v81, T81, L81, h81, vm81, W81, ⟨rfl, e81⟩, C81, st81⟩ := oCallV W80 (idx := 50) (pc := 222) (ls := #[sI i0, sI i1, sI i2, sI i3, sI i4, sI 0, sI 4, sI c0, sI c1, sI c2, sI c3, sR x, sR r0, sR lo, sR y, sI 115, sU]) (st := []) (argsL := [(.int 4)]) F75.exa (c_chr K K.2.2.2.1 F75 (lb rfl) (i := 4) (by decide) (c := (47 : Int32)) rfl) (fun x hx => nomatch hx) (wK K 238 rfl) (wK K 79 rfl) (notFace_of_selects (args := #[]) (mvT W80.warm (wK K 81 rfl))) (wK K 81 rfl) (wK K 80 rfl) (wK K 10 rfl) (wK K 82 rfl) (by decide) (na := 1) rfl (by decide +kernel) rfl (stk := [(.int 4), (.ref y)]) rfl (by decide +kernel) (V := 0) (lb rfl) (lb rfl) (lb rfl) (lb rfl) (lb rfl)
      refine oLift st81 ?_
      rw [e81] at W81 C81
      show OG _ _ _ _ _ _ _ _ _ _ _ (mkF m 225 #[sI i0, sI i1, sI i2, sI i3, sI i4, sI 0, sI 4, sI c0, sI c1, sI c2, sI c3, sR x, sR r0, sR lo, sR y, sI 115, sU] [(.int 47)])
      refine oGo W81 [.bipush 47] (by decide +kernel) (ls' := #[sI i0, sI i1, sI i2, sI i3, sI i4, sI 0, sI 4, sI c0, sI c1, sI c2, sI c3, sR x, sR r0, sR lo, sR y, sI 115, sU]) (st' := [(.int 47), (.int 47)]) rfl rfl (pc' := 227) rfl ?_
      refine oIcF W81 (cd := .ne) (o := 7) (by decide +kernel) (XT.ii_ne_f rfl) (pc' := 230) rfl ?_
      refine oGo W81 [.iconst 1, .goto 4, .istore 16, .iload 16] (by decide +kernel) (ls' := #[sI i0, sI i1, sI i2, sI i3, sI i4, sI 0, sI 4, sI c0, sI c1, sI c2, sI c3, sR x, sR r0, sR lo, sR y, sI 115, sI 1]) (st' := [(.int 1)]) rfl rfl (pc' := 239) rfl ?_
      refine oIfF W81 (cd := .eq) (o := 18) (by decide +kernel) (XT.i0_eq_f (by decide)) (pc' := 242) rfl ?_
      refine oGo W81 [.aload 14, .iconst 5] (by decide +kernel) (ls' := #[sI i0, sI i1, sI i2, sI i3, sI i4, sI 0, sI 4, sI c0, sI c1, sI c2, sI c3, sR x, sR r0, sR lo, sR y, sI 115, sI 1]) (st' := [(.int 5), (.ref y)]) rfl rfl (pc' := 245) rfl ?_
      obtain ⟨v82, T82, L82, h82, vm82, W82, ⟨rfl, e82⟩, C82, st82⟩ := oCallV W81 (idx := 50) (pc := 245) (ls := #[sI i0, sI i1, sI i2, sI i3, sI i4, sI 0, sI 4, sI c0, sI c1, sI c2, sI c3, sR x, sR r0, sR lo, sR y, sI 115, sI 1]) (st := []) (argsL := [(.int 5)]) F75.exa (c_chr K K.2.2.2.1 F75 (lb rfl) (i := 5) (by decide) (c := c0) rfl) (fun x hx => nomatch hx) (wK K 238 rfl) (wK K 79 rfl) (notFace_of_selects (args := #[]) (mvT W81.warm (wK K 81 rfl))) (wK K 81 rfl) (wK K 80 rfl) (wK K 10 rfl) (wK K 82 rfl) (by decide) (na := 1) rfl (by decide +kernel) rfl (stk := [(.int 5), (.ref y)]) rfl (by decide +kernel) (V := 0) (lb rfl) (lb rfl) (lb rfl) (lb rfl) (lb rfl)
      refine oLift st82 ?_
      rw [e82] at W82 C82
      show OG _ _ _ _ _ _ _ _ _ _ _ (mkF m 248 #[sI i0, sI i1, sI i2, sI i3, sI i4, sI 0, sI 4, sI c0, sI c1, sI c2, sI c3, sR x, sR r0, sR lo, sR y, sI 115, sI 1] [(.int c0)])
      refine oGo W82 [.iload 7] (by decide +kernel) (ls' := #[sI i0, sI i1, sI i2, sI i3, sI i4, sI 0, sI 4, sI c0, sI c1, sI c2, sI c3, sR x, sR r0, sR lo, sR y, sI 115, sI 1]) (st' := [(.int c0), (.int c0)]) rfl rfl (pc' := 250) rfl ?_
      refine oIcF W82 (cd := .ne) (o := 7) (by decide +kernel) (XT.ii_ne_f rfl) (pc' := 253) rfl ?_
      refine oGo W82 [.iconst 1, .goto 4, .istore 16, .iload 6, .iconst 2] (by decide +kernel) (ls' := #[sI i0, sI i1, sI i2, sI i3, sI i4, sI 0, sI 4, sI c0, sI c1, sI c2, sI c3, sR x, sR r0, sR lo, sR y, sI 115, sI 1]) (st' := [(.int 2), (.int 4)]) rfl rfl (pc' := 263) rfl ?_
      refine oIcF W82 (cd := .lt) (o := 27) (by decide +kernel) (XT.ii_lt_f (by decide)) (pc' := 266) rfl ?_
      refine oGo W82 [.iload 16] (by decide +kernel) (ls' := #[sI i0, sI i1, sI i2, sI i3, sI i4, sI 0, sI 4, sI c0, sI c1, sI c2, sI c3, sR x, sR r0, sR lo, sR y, sI 115, sI 1]) (st' := [(.int 1)]) rfl rfl (pc' := 268) rfl ?_
      refine oIfF W82 (cd := .eq) (o := 19) (by decide +kernel) (XT.i0_eq_f (by decide)) (pc' := 271) rfl ?_
      refine oGo W82 [.aload 14, .bipush 6] (by decide +kernel) (ls' := #[sI i0, sI i1, sI i2, sI i3, sI i4, sI 0, sI 4, sI c0, sI c1, sI c2, sI c3, sR x, sR r0, sR lo, sR y, sI 115, sI 1]) (st' := [(.int 6), (.ref y)]) rfl rfl (pc' := 275) rfl ?_
      obtain ⟨v83, T83, L83, h83, vm83, W83, ⟨rfl, e83⟩, C83, st83⟩ := oCallV W82 (idx := 50) (pc := 275) (ls := #[sI i0, sI i1, sI i2, sI i3, sI i4, sI 0, sI 4, sI c0, sI c1, sI c2, sI c3, sR x, sR r0, sR lo, sR y, sI 115, sI 1]) (st := []) (argsL := [(.int 6)]) F75.exa (c_chr K K.2.2.2.1 F75 (lb rfl) (i := 6) (by decide) (c := c1) rfl) (fun x hx => nomatch hx) (wK K 238 rfl) (wK K 79 rfl) (notFace_of_selects (args := #[]) (mvT W82.warm (wK K 81 rfl))) (wK K 81 rfl) (wK K 80 rfl) (wK K 10 rfl) (wK K 82 rfl) (by decide) (na := 1) rfl (by decide +kernel) rfl (stk := [(.int 6), (.ref y)]) rfl (by decide +kernel) (V := 0) (lb rfl) (lb rfl) (lb rfl) (lb rfl) (lb rfl)
      refine oLift st83 ?_
      rw [e83] at W83 C83
      show OG _ _ _ _ _ _ _ _ _ _ _ (mkF m 278 #[sI i0, sI i1, sI i2, sI i3, sI i4, sI 0, sI 4, sI c0, sI c1, sI c2, sI c3, sR x, sR r0, sR lo, sR y, sI 115, sI 1] [(.int c1)])
      refine oGo W83 [.iload 8] (by decide +kernel) (ls' := #[sI i0, sI i1, sI i2, sI i3, sI i4, sI 0, sI 4, sI c0, sI c1, sI c2, sI c3, sR x, sR r0, sR lo, sR y, sI 115, sI 1]) (st' := [(.int c1), (.int c1)]) rfl rfl (pc' := 280) rfl ?_
      refine oIcF W83 (cd := .ne) (o := 7) (by decide +kernel) (XT.ii_ne_f rfl) (pc' := 283) rfl ?_
      refine oGo W83 [.iconst 1, .goto 4, .istore 16, .iload 6, .iconst 3] (by decide +kernel) (ls' := #[sI i0, sI i1, sI i2, sI i3, sI i4, sI 0, sI 4, sI c0, sI c1, sI c2, sI c3, sR x, sR r0, sR lo, sR y, sI 115, sI 1]) (st' := [(.int 3), (.int 4)]) rfl rfl (pc' := 293) rfl ?_
      refine oIcF W83 (cd := .lt) (o := 27) (by decide +kernel) (XT.ii_lt_f (by decide)) (pc' := 296) rfl ?_
      refine oGo W83 [.iload 16] (by decide +kernel) (ls' := #[sI i0, sI i1, sI i2, sI i3, sI i4, sI 0, sI 4, sI c0, sI c1, sI c2, sI c3, sR x, sR r0, sR lo, sR y, sI 115, sI 1]) (st' := [(.int 1)]) rfl rfl (pc' := 298) rfl ?_
      refine oIfF W83 (cd := .eq) (o := 19) (by decide +kernel) (XT.i0_eq_f (by decide)) (pc' := 301) rfl ?_
      refine oGo W83 [.aload 14, .bipush 7] (by decide +kernel) (ls' := #[sI i0, sI i1, sI i2, sI i3, sI i4, sI 0, sI 4, sI c0, sI c1, sI c2, sI c3, sR x, sR r0, sR lo, sR y, sI 115, sI 1]) (st' := [(.int 7), (.ref y)]) rfl rfl (pc' := 305) rfl ?_
      obtain ⟨v84, T84, L84, h84, vm84, W84, ⟨rfl, e84⟩, C84, st84⟩ := oCallV W83 (idx := 50) (pc := 305) (ls := #[sI i0, sI i1, sI i2, sI i3, sI i4, sI 0, sI 4, sI c0, sI c1, sI c2, sI c3, sR x, sR r0, sR lo, sR y, sI 115, sI 1]) (st := []) (argsL := [(.int 7)]) F75.exa (c_chr K K.2.2.2.1 F75 (lb rfl) (i := 7) (by decide) (c := c2) rfl) (fun x hx => nomatch hx) (wK K 238 rfl) (wK K 79 rfl) (notFace_of_selects (args := #[]) (mvT W83.warm (wK K 81 rfl))) (wK K 81 rfl) (wK K 80 rfl) (wK K 10 rfl) (wK K 82 rfl) (by decide) (na := 1) rfl (by decide +kernel) rfl (stk := [(.int 7), (.ref y)]) rfl (by decide +kernel) (V := 0) (lb rfl) (lb rfl) (lb rfl) (lb rfl) (lb rfl)
      refine oLift st84 ?_
      rw [e84] at W84 C84
      show OG _ _ _ _ _ _ _ _ _ _ _ (mkF m 308 #[sI i0, sI i1, sI i2, sI i3, sI i4, sI 0, sI 4, sI c0, sI c1, sI c2, sI c3, sR x, sR r0, sR lo, sR y, sI 115, sI 1] [(.int c2)])
      refine oGo W84 [.iload 9] (by decide +kernel) (ls' := #[sI i0, sI i1, sI i2, sI i3, sI i4, sI 0, sI 4, sI c0, sI c1, sI c2, sI c3, sR x, sR r0, sR lo, sR y, sI 115, sI 1]) (st' := [(.int c2), (.int c2)]) rfl rfl (pc' := 310) rfl ?_
      refine oIcF W84 (cd := .ne) (o := 7) (by decide +kernel) (XT.ii_ne_f rfl) (pc' := 313) rfl ?_
      refine oGo W84 [.iconst 1, .goto 4, .istore 16, .iload 6, .iconst 4] (by decide +kernel) (ls' := #[sI i0, sI i1, sI i2, sI i3, sI i4, sI 0, sI 4, sI c0, sI c1, sI c2, sI c3, sR x, sR r0, sR lo, sR y, sI 115, sI 1]) (st' := [(.int 4), (.int 4)]) rfl rfl (pc' := 323) rfl ?_
      refine oIcF W84 (cd := .lt) (o := 27) (by decide +kernel) (XT.ii_lt_f (by decide)) (pc' := 326) rfl ?_
      refine oGo W84 [.iload 16] (by decide +kernel) (ls' := #[sI i0, sI i1, sI i2, sI i3, sI i4, sI 0, sI 4, sI c0, sI c1, sI c2, sI c3, sR x, sR r0, sR lo, sR y, sI 115, sI 1]) (st' := [(.int 1)]) rfl rfl (pc' := 328) rfl ?_
      refine oIfF W84 (cd := .eq) (o := 19) (by decide +kernel) (XT.i0_eq_f (by decide)) (pc' := 331) rfl ?_
      refine oGo W84 [.aload 14, .bipush 8] (by decide +kernel) (ls' := #[sI i0, sI i1, sI i2, sI i3, sI i4, sI 0, sI 4, sI c0, sI c1, sI c2, sI c3, sR x, sR r0, sR lo, sR y, sI 115, sI 1]) (st' := [(.int 8), (.ref y)]) rfl rfl (pc' := 335) rfl ?_
      obtain ⟨v85, T85, L85, h85, vm85, W85, ⟨rfl, e85⟩, C85, st85⟩ := oCallV W84 (idx := 50) (pc := 335) (ls := #[sI i0, sI i1, sI i2, sI i3, sI i4, sI 0, sI 4, sI c0, sI c1, sI c2, sI c3, sR x, sR r0, sR lo, sR y, sI 115, sI 1]) (st := []) (argsL := [(.int 8)]) F75.exa (c_chr K K.2.2.2.1 F75 (lb rfl) (i := 8) (by decide) (c := c3) rfl) (fun x hx => nomatch hx) (wK K 238 rfl) (wK K 79 rfl) (notFace_of_selects (args := #[]) (mvT W84.warm (wK K 81 rfl))) (wK K 81 rfl) (wK K 80 rfl) (wK K 10 rfl) (wK K 82 rfl) (by decide) (na := 1) rfl (by decide +kernel) rfl (stk := [(.int 8), (.ref y)]) rfl (by decide +kernel) (V := 0) (lb rfl) (lb rfl) (lb rfl) (lb rfl) (lb rfl)
      refine oLift st85 ?_
      rw [e85] at W85 C85
      show OG _ _ _ _ _ _ _ _ _ _ _ (mkF m 338 #[sI i0, sI i1, sI i2, sI i3, sI i4, sI 0, sI 4, sI c0, sI c1, sI c2, sI c3, sR x, sR r0, sR lo, sR y, sI 115, sI 1] [(.int c3)])
      refine oGo W85 [.iload 10] (by decide +kernel) (ls' := #[sI i0, sI i1, sI i2, sI i3, sI i4, sI 0, sI 4, sI c0, sI c1, sI c2, sI c3, sR x, sR r0, sR lo, sR y, sI 115, sI 1]) (st' := [(.int c3), (.int c3)]) rfl rfl (pc' := 340) rfl ?_
      refine oIcF W85 (cd := .ne) (o := 7) (by decide +kernel) (XT.ii_ne_f rfl) (pc' := 343) rfl ?_
      refine oGo W85 [.iconst 1, .goto 4, .istore 16, .iload 16] (by decide +kernel) (ls' := #[sI i0, sI i1, sI i2, sI i3, sI i4, sI 0, sI 4, sI c0, sI c1, sI c2, sI c3, sR x, sR r0, sR lo, sR y, sI 115, sI 1]) (st' := [(.int 1)]) rfl rfl (pc' := 352) rfl ?_
      exact oRetN (by simp) W85 rfl (by decide +kernel) (lb rfl) (lb rfl) (fun vm' hv => rfl)
  · refine oIfF W0 (cd := .eq) (o := 7) (by decide +kernel) (XT.i0_eq_f hc1) (pc' := 6) rfl ?_
    refine oGo W0 [.iconst 1, .goto 4, .istore 5, .iconst 1, .iload_n 0, .iconst 1, .iushr, .iconst 3, .iand, .iadd, .istore 6, .iload_n 1] (by decide +kernel) (ls' := #[sI i0, sI i1, sI i2, sI i3, sI i4, sI 1, sI ((1 : Int32) + ((XT.ushr i0 (1 : Int32)) &&& (3 : Int32))), sU, sU, sU, sU, sU, sU, sU, sU, sU, sU]) (st' := [(.int i1)]) rfl rfl (pc' := 23) rfl ?_
    obtain ⟨v86, T86, L86, h86, vm86, W86, ⟨⟨c0, rfl, qa0⟩, e86⟩, C86, st86⟩ := oCallS W0 (idx := 13) (pc := 23) (ls := #[sI i0, sI i1, sI i2, sI i3, sI i4, sI 1, sI ((1 : Int32) + ((XT.ushr i0 (1 : Int32)) &&& (3 : Int32))), sU, sU, sU, sU, sU, sU, sU, sU, sU, sU]) (st := []) (argsL := [(.int i1)]) (c_all K) (fun x hx => nomatch hx) (wK K 0 rfl) (wK K 1 rfl) (wK K 2 rfl) (wK K 3 rfl) (by decide) (na := 1) rfl (by decide +kernel) rfl (stk := [(.int i1)]) rfl (by decide +kernel) (V := 0) (lb rfl) (lb rfl) (lb rfl) (lb rfl) (lb rfl)
    refine oLift st86 ?_
    rw [e86] at W86 C86
    show OG _ _ _ _ _ _ _ _ _ _ _ (mkF m 26 #[sI i0, sI i1, sI i2, sI i3, sI i4, sI 1, sI ((1 : Int32) + ((XT.ushr i0 (1 : Int32)) &&& (3 : Int32))), sU, sU, sU, sU, sU, sU, sU, sU, sU, sU] [(.int c0)])
    refine oGo W86 [.istore 7, .iload_n 2] (by decide +kernel) (ls' := #[sI i0, sI i1, sI i2, sI i3, sI i4, sI 1, sI ((1 : Int32) + ((XT.ushr i0 (1 : Int32)) &&& (3 : Int32))), sI c0, sU, sU, sU, sU, sU, sU, sU, sU, sU]) (st' := [(.int i2)]) rfl rfl (pc' := 29) rfl ?_
    obtain ⟨v87, T87, L87, h87, vm87, W87, ⟨⟨c1, rfl, qa1⟩, e87⟩, C87, st87⟩ := oCallS W86 (idx := 13) (pc := 29) (ls := #[sI i0, sI i1, sI i2, sI i3, sI i4, sI 1, sI ((1 : Int32) + ((XT.ushr i0 (1 : Int32)) &&& (3 : Int32))), sI c0, sU, sU, sU, sU, sU, sU, sU, sU, sU]) (st := []) (argsL := [(.int i2)]) (c_all K) (fun x hx => nomatch hx) (wK K 0 rfl) (wK K 1 rfl) (wK K 2 rfl) (wK K 3 rfl) (by decide) (na := 1) rfl (by decide +kernel) rfl (stk := [(.int i2)]) rfl (by decide +kernel) (V := 0) (lb rfl) (lb rfl) (lb rfl) (lb rfl) (lb rfl)
    refine oLift st87 ?_
    rw [e87] at W87 C87
    show OG _ _ _ _ _ _ _ _ _ _ _ (mkF m 32 #[sI i0, sI i1, sI i2, sI i3, sI i4, sI 1, sI ((1 : Int32) + ((XT.ushr i0 (1 : Int32)) &&& (3 : Int32))), sI c0, sU, sU, sU, sU, sU, sU, sU, sU, sU] [(.int c1)])
    refine oGo W87 [.istore 8, .iload_n 3] (by decide +kernel) (ls' := #[sI i0, sI i1, sI i2, sI i3, sI i4, sI 1, sI ((1 : Int32) + ((XT.ushr i0 (1 : Int32)) &&& (3 : Int32))), sI c0, sI c1, sU, sU, sU, sU, sU, sU, sU, sU]) (st' := [(.int i3)]) rfl rfl (pc' := 35) rfl ?_
    obtain ⟨v88, T88, L88, h88, vm88, W88, ⟨⟨c2, rfl, qa2⟩, e88⟩, C88, st88⟩ := oCallS W87 (idx := 13) (pc := 35) (ls := #[sI i0, sI i1, sI i2, sI i3, sI i4, sI 1, sI ((1 : Int32) + ((XT.ushr i0 (1 : Int32)) &&& (3 : Int32))), sI c0, sI c1, sU, sU, sU, sU, sU, sU, sU, sU]) (st := []) (argsL := [(.int i3)]) (c_all K) (fun x hx => nomatch hx) (wK K 0 rfl) (wK K 1 rfl) (wK K 2 rfl) (wK K 3 rfl) (by decide) (na := 1) rfl (by decide +kernel) rfl (stk := [(.int i3)]) rfl (by decide +kernel) (V := 0) (lb rfl) (lb rfl) (lb rfl) (lb rfl) (lb rfl)
    refine oLift st88 ?_
    rw [e88] at W88 C88
    show OG _ _ _ _ _ _ _ _ _ _ _ (mkF m 38 #[sI i0, sI i1, sI i2, sI i3, sI i4, sI 1, sI ((1 : Int32) + ((XT.ushr i0 (1 : Int32)) &&& (3 : Int32))), sI c0, sI c1, sU, sU, sU, sU, sU, sU, sU, sU] [(.int c2)])
    refine oGo W88 [.istore 9, .iload 4] (by decide +kernel) (ls' := #[sI i0, sI i1, sI i2, sI i3, sI i4, sI 1, sI ((1 : Int32) + ((XT.ushr i0 (1 : Int32)) &&& (3 : Int32))), sI c0, sI c1, sI c2, sU, sU, sU, sU, sU, sU, sU]) (st' := [(.int i4)]) rfl rfl (pc' := 42) rfl ?_
    obtain ⟨v89, T89, L89, h89, vm89, W89, ⟨⟨c3, rfl, qa3⟩, e89⟩, C89, st89⟩ := oCallS W88 (idx := 13) (pc := 42) (ls := #[sI i0, sI i1, sI i2, sI i3, sI i4, sI 1, sI ((1 : Int32) + ((XT.ushr i0 (1 : Int32)) &&& (3 : Int32))), sI c0, sI c1, sI c2, sU, sU, sU, sU, sU, sU, sU]) (st := []) (argsL := [(.int i4)]) (c_all K) (fun x hx => nomatch hx) (wK K 0 rfl) (wK K 1 rfl) (wK K 2 rfl) (wK K 3 rfl) (by decide) (na := 1) rfl (by decide +kernel) rfl (stk := [(.int i4)]) rfl (by decide +kernel) (V := 0) (lb rfl) (lb rfl) (lb rfl) (lb rfl) (lb rfl)
    refine oLift st89 ?_
    rw [e89] at W89 C89
    show OG _ _ _ _ _ _ _ _ _ _ _ (mkF m 45 #[sI i0, sI i1, sI i2, sI i3, sI i4, sI 1, sI ((1 : Int32) + ((XT.ushr i0 (1 : Int32)) &&& (3 : Int32))), sI c0, sI c1, sI c2, sU, sU, sU, sU, sU, sU, sU] [(.int c3)])
    refine oGo W89 [.istore 10] (by decide +kernel) (ls' := #[sI i0, sI i1, sI i2, sI i3, sI i4, sI 1, sI ((1 : Int32) + ((XT.ushr i0 (1 : Int32)) &&& (3 : Int32))), sI c0, sI c1, sI c2, sI c3, sU, sU, sU, sU, sU, sU]) (st' := []) rfl rfl (pc' := 47) rfl ?_
    rcases len4 i0 with hL | hL | hL | hL
    · rw [hL]
      refine oGo W89 [.iload 6, .iconst 1] (by decide +kernel) (ls' := #[sI i0, sI i1, sI i2, sI i3, sI i4, sI 1, sI 1, sI c0, sI c1, sI c2, sI c3, sU, sU, sU, sU, sU, sU]) (st' := [(.int 1), (.int 1)]) rfl rfl (pc' := 50) rfl ?_
      refine oIcF W89 (cd := .ne) (o := 12) (by decide +kernel) (XT.ii_ne_f (by decide)) (pc' := 53) rfl ?_
      refine oGo W89 [.iload 7, .bipush 46] (by decide +kernel) (ls' := #[sI i0, sI i1, sI i2, sI i3, sI i4, sI 1, sI 1, sI c0, sI c1, sI c2, sI c3, sU, sU, sU, sU, sU, sU]) (st' := [(.int 46), (.int c0)]) rfl rfl (pc' := 57) rfl ?_
      by_cases hc90 : c0 = (46 : Int32)
      · refine oIcF W89 (cd := .ne) (o := 5) (by decide +kernel) (XT.ii_ne_f hc90) (pc' := 60) rfl ?_
        refine oGo W89 [.iconst 1] (by decide +kernel) (ls' := #[sI i0, sI i1, sI i2, sI i3, sI i4, sI 1, sI 1, sI c0, sI c1, sI c2, sI c3, sU, sU, sU, sU, sU, sU]) (st' := [(.int 1)]) rfl rfl (pc' := 61) rfl ?_
        exact oRetN (by simp) W89 rfl (by decide +kernel) (lb rfl) (lb rfl) (fun vm' hv => rfl)
      refine oIcT W89 (cd := .ne) (o := 5) (by decide +kernel) (XT.ii_ne_t hc90) (pc' := 62) (by decide) (by decide) ?_
      refine oGo W89 [.iload 6, .iconst 2] (by decide +kernel) (ls' := #[sI i0, sI i1, sI i2, sI i3, sI i4, sI 1, sI 1, sI c0, sI c1, sI c2, sI c3, sU, sU, sU, sU, sU, sU]) (st' := [(.int 2), (.int 1)]) rfl rfl (pc' := 65) rfl ?_
      refine oIcT W89 (cd := .ne) (o := 19) (by decide +kernel) (XT.ii_ne_t (by decide)) (pc' := 84) (by decide) (by decide) ?_
      refine oGo W89 [.iload 6, .iload 7, .iload 8, .iload 9, .iload 10] (by decide +kernel) (ls' := #[sI i0, sI i1, sI i2, sI i3, sI i4, sI 1, sI 1, sI c0, sI c1, sI c2, sI c3, sU, sU, sU, sU, sU, sU]) (st' := [(.int c3), (.int c2), (.int c1), (.int c0), (.int 1)]) rfl rfl (pc' := 94) rfl ?_
      obtain ⟨v91, T91, L91, h91, vm91, W91, ⟨x, rfl, F91, E91⟩, C91, st91⟩ := oCallS W89 (idx := 19) (pc := 94) (ls := #[sI i0, sI i1, sI i2, sI i3, sI i4, sI 1, sI 1, sI c0, sI c1, sI c2, sI c3, sU, sU, sU, sU, sU, sU]) (st := []) (argsL := [(.int 1), (.int c0), (.int c1), (.int c2), (.int c3)]) (c_dr1 K (c0 := c0) (c1 := c1) (c2 := c2) (c3 := c3) qa0 qa1 qa2 qa3) (fun x hx => nomatch hx) (wK K 5 rfl) (wK K 6 rfl) (wK K 2 rfl) (wK K 7 rfl) (by decide) (na := 5) rfl (by decide +kernel) rfl (stk := [(.int c3), (.int c2), (.int c1), (.int c0), (.int 1)]) rfl (by decide +kernel) (V := 0) (lb rfl) (lb rfl) (lb rfl) (lb rfl) (lb rfl)
      refine oLift st91 ?_
      show OG _ _ _ _ _ _ _ _ _ _ _ (mkF m 97 #[sI i0, sI i1, sI i2, sI i3, sI i4, sI 1, sI 1, sI c0, sI c1, sI c2, sI c3, sU, sU, sU, sU, sU, sU] [(.ref x)])
      refine oGo W91 [.astore 11, .iload 5] (by decide +kernel) (ls' := #[sI i0, sI i1, sI i2, sI i3, sI i4, sI 1, sI 1, sI c0, sI c1, sI c2, sI c3, sR x, sU, sU, sU, sU, sU]) (st' := [(.int 1)]) rfl rfl (pc' := 101) rfl ?_
      refine oIfF W91 (cd := .eq) (o := 9) (by decide +kernel) (XT.i0_eq_f (by decide)) (pc' := 104) rfl ?_
      obtain ⟨T92, W92, st92⟩ := oGetS W91 (pc := 104) (ls := #[sI i0, sI i1, sI i2, sI i3, sI i4, sI 1, sI 1, sI c0, sI c1, sI c2, sI c3, sR x, sU, sU, sU, sU, sU]) (st := []) (wK K 239 rfl) Via.refl (Sr1.ext W91.ext) (by decide +kernel)
      refine oLift st92 ?_
      refine oGo W92 [.goto 6, .astore 12] (by decide +kernel) (ls' := #[sI i0, sI i1, sI i2, sI i3, sI i4, sI 1, sI 1, sI c0, sI c1, sI c2, sI c3, sR x, sR r1, sU, sU, sU, sU]) (st' := []) rfl rfl (pc' := 115) rfl ?_
      obtain ⟨T93, h93, lo, W93, g93, E93, A93, D93, S93, C93, st93⟩ := oNew W92 (pc := 115) (ls := #[sI i0, sI i1, sI i2, sI i3, sI i4, sI 1, sI 1, sI c0, sI c1, sI c2, sI c3, sR x, sR r1, sU, sU, sU, sU]) (st := []) (wK K 41 rfl) (wK K 42 rfl) (wK K 43 rfl) (by decide +kernel) (lb rfl) (lb rfl)
      refine oLift st93 ?_
      refine oGo W93 [.dup, .aload 12] (by decide +kernel) (ls' := #[sI i0, sI i1, sI i2, sI i3, sI i4, sI 1, sI 1, sI c0, sI c1, sI c2, sI c3, sR x, sR r1, sU, sU, sU, sU]) (st' := [(.ref r1), (.ref lo), (.ref lo)]) rfl rfl (pc' := 121) rfl ?_
      obtain ⟨T94, h94, nm, W94, g94, E94, A94, D94, S94, C94, st94⟩ := oNew W93 (pc := 121) (ls := #[sI i0, sI i1, sI i2, sI i3, sI i4, sI 1, sI 1, sI c0, sI c1, sI c2, sI c3, sR x, sR r1, sU, sU, sU, sU]) (st := [(.ref r1), (.ref lo), (.ref lo)]) (wK K 44 rfl) (wK K 45 rfl) (wK K 46 rfl) (by decide +kernel) (lb rfl) (lb rfl)
      refine oLift st94 ?_
      refine oGo W94 [.dup, .aload 11] (by decide +kernel) (ls' := #[sI i0, sI i1, sI i2, sI i3, sI i4, sI 1, sI 1, sI c0, sI c1, sI c2, sI c3, sR x, sR r1, sU, sU, sU, sU]) (st' := [(.ref x), (.ref nm), (.ref nm), (.ref r1), (.ref lo), (.ref lo)]) rfl rfl (pc' := 127) rfl ?_
      have hnl : nm ≠ lo := Nat.ne_of_gt (Nat.lt_of_lt_of_le A93.lt g94)
      obtain ⟨v95, T95, L95, h95, vm95, W95, ⟨rfl, K95, X95, F95⟩, C95, st95⟩ := oCallN W94 (idx := 36) (pc := 127) (ls := #[sI i0, sI i1, sI i2, sI i3, sI i4, sI 1, sI 1, sI c0, sI c1, sI c2, sI c3, sR x, sR r1, sU, sU, sU, sU]) (st := [(.ref nm), (.ref r1), (.ref lo), (.ref lo)]) (a := nm) (argsL := [(.ref x)]) (c_cn1 K ((F91.ext E93).ext E94) qa0 hc90 (Nat.le_trans W93.ext.1 g94) A94 (D94 (Or.inr (wK K 115 rfl)) (ty := (.object "java/lang/String")) (by decide))) (fun x hx => nomatch hx) rfl (wK K 47 rfl) (wK K 48 rfl) (wK K 46 rfl) (wK K 49 rfl) (by decide) (na := 1) rfl (by decide +kernel) rfl (stk := [(.ref x), (.ref nm), (.ref nm), (.ref r1), (.ref lo), (.ref lo)]) rfl (by decide +kernel) (V := 4) (lb rfl) (lb rfl) (lb rfl) (lb rfl) (lb rfl)
      refine oLift st95 ?_
      show OG _ _ _ _ _ _ _ _ _ _ _ (mkF m 130 #[sI i0, sI i1, sI i2, sI i3, sI i4, sI 1, sI 1, sI c0, sI c1, sI c2, sI c3, sR x, sR r1, sU, sU, sU, sU] [(.ref nm), (.ref r1), (.ref lo), (.ref lo)])
      obtain ⟨v96, T96, L96, h96, vm96, W96, ⟨rfl, K96, X96, F96, G96⟩, C96, st96⟩ := oCallN W95 (idx := 39) (pc := 130) (ls := #[sI i0, sI i1, sI i2, sI i3, sI i4, sI 1, sI 1, sI c0, sI c1, sI c2, sI c3, sR x, sR r1, sU, sU, sU, sU]) (st := [(.ref lo)]) (a := lo) (argsL := [(.ref r1), (.ref nm)]) (c_cli K (Nat.le_trans W91.ext.1 g93) (A93.ext (exK E94 K95 (fun y hy => by cases List.mem_singleton.mp hy; exact g94))) ((D93 (Or.inr (wK K 121 rfl)) (ty := (.object "com/example/gentle_hub/gentlehub/server/ChannelLocation$Role")) (by decide)).ext (exK E94 K95 (fun y hy => by cases List.mem_singleton.mp hy; exact g94))) ((D93 (Or.inr (wK K 123 rfl)) (ty := (.object "com/example/gentle_hub/gentlehub/core/ChannelName")) (by decide)).ext (exK E94 K95 (fun y hy => by cases List.mem_singleton.mp hy; exact g94)))) (fun x hx => nomatch hx) rfl (wK K 116 rfl) (wK K 117 rfl) (wK K 43 rfl) (wK K 118 rfl) (by decide) (na := 2) rfl (by decide +kernel) rfl (stk := [(.ref nm), (.ref r1), (.ref lo), (.ref lo)]) rfl (by decide +kernel) (V := 1) (lb rfl) (lb rfl) (lb rfl) (lb rfl) (lb rfl)
      refine oLift st96 ?_
      show OG _ _ _ _ _ _ _ _ _ _ _ (mkF m 133 #[sI i0, sI i1, sI i2, sI i3, sI i4, sI 1, sI 1, sI c0, sI c1, sI c2, sI c3, sR x, sR r1, sU, sU, sU, sU] [(.ref lo)])
      refine oGo W96 [.astore 13, .aload 13] (by decide +kernel) (ls' := #[sI i0, sI i1, sI i2, sI i3, sI i4, sI 1, sI 1, sI c0, sI c1, sI c2, sI c3, sR x, sR r1, sR lo, sU, sU, sU]) (st' := [(.ref lo)]) rfl rfl (pc' := 137) rfl ?_
      obtain ⟨v97, T97, L97, h97, vm97, W97, ⟨y, rfl, F97, E97⟩, C97, st97⟩ := oCallV W96 (idx := 42) (pc := 137) (ls := #[sI i0, sI i1, sI i2, sI i3, sI i4, sI 1, sI 1, sI c0, sI c1, sI c2, sI c3, sR x, sR r1, sR lo, sU, sU, sU]) (st := []) (argsL := []) X96 (c_path K F96 G96 (Fr1.ext W96.ext) (Tr1.ext W96.ext) (X95.keep K96) (F95.keep K96 (ninS hnl nin0)) (F91.ext (exK (exT E93 (exK E94 K95 (fun y hy => by cases List.mem_singleton.mp hy; exact g94))) K96 (fun y hy => by cases List.mem_singleton.mp hy; exact g93))) (lb rfl)) (fun x hx => nomatch hx) (wK K 124 rfl) (wK K 125 rfl) (notFace_of_selects (args := #[]) (mvT W96.warm (wK K 127 rfl))) (wK K 127 rfl) (wK K 126 rfl) (wK K 43 rfl) (wK K 128 rfl) (by decide) (na := 0) rfl (by decide +kernel) rfl (stk := [(.ref lo)]) rfl (by decide +kernel) (V := 0) (lb rfl) (lb rfl) (lb rfl) (lb rfl) (lb rfl)
      refine oLift st97 ?_
      show OG _ _ _ _ _ _ _ _ _ _ _ (mkF m 140 #[sI i0, sI i1, sI i2, sI i3, sI i4, sI 1, sI 1, sI c0, sI c1, sI c2, sI c3, sR x, sR r1, sR lo, sU, sU, sU] [(.ref y)])
      refine oGo W97 [.astore 14, .aload 14] (by decide +kernel) (ls' := #[sI i0, sI i1, sI i2, sI i3, sI i4, sI 1, sI 1, sI c0, sI c1, sI c2, sI c3, sR x, sR r1, sR lo, sR y, sU, sU]) (st' := [(.ref y)]) rfl rfl (pc' := 144) rfl ?_
      refine oNuF W97 (o := 15) (by decide +kernel) (pc' := 147) rfl ?_
      refine oGo W97 [.aload 14] (by decide +kernel) (ls' := #[sI i0, sI i1, sI i2, sI i3, sI i4, sI 1, sI 1, sI c0, sI c1, sI c2, sI c3, sR x, sR r1, sR lo, sR y, sU, sU]) (st' := [(.ref y)]) rfl rfl (pc' := 149) rfl ?_
      obtain ⟨v98, T98, L98, h98, vm98, W98, ⟨rfl, e98⟩, C98, st98⟩ := oCallV W97 (idx := 46) (pc := 149) (ls := #[sI i0, sI i1, sI i2, sI i3, sI i4, sI 1, sI 1, sI c0, sI c1, sI c2, sI c3, sR x, sR r1, sR lo, sR y, sU, sU]) (st := []) (argsL := []) F97.exa (c_len K F97) (fun x hx => nomatch hx) (wK K 237 rfl) (wK K 69 rfl) (notFace_of_selects (args := #[]) (mvT W97.warm (wK K 71 rfl))) (wK K 71 rfl) (wK K 70 rfl) (wK K 10 rfl) (wK K 72 rfl) (by decide) (na := 0) rfl (by decide +kernel) rfl (stk := [(.ref y)]) rfl (by decide +kernel) (V := 0) (lb rfl) (lb rfl) (lb rfl) (lb rfl) (lb rfl)
      refine oLift st98 ?_
      rw [e98] at W98 C98
      show OG _ _ _ _ _ _ _ _ _ _ _ (mkF m 152 #[sI i0, sI i1, sI i2, sI i3, sI i4, sI 1, sI 1, sI c0, sI c1, sI c2, sI c3, sR x, sR r1, sR lo, sR y, sU, sU] [(.int 6)])
      refine oGo W98 [.iconst 5, .iload 6, .iadd] (by decide +kernel) (ls' := #[sI i0, sI i1, sI i2, sI i3, sI i4, sI 1, sI 1, sI c0, sI c1, sI c2, sI c3, sR x, sR r1, sR lo, sR y, sU, sU]) (st' := [(.int ((5 : Int32) + (1 : Int32))), (.int 6)]) rfl rfl (pc' := 156) rfl ?_
      refine oIcT W98 (cd := .eq) (o := 5) (by decide +kernel) (XT.ii_eq_t (by decide)) (pc' := 161) (by decide) (by decide) ?_
      refine oGo W98 [.iload 5] (by decide +kernel) (ls' := #[sI i0, sI i1, sI i2, sI i3, sI i4, sI 1, sI 1, sI c0, sI c1, sI c2, sI c3, sR x, sR r1, sR lo, sR y, sU, sU]) (st' := [(.int 1)]) rfl rfl (pc' := 163) rfl ?_
      refine oIfF W98 (cd := .eq) (o := 8) (by decide +kernel) (XT.i0_eq_f (by decide)) (pc' := 166) rfl ?_
      refine oGo W98 [.bipush 112, .goto 5, .istore 15, .aload 14, .iconst 0] (by decide +kernel) (ls' := #[sI i0, sI i1, sI i2, sI i3, sI i4, sI 1, sI 1, sI c0, sI c1, sI c2, sI c3, sR x, sR r1, sR lo, sR y, sI 112, sU]) (st' := [(.int 0), (.ref y)]) rfl rfl (pc' := 178) rfl ?_
      obtain ⟨v99, T99, L99, h99, vm99, W99, ⟨rfl, e99⟩, C99, st99⟩ := oCallV W98 (idx := 50) (pc := 178) (ls := #[sI i0, sI i1, sI i2, sI i3, sI i4, sI 1, sI 1, sI c0, sI c1, sI c2, sI c3, sR x, sR r1, sR lo, sR y, sI 112, sU]) (st := []) (argsL := [(.int 0)]) F97.exa (c_chr K K.2.2.2.1 F97 (lb rfl) (i := 0) (by decide) (c := (47 : Int32)) rfl) (fun x hx => nomatch hx) (wK K 238 rfl) (wK K 79 rfl) (notFace_of_selects (args := #[]) (mvT W98.warm (wK K 81 rfl))) (wK K 81 rfl) (wK K 80 rfl) (wK K 10 rfl) (wK K 82 rfl) (by decide) (na := 1) rfl (by decide +kernel) rfl (stk := [(.int 0), (.ref y)]) rfl (by decide +kernel) (V := 0) (lb rfl) (lb rfl) (lb rfl) (lb rfl) (lb rfl)
      refine oLift st99 ?_
      rw [e99] at W99 C99
      show OG _ _ _ _ _ _ _ _ _ _ _ (mkF m 181 #[sI i0, sI i1, sI i2, sI i3, sI i4, sI 1, sI 1, sI c0, sI c1, sI c2, sI c3, sR x, sR r1, sR lo, sR y, sI 112, sU] [(.int 47)])
      refine oGo W99 [.bipush 47] (by decide +kernel) (ls' := #[sI i0, sI i1, sI i2, sI i3, sI i4, sI 1, sI 1, sI c0, sI c1, sI c2, sI c3, sR x, sR r1, sR lo, sR y, sI 112, sU]) (st' := [(.int 47), (.int 47)]) rfl rfl (pc' := 183) rfl ?_
      refine oIcF W99 (cd := .ne) (o := 51) (by decide +kernel) (XT.ii_ne_f rfl) (pc' := 186) rfl ?_
      refine oGo W99 [.aload 14, .iconst 1] (by decide +kernel) (ls' := #[sI i0, sI i1, sI i2, sI i3, sI i4, sI 1, sI 1, sI c0, sI c1, sI c2, sI c3, sR x, sR r1, sR lo, sR y, sI 112, sU]) (st' := [(.int 1), (.ref y)]) rfl rfl (pc' := 189) rfl ?_
      obtain ⟨v100, T100, L100, h100, vm100, W100, ⟨rfl, e100⟩, C100, st100⟩ := oCallV W99 (idx := 50) (pc := 189) (ls := #[sI i0, sI i1, sI i2, sI i3, sI i4, sI 1, sI 1, sI c0, sI c1, sI c2, sI c3, sR x, sR r1, sR lo, sR y, sI 112, sU]) (st := []) (argsL := [(.int 1)]) F97.exa (c_chr K K.2.2.2.1 F97 (lb rfl) (i := 1) (by decide) (c := (112 : Int32)) rfl) (fun x hx => nomatch hx) (wK K 238 rfl) (wK K 79 rfl) (notFace_of_selects (args := #[]) (mvT W99.warm (wK K 81 rfl))) (wK K 81 rfl) (wK K 80 rfl) (wK K 10 rfl) (wK K 82 rfl) (by decide) (na := 1) rfl (by decide +kernel) rfl (stk := [(.int 1), (.ref y)]) rfl (by decide +kernel) (V := 0) (lb rfl) (lb rfl) (lb rfl) (lb rfl) (lb rfl)
      refine oLift st100 ?_
      rw [e100] at W100 C100
      show OG _ _ _ _ _ _ _ _ _ _ _ (mkF m 192 #[sI i0, sI i1, sI i2, sI i3, sI i4, sI 1, sI 1, sI c0, sI c1, sI c2, sI c3, sR x, sR r1, sR lo, sR y, sI 112, sU] [(.int 112)])
      refine oGo W100 [.iload 15] (by decide +kernel) (ls' := #[sI i0, sI i1, sI i2, sI i3, sI i4, sI 1, sI 1, sI c0, sI c1, sI c2, sI c3, sR x, sR r1, sR lo, sR y, sI 112, sU]) (st' := [(.int 112), (.int 112)]) rfl rfl (pc' := 194) rfl ?_
      refine oIcF W100 (cd := .ne) (o := 40) (by decide +kernel) (XT.ii_ne_f rfl) (pc' := 197) rfl ?_
      refine oGo W100 [.aload 14, .iconst 2] (by decide +kernel) (ls' := #[sI i0, sI i1, sI i2, sI i3, sI i4, sI 1, sI 1, sI c0, sI c1, sI c2, sI c3, sR x, sR r1, sR lo, sR y, sI 112, sU]) (st' := [(.int 2), (.ref y)]) rfl rfl (pc' := 200) rfl ?_
      obtain ⟨v101, T101, L101, h101, vm101, W101, ⟨rfl, e101⟩, C101, st101⟩ := oCallV W100 (idx := 50) (pc := 200) (ls := #[sI i0, sI i1, sI i2, sI i3, sI i4, sI 1, sI 1, sI c0, sI c1, sI c2, sI c3, sR x, sR r1, sR lo, sR y, sI 112, sU]) (st := []) (argsL := [(.int 2)]) F97.exa (c_chr K K.2.2.2.1 F97 (lb rfl) (i := 2) (by decide) (c := (117 : Int32)) rfl) (fun x hx => nomatch hx) (wK K 238 rfl) (wK K 79 rfl) (notFace_of_selects (args := #[]) (mvT W100.warm (wK K 81 rfl))) (wK K 81 rfl) (wK K 80 rfl) (wK K 10 rfl) (wK K 82 rfl) (by decide) (na := 1) rfl (by decide +kernel) rfl (stk := [(.int 2), (.ref y)]) rfl (by decide +kernel) (V := 0) (lb rfl) (lb rfl) (lb rfl) (lb rfl) (lb rfl)
      refine oLift st101 ?_
      rw [e101] at W101 C101
      show OG _ _ _ _ _ _ _ _ _ _ _ (mkF m 203 #[sI i0, sI i1, sI i2, sI i3, sI i4, sI 1, sI 1, sI c0, sI c1, sI c2, sI c3, sR x, sR r1, sR lo, sR y, sI 112, sU] [(.int 117)])
      refine oGo W101 [.bipush 117] (by decide +kernel) (ls' := #[sI i0, sI i1, sI i2, sI i3, sI i4, sI 1, sI 1, sI c0, sI c1, sI c2, sI c3, sR x, sR r1, sR lo, sR y, sI 112, sU]) (st' := [(.int 117), (.int 117)]) rfl rfl (pc' := 205) rfl ?_
      refine oIcF W101 (cd := .ne) (o := 29) (by decide +kernel) (XT.ii_ne_f rfl) (pc' := 208) rfl ?_
      refine oGo W101 [.aload 14, .iconst 3] (by decide +kernel) (ls' := #[sI i0, sI i1, sI i2, sI i3, sI i4, sI 1, sI 1, sI c0, sI c1, sI c2, sI c3, sR x, sR r1, sR lo, sR y, sI 112, sU]) (st' := [(.int 3), (.ref y)]) rfl rfl (pc' := 211) rfl ?_
      obtain ⟨v102, T102, L102, h102, vm102, W102, ⟨rfl, e102⟩, C102, st102⟩ := oCallV W101 (idx := 50) (pc := 211) (ls := #[sI i0, sI i1, sI i2, sI i3, sI i4, sI 1, sI 1, sI c0, sI c1, sI c2, sI c3, sR x, sR r1, sR lo, sR y, sI 112, sU]) (st := []) (argsL := [(.int 3)]) F97.exa (c_chr K K.2.2.2.1 F97 (lb rfl) (i := 3) (by decide) (c := (98 : Int32)) rfl) (fun x hx => nomatch hx) (wK K 238 rfl) (wK K 79 rfl) (notFace_of_selects (args := #[]) (mvT W101.warm (wK K 81 rfl))) (wK K 81 rfl) (wK K 80 rfl) (wK K 10 rfl) (wK K 82 rfl) (by decide) (na := 1) rfl (by decide +kernel) rfl (stk := [(.int 3), (.ref y)]) rfl (by decide +kernel) (V := 0) (lb rfl) (lb rfl) (lb rfl) (lb rfl) (lb rfl)
      refine oLift st102 ?_
      rw [e102] at W102 C102
      show OG _ _ _ _ _ _ _ _ _ _ _ (mkF m 214 #[sI i0, sI i1, sI i2, sI i3, sI i4, sI 1, sI 1, sI c0, sI c1, sI c2, sI c3, sR x, sR r1, sR lo, sR y, sI 112, sU] [(.int 98)])
      refine oGo W102 [.bipush 98] (by decide +kernel) (ls' := #[sI i0, sI i1, sI i2, sI i3, sI i4, sI 1, sI 1, sI c0, sI c1, sI c2, sI c3, sR x, sR r1, sR lo, sR y, sI 112, sU]) (st' := [(.int 98), (.int 98)]) rfl rfl (pc' := 216) rfl ?_
      refine oIcF W102 (cd := .ne) (o := 18) (by decide +kernel) (XT.ii_ne_f rfl) (pc' := 219) rfl ?_
      refine oGo W102 [.aload 14, .iconst 4] (by decide +kernel) (ls' := #[sI i0, sI i1, sI i2, sI i3, sI i4, sI 1, sI 1, sI c0, sI c1, sI c2, sI c3, sR x, sR r1, sR lo, sR y, sI 112, sU]) (st' := [(.int 4), (.ref y)]) rfl rfl (pc' := 222) rfl ?_
      obtain ⟨v103, T103, L103, h103, vm103, W103, ⟨rfl, e103⟩, C103, st103⟩ := oCallV W102 (idx := 50) (pc := 222) (ls := #[sI i0, sI i1, sI i2, sI i3, sI i4, sI 1, sI 1, sI c0, sI c1, sI c2, sI c3, sR x, sR r1, sR lo, sR y, sI 112, sU]) (st := []) (argsL := [(.int 4)]) F97.exa (c_chr K K.2.2.2.1 F97 (lb rfl) (i := 4) (by decide) (c := (47 : Int32)) rfl) (fun x hx => nomatch hx) (wK K 238 rfl) (wK K 79 rfl) (notFace_of_selects (args := #[]) (mvT W102.warm (wK K 81 rfl))) (wK K 81 rfl) (wK K 80 rfl) (wK K 10 rfl) (wK K 82 rfl) (by decide) (na := 1) rfl (by decide +kernel) rfl (stk := [(.int 4), (.ref y)]) rfl (by decide +kernel) (V := 0) (lb rfl) (lb rfl) (lb rfl) (lb rfl) (lb rfl)
      refine oLift st103 ?_
      rw [e103] at W103 C103
      show OG _ _ _ _ _ _ _ _ _ _ _ (mkF m 225 #[sI i0, sI i1, sI i2, sI i3, sI i4, sI 1, sI 1, sI c0, sI c1, sI c2, sI c3, sR x, sR r1, sR lo, sR y, sI 112, sU] [(.int 47)])
      refine oGo W103 [.bipush 47] (by decide +kernel) (ls' := #[sI i0, sI i1, sI i2, sI i3, sI i4, sI 1, sI 1, sI c0, sI c1, sI c2, sI c3, sR x, sR r1, sR lo, sR y, sI 112, sU]) (st' := [(.int 47), (.int 47)]) rfl rfl (pc' := 227) rfl ?_
      refine oIcF W103 (cd := .ne) (o := 7) (by decide +kernel) (XT.ii_ne_f rfl) (pc' := 230) rfl ?_
      refine oGo W103 [.iconst 1, .goto 4, .istore 16, .iload 16] (by decide +kernel) (ls' := #[sI i0, sI i1, sI i2, sI i3, sI i4, sI 1, sI 1, sI c0, sI c1, sI c2, sI c3, sR x, sR r1, sR lo, sR y, sI 112, sI 1]) (st' := [(.int 1)]) rfl rfl (pc' := 239) rfl ?_
      refine oIfF W103 (cd := .eq) (o := 18) (by decide +kernel) (XT.i0_eq_f (by decide)) (pc' := 242) rfl ?_
      refine oGo W103 [.aload 14, .iconst 5] (by decide +kernel) (ls' := #[sI i0, sI i1, sI i2, sI i3, sI i4, sI 1, sI 1, sI c0, sI c1, sI c2, sI c3, sR x, sR r1, sR lo, sR y, sI 112, sI 1]) (st' := [(.int 5), (.ref y)]) rfl rfl (pc' := 245) rfl ?_
      obtain ⟨v104, T104, L104, h104, vm104, W104, ⟨rfl, e104⟩, C104, st104⟩ := oCallV W103 (idx := 50) (pc := 245) (ls := #[sI i0, sI i1, sI i2, sI i3, sI i4, sI 1, sI 1, sI c0, sI c1, sI c2, sI c3, sR x, sR r1, sR lo, sR y, sI 112, sI 1]) (st := []) (argsL := [(.int 5)]) F97.exa (c_chr K K.2.2.2.1 F97 (lb rfl) (i := 5) (by decide) (c := c0) rfl) (fun x hx => nomatch hx) (wK K 238 rfl) (wK K 79 rfl) (notFace_of_selects (args := #[]) (mvT W103.warm (wK K 81 rfl))) (wK K 81 rfl) (wK K 80 rfl) (wK K 10 rfl) (wK K 82 rfl) (by decide) (na := 1) rfl (by decide +kernel) rfl (stk := [(.int 5), (.ref y)]) rfl (by decide +kernel) (V := 0) (lb rfl) (lb rfl) (lb rfl) (lb rfl) (lb rfl)
      refine oLift st104 ?_
      rw [e104] at W104 C104
      show OG _ _ _ _ _ _ _ _ _ _ _ (mkF m 248 #[sI i0, sI i1, sI i2, sI i3, sI i4, sI 1, sI 1, sI c0, sI c1, sI c2, sI c3, sR x, sR r1, sR lo, sR y, sI 112, sI 1] [(.int c0)])
      refine oGo W104 [.iload 7] (by decide +kernel) (ls' := #[sI i0, sI i1, sI i2, sI i3, sI i4, sI 1, sI 1, sI c0, sI c1, sI c2, sI c3, sR x, sR r1, sR lo, sR y, sI 112, sI 1]) (st' := [(.int c0), (.int c0)]) rfl rfl (pc' := 250) rfl ?_
      refine oIcF W104 (cd := .ne) (o := 7) (by decide +kernel) (XT.ii_ne_f rfl) (pc' := 253) rfl ?_
      refine oGo W104 [.iconst 1, .goto 4, .istore 16, .iload 6, .iconst 2] (by decide +kernel) (ls' := #[sI i0, sI i1, sI i2, sI i3, sI i4, sI 1, sI 1, sI c0, sI c1, sI c2, sI c3, sR x, sR r1, sR lo, sR y, sI 112, sI 1]) (st' := [(.int 2), (.int 1)]) rfl rfl (pc' := 263) rfl ?_
      refine oIcT W104 (cd := .lt) (o := 27) (by decide +kernel) (XT.ii_lt_t (by decide)) (pc' := 290) (by decide) (by decide) ?_
      refine oGo W104 [.iload 6, .iconst 3] (by decide +kernel) (ls' := #[sI i0, sI i1, sI i2, sI i3, sI i4, sI 1, sI 1, sI c0, sI c1, sI c2, sI c3, sR x, sR r1, sR lo, sR y, sI 112, sI 1]) (st' := [(.int 3), (.int 1)]) rfl rfl (pc' := 293) rfl ?_
      refine oIcT W104 (cd := .lt) (o := 27) (by decide +kernel) (XT.ii_lt_t (by decide)) (pc' := 320) (by decide) (by decide) ?_
      refine oGo W104 [.iload 6, .iconst 4] (by decide +kernel) (ls' := #[sI i0, sI i1, sI i2, sI i3, sI i4, sI 1, sI 1, sI c0, sI c1, sI c2, sI c3, sR x, sR r1, sR lo, sR y, sI 112, sI 1]) (st' := [(.int 4), (.int 1)]) rfl rfl (pc' := 323) rfl ?_
      refine oIcT W104 (cd := .lt) (o := 27) (by decide +kernel) (XT.ii_lt_t (by decide)) (pc' := 350) (by decide) (by decide) ?_
      refine oGo W104 [.iload 16] (by decide +kernel) (ls' := #[sI i0, sI i1, sI i2, sI i3, sI i4, sI 1, sI 1, sI c0, sI c1, sI c2, sI c3, sR x, sR r1, sR lo, sR y, sI 112, sI 1]) (st' := [(.int 1)]) rfl rfl (pc' := 352) rfl ?_
      exact oRetN (by simp) W104 rfl (by decide +kernel) (lb rfl) (lb rfl) (fun vm' hv => rfl)
    · rw [hL]
      refine oGo W89 [.iload 6, .iconst 1] (by decide +kernel) (ls' := #[sI i0, sI i1, sI i2, sI i3, sI i4, sI 1, sI 2, sI c0, sI c1, sI c2, sI c3, sU, sU, sU, sU, sU, sU]) (st' := [(.int 1), (.int 2)]) rfl rfl (pc' := 50) rfl ?_
      refine oIcT W89 (cd := .ne) (o := 12) (by decide +kernel) (XT.ii_ne_t (by decide)) (pc' := 62) (by decide) (by decide) ?_
      refine oGo W89 [.iload 6, .iconst 2] (by decide +kernel) (ls' := #[sI i0, sI i1, sI i2, sI i3, sI i4, sI 1, sI 2, sI c0, sI c1, sI c2, sI c3, sU, sU, sU, sU, sU, sU]) (st' := [(.int 2), (.int 2)]) rfl rfl (pc' := 65) rfl ?_
      refine oIcF W89 (cd := .ne) (o := 19) (by decide +kernel) (XT.ii_ne_f (by decide)) (pc' := 68) rfl ?_
      refine oGo W89 [.iload 7, .bipush 46] (by decide +kernel) (ls' := #[sI i0, sI i1, sI i2, sI i3, sI i4, sI 1, sI 2, sI c0, sI c1, sI c2, sI c3, sU, sU, sU, sU, sU, sU]) (st' := [(.int 46), (.int c0)]) rfl rfl (pc' := 72) rfl ?_
      by_cases hc105 : c0 = (46 : Int32)
      rotate_left
      · refine oIcT W89 (cd := .ne) (o := 12) (by decide +kernel) (XT.ii_ne_t hc105) (pc' := 84) (by decide) (by decide) ?_
        refine oGo W89 [.iload 6, .iload 7, .iload 8, .iload 9, .iload 10] (by decide +kernel) (ls' := #[sI i0, sI i1, sI i2, sI i3, sI i4, sI 1, sI 2, sI c0, sI c1, sI c2, sI c3, sU, sU, sU, sU, sU, sU]) (st' := [(.int c3), (.int c2), (.int c1), (.int c0), (.int 2)]) rfl rfl (pc' := 94) rfl ?_
        obtain ⟨v106, T106, L106, h106, vm106, W106, ⟨x, rfl, F106, E106⟩, C106, st106⟩ := oCallS W89 (idx := 19) (pc := 94) (ls := #[sI i0, sI i1, sI i2, sI i3, sI i4, sI 1, sI 2, sI c0, sI c1, sI c2, sI c3, sU, sU, sU, sU, sU, sU]) (st := []) (argsL := [(.int 2), (.int c0), (.int c1), (.int c2), (.int c3)]) (c_dr2 K (c0 := c0) (c1 := c1) (c2 := c2) (c3 := c3) qa0 qa1 qa2 qa3) (fun x hx => nomatch hx) (wK K 5 rfl) (wK K 6 rfl) (wK K 2 rfl) (wK K 7 rfl) (by decide) (na := 5) rfl (by decide +kernel) rfl (stk := [(.int c3), (.int c2), (.int c1), (.int c0), (.int 2)]) rfl (by decide +kernel) (V := 0) (lb rfl) (lb rfl) (lb rfl) (lb rfl) (lb rfl)
        refine oLift st106 ?_
        show OG _ _ _ _ _ _ _ _ _ _ _ (mkF m 97 #[sI i0, sI i1, sI i2, sI i3, sI i4, sI 1, sI 2, sI c0, sI c1, sI c2, sI c3, sU, sU, sU, sU, sU, sU] [(.ref x)])
        refine oGo W106 [.astore 11, .iload 5] (by decide +kernel) (ls' := #[sI i0, sI i1, sI i2, sI i3, sI i4, sI 1, sI 2, sI c0, sI c1, sI c2, sI c3, sR x, sU, sU, sU, sU, sU]) (st' := [(.int 1)]) rfl rfl (pc' := 101) rfl ?_
        refine oIfF W106 (cd := .eq) (o := 9) (by decide +kernel) (XT.i0_eq_f (by decide)) (pc' := 104) rfl ?_
        obtain ⟨T107, W107, st107⟩ := oGetS W106 (pc := 104) (ls := #[sI i0, sI i1, sI i2, sI i3, sI i4, sI 1, sI 2, sI c0, sI c1, sI c2, sI c3, sR x, sU, sU, sU, sU, sU]) (st := []) (wK K 239 rfl) Via.refl (Sr1.ext W106.ext) (by decide +kernel)
        refine oLift st107 ?_
        refine oGo W107 [.goto 6, .astore 12] (by decide +kernel) (ls' := #[sI i0, sI i1, sI i2, sI i3, sI i4, sI 1, sI 2, sI c0, sI c1, sI c2, sI c3, sR x, sR r1, sU, sU, sU, sU]) (st' := []) rfl rfl (pc' := 115) rfl ?_
        obtain ⟨T108, h108, lo, W108, g108, E108, A108, D108, S108, C108, st108⟩ := oNew W107 (pc := 115) (ls := #[sI i0, sI i1, sI i2, sI i3, sI i4, sI 1, sI 2, sI c0, sI c1, sI c2, sI c3, sR x, sR r1, sU, sU, sU, sU]) (st := []) (wK K 41 rfl) (wK K 42 rfl) (wK K 43 rfl) (by decide +kernel) (lb rfl) (lb rfl)
        refine oLift st108 ?_
        refine oGo W108 [.dup, .aload 12] (by decide +kernel) (ls' := #[sI i0, sI i1, sI i2, sI i3, sI i4, sI 1, sI 2, sI c0, sI c1, sI c2, sI c3, sR x, sR r1, sU, sU, sU, sU]) (st' := [(.ref r1), (.ref lo), (.ref lo)]) rfl rfl (pc' := 121) rfl ?_
        obtain ⟨T109, h109, nm, W109, g109, E109, A109, D109, S109, C109, st109⟩ := oNew W108 (pc := 121) (ls := #[sI i0, sI i1, sI i2, sI i3, sI i4, sI 1, sI 2, sI c0, sI c1, sI c2, sI c3, sR x, sR r1, sU, sU, sU, sU]) (st := [(.ref r1), (.ref lo), (.ref lo)]) (wK K 44 rfl) (wK K 45 rfl) (wK K 46 rfl) (by decide +kernel) (lb rfl) (lb rfl)
        refine oLift st109 ?_
        refine oGo W109 [.dup, .aload 11] (by decide +kernel) (ls' := #[sI i0, sI i1, sI i2, sI i3, sI i4, sI 1, sI 2, sI c0, sI c1, sI c2, sI c3, sR x, sR r1, sU, sU, sU, sU]) (st' := [(.ref x), (.ref nm), (.ref nm), (.ref r1), (.ref lo), (.ref lo)]) rfl rfl (pc' := 127) rfl ?_
        have hnl : nm ≠ lo := Nat.ne_of_gt (Nat.lt_of_lt_of_le A108.lt g109)
        obtain ⟨v110, T110, L110, h110, vm110, W110, ⟨rfl, K110, X110, F110⟩, C110, st110⟩ := oCallN W109 (idx := 36) (pc := 127) (ls := #[sI i0, sI i1, sI i2, sI i3, sI i4, sI 1, sI 2, sI c0, sI c1, sI c2, sI c3, sR x, sR r1, sU, sU, sU, sU]) (st := [(.ref nm), (.ref r1), (.ref lo), (.ref lo)]) (a := nm) (argsL := [(.ref x)]) (c_cn2 K ((F106.ext E108).ext E109) qa0 qa1 (fun q => hc105 q.1) (Nat.le_trans W108.ext.1 g109) A109 (D109 (Or.inr (wK K 115 rfl)) (ty := (.object "java/lang/String")) (by decide))) (fun x hx => nomatch hx) rfl (wK K 47 rfl) (wK K 48 rfl) (wK K 46 rfl) (wK K 49 rfl) (by decide) (na := 1) rfl (by decide +kernel) rfl (stk := [(.ref x), (.ref nm), (.ref nm), (.ref r1), (.ref lo), (.ref lo)]) rfl (by decide +kernel) (V := 4) (lb rfl) (lb rfl) (lb rfl) (lb rfl) (lb rfl)
        refine oLift st110 ?_
        show OG _ _ _ _ _ _ _ _ _ _ _ (mkF m 130 #[sI i0, sI i1, sI i2, sI i3, sI i4, sI 1, sI 2, sI c0, sI c1, sI c2, sI c3, sR x, sR r1, sU, sU, sU, sU] [(.ref nm), (.ref r1), (.ref lo), (.ref lo)])
        obtain ⟨v111, T111, L111, h111, vm111, W111, ⟨rfl, K111, X111, F111, G111⟩, C111, st111⟩ := oCallN W110 (idx := 39) (pc := 130) (ls := #[sI i0, sI i1, sI i2, sI i3, sI i4, sI 1, sI 2, sI c0, sI c1, sI c2, sI c3, sR x, sR r1, sU, sU, sU, sU]) (st := [(.ref lo)]) (a := lo) (argsL := [(.ref r1), (.ref nm)]) (c_cli K (Nat.le_trans W106.ext.1 g108) (A108.ext (exK E109 K110 (fun y hy => by cases List.mem_singleton.mp hy; exact g109))) ((D108 (Or.inr (wK K 121 rfl)) (ty := (.object "com/example/gentle_hub/gentlehub/server/ChannelLocation$Role")) (by decide)).ext (exK E109 K110 (fun y hy => by cases List.mem_singleton.mp hy; exact g109))) ((D108 (Or.inr (wK K 123 rfl)) (ty := (.object "com/example/gentle_hub/gentlehub/core/ChannelName")) (by decide)).ext (exK E109 K110 (fun y hy => by cases List.mem_singleton.mp hy; exact g109)))) (fun x hx => nomatch hx) rfl (wK K 116 rfl) (wK K 117 rfl) (wK K 43 rfl) (wK K 118 rfl) (by decide) (na := 2) rfl (by decide +kernel) rfl (stk := [(.ref nm), (.ref r1), (.ref lo), (.ref lo)]) rfl (by decide +kernel) (V := 1) (lb rfl) (lb rfl) (lb rfl) (lb rfl) (lb rfl)
        refine oLift st111 ?_
        show OG _ _ _ _ _ _ _ _ _ _ _ (mkF m 133 #[sI i0, sI i1, sI i2, sI i3, sI i4, sI 1, sI 2, sI c0, sI c1, sI c2, sI c3, sR x, sR r1, sU, sU, sU, sU] [(.ref lo)])
        refine oGo W111 [.astore 13, .aload 13] (by decide +kernel) (ls' := #[sI i0, sI i1, sI i2, sI i3, sI i4, sI 1, sI 2, sI c0, sI c1, sI c2, sI c3, sR x, sR r1, sR lo, sU, sU, sU]) (st' := [(.ref lo)]) rfl rfl (pc' := 137) rfl ?_
        obtain ⟨v112, T112, L112, h112, vm112, W112, ⟨y, rfl, F112, E112⟩, C112, st112⟩ := oCallV W111 (idx := 42) (pc := 137) (ls := #[sI i0, sI i1, sI i2, sI i3, sI i4, sI 1, sI 2, sI c0, sI c1, sI c2, sI c3, sR x, sR r1, sR lo, sU, sU, sU]) (st := []) (argsL := []) X111 (c_path K F111 G111 (Fr1.ext W111.ext) (Tr1.ext W111.ext) (X110.keep K111) (F110.keep K111 (ninS hnl nin0)) (F106.ext (exK (exT E108 (exK E109 K110 (fun y hy => by cases List.mem_singleton.mp hy; exact g109))) K111 (fun y hy => by cases List.mem_singleton.mp hy; exact g108))) (lb rfl)) (fun x hx => nomatch hx) (wK K 124 rfl) (wK K 125 rfl) (notFace_of_selects (args := #[]) (mvT W111.warm (wK K 127 rfl))) (wK K 127 rfl) (wK K 126 rfl) (wK K 43 rfl) (wK K 128 rfl) (by decide) (na := 0) rfl (by decide +kernel) rfl (stk := [(.ref lo)]) rfl (by decide +kernel) (V := 0) (lb rfl) (lb rfl) (lb rfl) (lb rfl) (lb rfl)
        refine oLift st112 ?_
        show OG _ _ _ _ _ _ _ _ _ _ _ (mkF m 140 #[sI i0, sI i1, sI i2, sI i3, sI i4, sI 1, sI 2, sI c0, sI c1, sI c2, sI c3, sR x, sR r1, sR lo, sU, sU, sU] [(.ref y)])
        refine oGo W112 [.astore 14, .aload 14] (by decide +kernel) (ls' := #[sI i0, sI i1, sI i2, sI i3, sI i4, sI 1, sI 2, sI c0, sI c1, sI c2, sI c3, sR x, sR r1, sR lo, sR y, sU, sU]) (st' := [(.ref y)]) rfl rfl (pc' := 144) rfl ?_
        refine oNuF W112 (o := 15) (by decide +kernel) (pc' := 147) rfl ?_
        refine oGo W112 [.aload 14] (by decide +kernel) (ls' := #[sI i0, sI i1, sI i2, sI i3, sI i4, sI 1, sI 2, sI c0, sI c1, sI c2, sI c3, sR x, sR r1, sR lo, sR y, sU, sU]) (st' := [(.ref y)]) rfl rfl (pc' := 149) rfl ?_
        obtain ⟨v113, T113, L113, h113, vm113, W113, ⟨rfl, e113⟩, C113, st113⟩ := oCallV W112 (idx := 46) (pc := 149) (ls := #[sI i0, sI i1, sI i2, sI i3, sI i4, sI 1, sI 2, sI c0, sI c1, sI c2, sI c3, sR x, sR r1, sR lo, sR y, sU, sU]) (st := []) (argsL := []) F112.exa (c_len K F112) (fun x hx => nomatch hx) (wK K 237 rfl) (wK K 69 rfl) (notFace_of_selects (args := #[]) (mvT W112.warm (wK K 71 rfl))) (wK K 71 rfl) (wK K 70 rfl) (wK K 10 rfl) (wK K 72 rfl) (by decide) (na := 0) rfl (by decide +kernel) rfl (stk := [(.ref y)]) rfl (by decide +kernel) (V := 0) (lb rfl) (lb rfl) (lb rfl) (lb rfl) (lb rfl)
        refine oLift st113 ?_
        rw [e113] at W113 C113
        show OG _ _ _ _ _ _ _ _ _ _ _ (mkF m 152 #[sI i0, sI i1, sI i2, sI i3, sI i4, sI 1, sI 2, sI c0, sI c1, sI c2, sI c3, sR x, sR r1, sR lo, sR y, sU, sU] [(.int 7)])
        refine oGo W113 [.iconst 5, .iload 6, .iadd] (by decide +kernel) (ls' := #[sI i0, sI i1, sI i2, sI i3, sI i4, sI 1, sI 2, sI c0, sI c1, sI c2, sI c3, sR x, sR r1, sR lo, sR y, sU, sU]) (st' := [(.int ((5 : Int32) + (2 : Int32))), (.int 7)]) rfl rfl (pc' := 156) rfl ?_
        refine oIcT W113 (cd := .eq) (o := 5) (by decide +kernel) (XT.ii_eq_t (by decide)) (pc' := 161) (by decide) (by decide) ?_
        refine oGo W113 [.iload 5] (by decide +kernel) (ls' := #[sI i0, sI i1, sI i2, sI i3, sI i4, sI 1, sI 2, sI c0, sI c1, sI c2, sI c3, sR x, sR r1, sR lo, sR y, sU, sU]) (st' := [(.int 1)]) rfl rfl (pc' := 163) rfl ?_
        refine oIfF W113 (cd := .eq) (o := 8) (by decide +kernel) (XT.i0_eq_f (by decide)) (pc' := 166) rfl ?_
        refine oGo W113 [.bipush 112, .goto 5, .istore 15, .aload 14, .iconst 0] (by decide +kernel) (ls' := #[sI i0, sI i1, sI i2, sI i3, sI i4, sI 1, sI 2, sI c0, sI c1, sI c2, sI c3, sR x, sR r1, sR lo, sR y, sI 112, sU]) (st' := [(.int 0), (.ref y)]) rfl rfl (pc' := 178) rfl ?_
        obtain ⟨v114, T114, L114, h114, vm114, W114, ⟨rfl, e114⟩, C114, st114⟩ := oCallV W113 (idx := 50) (pc := 178) (ls := #[sI i0, sI i1, sI i2, sI i3, sI i4, sI 1, sI 2, sI c0, sI c1, sI c2, sI c3, sR x, sR r1, sR lo, sR y, sI 112, sU]) (st := []) (argsL := [(.int 0)]) F112.exa (c_chr K K.2.2.2.1 F112 (lb rfl) (i := 0) (by decide) (c := (47 : Int32)) rfl) (fun x hx => nomatch hx) (wK K 238 rfl) (wK K 79 rfl) (notFace_of_selects (args := #[]) (mvT W113.warm (wK K 81 rfl))) (wK K 81 rfl) (wK K 80 rfl) (wK K 10 rfl) (wK K 82 rfl) (by decide) (na := 1) rfl (by decide +kernel) rfl (stk := [(.int 0), (.ref y)]) rfl (by decide +kernel) (V := 0) (lb rfl) (lb rfl) (lb rfl) (lb rfl) (lb rfl)
        refine oLift st114 ?_
        rw [e114] at W114 C114
        show OG _ _ _ _ _ _ _ _ _ _ _ (mkF m 181 #[sI i0, sI i1, sI i2, sI i3, sI i4, sI 1, sI 2, sI c0, sI c1, sI c2, sI c3, sR x, sR r1, sR lo, sR y, sI 112, sU] [(.int 47)])
        refine oGo W114 [.bipush 47] (by decide +kernel) (ls' := #[sI i0, sI i1, sI i2, sI i3, sI i4, sI 1, sI 2, sI c0, sI c1, sI c2, sI c3, sR x, sR r1, sR lo, sR y, sI 112, sU]) (st' := [(.int 47), (.int 47)]) rfl rfl (pc' := 183) rfl ?_
        refine oIcF W114 (cd := .ne) (o := 51) (by decide +kernel) (XT.ii_ne_f rfl) (pc' := 186) rfl ?_
        refine oGo W114 [.aload 14, .iconst 1] (by decide +kernel) (ls' := #[sI i0, sI i1, sI i2, sI i3, sI i4, sI 1, sI 2, sI c0, sI c1, sI c2, sI c3, sR x, sR r1, sR lo, sR y, sI 112, sU]) (st' := [(.int 1), (.ref y)]) rfl rfl (pc' := 189) rfl ?_
        obtain ⟨v115, T115, L115, h115, vm115, W115, ⟨rfl, e115⟩, C115, st115⟩ := oCallV W114 (idx := 50) (pc := 189) (ls := #[sI i0, sI i1, sI i2, sI i3, sI i4, sI 1, sI 2, sI c0, sI c1, sI c2, sI c3, sR x, sR r1, sR lo, sR y, sI 112, sU]) (st := []) (argsL := [(.int 1)]) F112.exa (c_chr K K.2.2.2.1 F112 (lb rfl) (i := 1) (by decide) (c := (112 : Int32)) rfl) (fun x hx => nomatch hx) (wK K 238 rfl) (wK K 79 rfl) (notFace_of_selects (args := #[]) (mvT W114.warm (wK K 81 rfl))) (wK K 81 rfl) (wK K 80 rfl) (wK K 10 rfl) (wK K 82 rfl) (by decide) (na := 1) rfl (by decide +kernel) rfl (stk := [(.int 1), (.ref y)]) rfl (by decide +kernel) (V := 0) (lb rfl) (lb rfl) (lb rfl) (lb rfl) (lb rfl)
        refine oLift st115 ?_
        rw [e115] at W115 C115
        show OG _ _ _ _ _ _ _ _ _ _ _ (mkF m 192 #[sI i0, sI i1, sI i2, sI i3, sI i4, sI 1, sI 2, sI c0, sI c1, sI c2, sI c3, sR x, sR r1, sR lo, sR y, sI 112, sU] [(.int 112)])
        refine oGo W115 [.iload 15] (by decide +kernel) (ls' := #[sI i0, sI i1, sI i2, sI i3, sI i4, sI 1, sI 2, sI c0, sI c1, sI c2, sI c3, sR x, sR r1, sR lo, sR y, sI 112, sU]) (st' := [(.int 112), (.int 112)]) rfl rfl (pc' := 194) rfl ?_
        refine oIcF W115 (cd := .ne) (o := 40) (by decide +kernel) (XT.ii_ne_f rfl) (pc' := 197) rfl ?_
        refine oGo W115 [.aload 14, .iconst 2] (by decide +kernel) (ls' := #[sI i0, sI i1, sI i2, sI i3, sI i4, sI 1, sI 2, sI c0, sI c1, sI c2, sI c3, sR x, sR r1, sR lo, sR y, sI 112, sU]) (st' := [(.int 2), (.ref y)]) rfl rfl (pc' := 200) rfl ?_
        obtain ⟨v116, T116, L116, h116, vm116, W116, ⟨rfl, e116⟩, C116, st116⟩ := oCallV W115 (idx := 50) (pc := 200) (ls := #[sI i0, sI i1, sI i2, sI i3, sI i4, sI 1, sI 2, sI c0, sI c1, sI c2, sI c3, sR x, sR r1, sR lo, sR y, sI 112, sU]) (st := []) (argsL := [(.int 2)]) F112.exa (c_chr K K.2.2.2.1 F112 (lb rfl) (i := 2) (by decide) (c := (117 : Int32)) rfl) (fun x hx => nomatch hx) (wK K 238 rfl) (wK K 79 rfl) (notFace_of_selects (args := #[]) (mvT W115.warm (wK K 81 rfl))) (wK K 81 rfl) (wK K 80 rfl) (wK K 10 rfl) (wK K 82 rfl) (by decide) (na := 1) rfl (by decide +kernel) rfl (stk := [(.int 2), (.ref y)]) rfl (by decide +kernel) (V := 0) (lb rfl) (lb rfl) (lb rfl) (lb rfl) (lb rfl)
        refine oLift st116 ?_
        rw [e116] at W116 C116
        show OG _ _ _ _ _ _ _ _ _ _ _ (mkF m 203 #[sI i0, sI i1, sI i2, sI i3, sI i4, sI 1, sI 2, sI c0, sI c1, sI c2, sI c3, sR x, sR r1, sR lo, sR y, sI 112, sU] [(.int 117)])
        refine oGo W116 [.bipush 117] (by decide +kernel) (ls' := #[sI i0, sI i1, sI i2, sI i3, sI i4, sI 1, sI 2, sI c0, sI c1, sI c2, sI c3, sR x, sR r1, sR lo, sR y, sI 112, sU]) (st' := [(.int 117), (.int 117)]) rfl rfl (pc' := 205) rfl ?_
        refine oIcF W116 (cd := .ne) (o := 29) (by decide +kernel) (XT.ii_ne_f rfl) (pc' := 208) rfl ?_
        refine oGo W116 [.aload 14, .iconst 3] (by decide +kernel) (ls' := #[sI i0, sI i1, sI i2, sI i3, sI i4, sI 1, sI 2, sI c0, sI c1, sI c2, sI c3, sR x, sR r1, sR lo, sR y, sI 112, sU]) (st' := [(.int 3), (.ref y)]) rfl rfl (pc' := 211) rfl ?_
        obtain ⟨v117, T117, L117, h117, vm117, W117, ⟨rfl, e117⟩, C117, st117⟩ := oCallV W116 (idx := 50) (pc := 211) (ls := #[sI i0, sI i1, sI i2, sI i3, sI i4, sI 1, sI 2, sI c0, sI c1, sI c2, sI c3, sR x, sR r1, sR lo, sR y, sI 112, sU]) (st := []) (argsL := [(.int 3)]) F112.exa (c_chr K K.2.2.2.1 F112 (lb rfl) (i := 3) (by decide) (c := (98 : Int32)) rfl) (fun x hx => nomatch hx) (wK K 238 rfl) (wK K 79 rfl) (notFace_of_selects (args := #[]) (mvT W116.warm (wK K 81 rfl))) (wK K 81 rfl) (wK K 80 rfl) (wK K 10 rfl) (wK K 82 rfl) (by decide) (na := 1) rfl (by decide +kernel) rfl (stk := [(.int 3), (.ref y)]) rfl (by decide +kernel) (V := 0) (lb rfl) (lb rfl) (lb rfl) (lb rfl) (lb rfl)
        refine oLift st117 ?_
        rw [e117] at W117 C117
        show OG _ _ _ _ _ _ _ _ _ _ _ (mkF m 214 #[sI i0, sI i1, sI i2, sI i3, sI i4, sI 1, sI 2, sI c0, sI c1, sI c2, sI c3, sR x, sR r1, sR lo, sR y, sI 112, sU] [(.int 98)])
        refine oGo W117 [.bipush 98] (by decide +kernel) (ls' := #[sI i0, sI i1, sI i2, sI i3, sI i4, sI 1, sI 2, sI c0, sI c1, sI c2, sI c3, sR x, sR r1, sR lo, sR y, sI 112, sU]) (st' := [(.int 98), (.int 98)]) rfl rfl (pc' := 216) rfl ?_
        refine oIcF W117 (cd := .ne) (o := 18) (by decide +kernel) (XT.ii_ne_f rfl) (pc' := 219) rfl ?_
        refine oGo W117 [.aload 14, .iconst 4] (by decide +kernel) (ls' := #[sI i0, sI i1, sI i2, sI i3, sI i4, sI 1, sI 2, sI c0, sI c1, sI c2, sI c3, sR x, sR r1, sR lo, sR y, sI 112, sU]) (st' := [(.int 4), (.ref y)]) rfl rfl (pc' := 222) rfl ?_
        obtain ⟨v118, T118, L118, h118, vm118, W118, ⟨rfl, e118⟩, C118, st118⟩ := oCallV W117 (idx := 50) (pc := 222) (ls := #[sI i0, sI i1, sI i2, sI i3, sI i4, sI 1, sI 2, sI c0, sI c1, sI c2, sI c3, sR x, sR r1, sR lo, sR y, sI 112, sU]) (st := []) (argsL := [(.int 4)]) F112.exa (c_chr K K.2.2.2.1 F112 (lb rfl) (i := 4) (by decide) (c := (47 : Int32)) rfl) (fun x hx => nomatch hx) (wK K 238 rfl) (wK K 79 rfl) (notFace_of_selects (args := #[]) (mvT W117.warm (wK K 81 rfl))) (wK K 81 rfl) (wK K 80 rfl) (wK K 10 rfl) (wK K 82 rfl) (by decide) (na := 1) rfl (by decide +kernel) rfl (stk := [(.int 4), (.ref y)]) rfl (by decide +kernel) (V := 0) (lb rfl) (lb rfl) (lb rfl) (lb rfl) (lb rfl)
        refine oLift st118 ?_
        rw [e118] at W118 C118
        show OG _ _ _ _ _ _ _ _ _ _ _ (mkF m 225 #[sI i0, sI i1, sI i2, sI i3, sI i4, sI 1, sI 2, sI c0, sI c1, sI c2, sI c3, sR x, sR r1, sR lo, sR y, sI 112, sU] [(.int 47)])
        refine oGo W118 [.bipush 47] (by decide +kernel) (ls' := #[sI i0, sI i1, sI i2, sI i3, sI i4, sI 1, sI 2, sI c0, sI c1, sI c2, sI c3, sR x, sR r1, sR lo, sR y, sI 112, sU]) (st' := [(.int 47), (.int 47)]) rfl rfl (pc' := 227) rfl ?_
        refine oIcF W118 (cd := .ne) (o := 7) (by decide +kernel) (XT.ii_ne_f rfl) (pc' := 230) rfl ?_
        refine oGo W118 [.iconst 1, .goto 4, .istore 16, .iload 16] (by decide +kernel) (ls' := #[sI i0, sI i1, sI i2, sI i3, sI i4, sI 1, sI 2, sI c0, sI c1, sI c2, sI c3, sR x, sR r1, sR lo, sR y, sI 112, sI 1]) (st' := [(.int 1)]) rfl rfl (pc' := 239) rfl ?_
        refine oIfF W118 (cd := .eq) (o := 18) (by decide +kernel) (XT.i0_eq_f (by decide)) (pc' := 242) rfl ?_
        refine oGo W118 [.aload 14, .iconst 5] (by decide +kernel) (ls' := #[sI i0, sI i1, sI i2, sI i3, sI i4, sI 1, sI 2, sI c0, sI c1, sI c2, sI c3, sR x, sR r1, sR lo, sR y, sI 112, sI 1]) (st' := [(.int 5), (.ref y)]) rfl rfl (pc' := 245) rfl ?_
        obtain ⟨v119, T119, L119, h119, vm119, W119, ⟨rfl, e119⟩, C119, st119⟩ := oCallV W118 (idx := 50) (pc := 245) (ls := #[sI i0, sI i1, sI i2, sI i3, sI i4, sI 1, sI 2, sI c0, sI c1, sI c2, sI c3, sR x, sR r1, sR lo, sR y, sI 112, sI 1]) (st := []) (argsL := [(.int 5)]) F112.exa (c_chr K K.2.2.2.1 F112 (lb rfl) (i := 5) (by decide) (c := c0) rfl) (fun x hx => nomatch hx) (wK K 238 rfl) (wK K 79 rfl) (notFace_of_selects (args := #[]) (mvT W118.warm (wK K 81 rfl))) (wK K 81 rfl) (wK K 80 rfl) (wK K 10 rfl) (wK K 82 rfl) (by decide) (na := 1) rfl (by decide +kernel) rfl (stk := [(.int 5), (.ref y)]) rfl (by decide +kernel) (V := 0) (lb rfl) (lb rfl) (lb rfl) (lb rfl) (lb rfl)
        refine oLift st119 ?_
        rw [e119] at W119 C119
        show OG _ _ _ _ _ _ _ _ _ _ _ (mkF m 248 #[sI i0, sI i1, sI i2, sI i3, sI i4, sI 1, sI 2, sI c0, sI c1, sI c2, sI c3, sR x, sR r1, sR lo, sR y, sI 112, sI 1] [(.int c0)])
        refine oGo W119 [.iload 7] (by decide +kernel) (ls' := #[sI i0, sI i1, sI i2, sI i3, sI i4, sI 1, sI 2, sI c0, sI c1, sI c2, sI c3, sR x, sR r1, sR lo, sR y, sI 112, sI 1]) (st' := [(.int c0), (.int c0)]) rfl rfl (pc' := 250) rfl ?_
        refine oIcF W119 (cd := .ne) (o := 7) (by decide +kernel) (XT.ii_ne_f rfl) (pc' := 253) rfl ?_
        refine oGo W119 [.iconst 1, .goto 4, .istore 16, .iload 6, .iconst 2] (by decide +kernel) (ls' := #[sI i0, sI i1, sI i2, sI i3, sI i4, sI 1, sI 2, sI c0, sI c1, sI c2, sI c3, sR x, sR r1, sR lo, sR y, sI 112, sI 1]) (st' := [(.int 2), (.int 2)]) rfl rfl (pc' := 263) rfl ?_
        refine oIcF W119 (cd := .lt) (o := 27) (by decide +kernel) (XT.ii_lt_f (by decide)) (pc' := 266) rfl ?_
        refine oGo W119 [.iload 16] (by decide +kernel) (ls' := #[sI i0, sI i1, sI i2, sI i3, sI i4, sI 1, sI 2, sI c0, sI c1, sI c2, sI c3, sR x, sR r1, sR lo, sR y, sI 112, sI 1]) (st' := [(.int 1)]) rfl rfl (pc' := 268) rfl ?_
        refine oIfF W119 (cd := .eq) (o := 19) (by decide +kernel) (XT.i0_eq_f (by decide)) (pc' := 271) rfl ?_
        refine oGo W119 [.aload 14, .bipush 6] (by decide +kernel) (ls' := #[sI i0, sI i1, sI i2, sI i3, sI i4, sI 1, sI 2, sI c0, sI c1, sI c2, sI c3, sR x, sR r1, sR lo, sR y, sI 112, sI 1]) (st' := [(.int 6), (.ref y)]) rfl rfl (pc' := 275) rfl ?_
        obtain ⟨v120, T120, L120, h120, vm120, W120, ⟨rfl, e120⟩, C120, st120⟩ := oCallV W119 (idx := 50) (pc := 275) (ls := #[sI i0, sI i1, sI i2, sI i3, sI i4, sI 1, sI 2, sI c0, sI c1, sI c2, sI c3, sR x, sR r1, sR lo, sR y, sI 112, sI 1]) (st := []) (argsL := [(.int 6)]) F112.exa (c_chr K K.2.2.2.1 F112 (lb rfl) (i := 6) (by decide) (c := c1) rfl) (fun x hx => nomatch hx) (wK K 238 rfl) (wK K 79 rfl) (notFace_of_selects (args := #[]) (mvT W119.warm (wK K 81 rfl))) (wK K 81 rfl) (wK K 80 rfl) (wK K 10 rfl) (wK K 82 rfl) (by decide) (na := 1) rfl (by decide +kernel) rfl (stk := [(.int 6), (.ref y)]) rfl (by decide +kernel) (V := 0) (lb rfl) (lb rfl) (lb rfl) (lb rfl) (lb rfl)
        refine oLift st120 ?_
        rw [e120] at W120 C120
        show OG _ _ _ _ _ _ _ _ _ _ _ (mkF m 278 #[sI i0, sI i1, sI i2, sI i3, sI i4, sI 1, sI 2, sI c0, sI c1, sI c2, sI c3, sR x, sR r1, sR lo, sR y, sI 112, sI 1] [(.int c1)])
        refine oGo W120 [.iload 8] (by decide +kernel) (ls' := #[sI i0, sI i1, sI i2, sI i3, sI i4, sI 1, sI 2, sI c0, sI c1, sI c2, sI c3, sR x, sR r1, sR lo, sR y, sI 112, sI 1]) (st' := [(.int c1), (.int c1)]) rfl rfl (pc' := 280) rfl ?_
        refine oIcF W120 (cd := .ne) (o := 7) (by decide +kernel) (XT.ii_ne_f rfl) (pc' := 283) rfl ?_
        refine oGo W120 [.iconst 1, .goto 4, .istore 16, .iload 6, .iconst 3] (by decide +kernel) (ls' := #[sI i0, sI i1, sI i2, sI i3, sI i4, sI 1, sI 2, sI c0, sI c1, sI c2, sI c3, sR x, sR r1, sR lo, sR y, sI 112, sI 1]) (st' := [(.int 3), (.int 2)]) rfl rfl (pc' := 293) rfl ?_
        refine oIcT W120 (cd := .lt) (o := 27) (by decide +kernel) (XT.ii_lt_t (by decide)) (pc' := 320) (by decide) (by decide) ?_
        refine oGo W120 [.iload 6, .iconst 4] (by decide +kernel) (ls' := #[sI i0, sI i1, sI i2, sI i3, sI i4, sI 1, sI 2, sI c0, sI c1, sI c2, sI c3, sR x, sR r1, sR lo, sR y, sI 112, sI 1]) (st' := [(.int 4), (.int 2)]) rfl rfl (pc' := 323) rfl ?_
        refine oIcT W120 (cd := .lt) (o := 27) (by decide +kernel) (XT.ii_lt_t (by decide)) (pc' := 350) (by decide) (by decide) ?_
        refine oGo W120 [.iload 16] (by decide +kernel) (ls' := #[sI i0, sI i1, sI i2, sI i3, sI i4, sI 1, sI 2, sI c0, sI c1, sI c2, sI c3, sR x, sR r1, sR lo, sR y, sI 112, sI 1]) (st' := [(.int 1)]) rfl rfl (pc' := 352) rfl ?_
        exact oRetN (by simp) W120 rfl (by decide +kernel) (lb rfl) (lb rfl) (fun vm' hv => rfl)
      refine oIcF W89 (cd := .ne) (o := 12) (by decide +kernel) (XT.ii_ne_f hc105) (pc' := 75) rfl ?_
      refine oGo W89 [.iload 8, .bipush 46] (by decide +kernel) (ls' := #[sI i0, sI i1, sI i2, sI i3, sI i4, sI 1, sI 2, sI c0, sI c1, sI c2, sI c3, sU, sU, sU, sU, sU, sU]) (st' := [(.int 46), (.int c1)]) rfl rfl (pc' := 79) rfl ?_
      by_cases hc121 : c1 = (46 : Int32)
      · refine oIcF W89 (cd := .ne) (o := 5) (by decide +kernel) (XT.ii_ne_f hc121) (pc' := 82) rfl ?_
        refine oGo W89 [.iconst 1] (by decide +kernel) (ls' := #[sI i0, sI i1, sI i2, sI i3, sI i4, sI 1, sI 2, sI c0, sI c1, sI c2, sI c3, sU, sU, sU, sU, sU, sU]) (st' := [(.int 1)]) rfl rfl (pc' := 83) rfl ?_
        exact oRetN (by simp) W89 rfl (by decide +kernel) (lb rfl) (lb rfl) (fun vm' hv => rfl)
      refine oIcT W89 (cd := .ne) (o := 5) (by decide +kernel) (XT.ii_ne_t hc121) (pc' := 84) (by decide) (by decide) ?_
      refine oGo W89 [.iload 6, .iload 7, .iload 8, .iload 9, .iload 10] (by decide +kernel) (ls' := #[sI i0, sI i1, sI i2, sI i3, sI i4, sI 1, sI 2, sI c0, sI c1, sI c2, sI c3, sU, sU, sU, sU, sU, sU]) (st' := [(.int c3), (.int c2), (.int c1), (.int c0), (.int 2)]) rfl rfl (pc' := 94) rfl ?_
      obtain ⟨v122, T122, L122, h122, vm122, W122, ⟨x, rfl, F122, E122⟩, C122, st122⟩ := oCallS W89 (idx := 19) (pc := 94) (ls := #[sI i0, sI i1, sI i2, sI i3, sI i4, sI 1, sI 2, sI c0, sI c1, sI c2, sI c3, sU, sU, sU, sU, sU, sU]) (st := []) (argsL := [(.int 2), (.int c0), (.int c1), (.int c2), (.int c3)]) (c_dr2 K (c0 := c0) (c1 := c1) (c2 := c2) (c3 := c3) qa0 qa1 qa2 qa3) (fun x hx => nomatch hx) (wK K 5 rfl) (wK K 6 rfl) (wK K 2 rfl) (wK K 7 rfl) (by decide) (na := 5) rfl (by decide +kernel) rfl (stk := [(.int c3), (.int c2), (.int c1), (.int c0), (.int 2)]) rfl (by decide +kernel) (V := 0) (lb rfl) (lb rfl) (lb rfl) (lb rfl) (lb rfl)
      refine oLift st122 ?_
      show OG _ _ _ _ _ _ _ _ _ _ _ (mkF m 97 #[sI i0, sI i1, sI i2, sI i3, sI i4, sI 1, sI 2, sI c0, sI c1, sI c2, sI c3, sU, sU, sU, sU, sU, sU] [(.ref x)])
      refine oGo W122 [.astore 11, .iload 5] (by decide +kernel) (ls' := #[sI i0, sI i1, sI i2, sI i3, sI i4, sI 1, sI 2, sI c0, sI c1, sI c2, sI c3, sR x, sU, sU, sU, sU, sU]) (st' := [(.int 1)]) rfl rfl (pc' := 101) rfl ?_
      refine oIfF W122 (cd := .eq) (o := 9) (by decide +kernel) (XT.i0_eq_f (by decide)) (pc' := 104) rfl ?_
      obtain ⟨T123, W123, st123⟩ := oGetS W122 (pc := 104) (ls := #[sI i0, sI i1, sI i2, sI i3, sI i4, sI 1, sI 2, sI c0, sI c1, sI c2, sI c3, sR x, sU, sU, sU, sU, sU]) (st := []) (wK K 239 rfl) Via.refl (Sr1.ext W122.ext) (by decide +kernel)
      refine oLift st123 ?_
      refine oGo W123 [.goto 6, .astore 12] (by decide +kernel) (ls' := #[sI i0, sI i1, sI i2, sI i3, sI i4, sI 1, sI 2, sI c0, sI c1, sI c2, sI c3, sR x, sR r1, sU, sU, sU, sU]) (st' := []) rfl rfl (pc' := 115) rfl ?_
      obtain ⟨T124, h124, lo, W124, g124, E124, A124, D124, S124, C124, st124⟩ := oNew W123 (pc := 115) (ls := #[sI i0, sI i1, sI i2, sI i3, sI i4, sI 1, sI 2, sI c0, sI c1, sI c2, sI c3, sR x, sR r1, sU, sU, sU, sU]) (st := []) (wK K 41 rfl) (wK K 42 rfl) (wK K 43 rfl) (by decide +kernel) (lb rfl) (lb rfl)
      refine oLift st124 ?_
      refine oGo W124 [.dup, .aload 12] (by decide +kernel) (ls' := #[sI i0, sI i1, sI i2, sI i3, sI i4, sI 1, sI 2, sI c0, sI c1, sI c2, sI c3, sR x, sR r1, sU, sU, sU, sU]) (st' := [(.ref r1), (.ref lo), (.ref lo)]) rfl rfl (pc' := 121) rfl ?_
      obtain ⟨T125, h125, nm, W125, g125, E125, A125, D125, S125, C125, st125⟩ := oNew W124 (pc := 121) (ls := #[sI i0, sI i1, sI i2, sI i3, sI i4, sI 1, sI 2, sI c0, sI c1, sI c2, sI c3, sR x, sR r1, sU, sU, sU, sU]) (st := [(.ref r1), (.ref lo), (.ref lo)]) (wK K 44 rfl) (wK K 45 rfl) (wK K 46 rfl) (by decide +kernel) (lb rfl) (lb rfl)
      refine oLift st125 ?_
      refine oGo W125 [.dup, .aload 11] (by decide +kernel) (ls' := #[sI i0, sI i1, sI i2, sI i3, sI i4, sI 1, sI 2, sI c0, sI c1, sI c2, sI c3, sR x, sR r1, sU, sU, sU, sU]) (st' := [(.ref x), (.ref nm), (.ref nm), (.ref r1), (.ref lo), (.ref lo)]) rfl rfl (pc' := 127) rfl ?_
      have hnl : nm ≠ lo := Nat.ne_of_gt (Nat.lt_of_lt_of_le A124.lt g125)
      obtain ⟨v126, T126, L126, h126, vm126, W126, ⟨rfl, K126, X126, F126⟩, C126, st126⟩ := oCallN W125 (idx := 36) (pc := 127) (ls := #[sI i0, sI i1, sI i2, sI i3, sI i4, sI 1, sI 2, sI c0, sI c1, sI c2, sI c3, sR x, sR r1, sU, sU, sU, sU]) (st := [(.ref nm), (.ref r1), (.ref lo), (.ref lo)]) (a := nm) (argsL := [(.ref x)]) (c_cn2 K ((F122.ext E124).ext E125) qa0 qa1 (fun q => hc121 q.2) (Nat.le_trans W124.ext.1 g125) A125 (D125 (Or.inr (wK K 115 rfl)) (ty := (.object "java/lang/String")) (by decide))) (fun x hx => nomatch hx) rfl (wK K 47 rfl) (wK K 48 rfl) (wK K 46 rfl) (wK K 49 rfl) (by decide) (na := 1) rfl (by decide +kernel) rfl (stk := [(.ref x), (.ref nm), (.ref nm), (.ref r1), (.ref lo), (.ref lo)]) rfl (by decide +kernel) (V := 4) (lb rfl) (lb rfl) (lb rfl) (lb rfl) (lb rfl)
      refine oLift st126 ?_
      show OG _ _ _ _ _ _ _ _ _ _ _ (mkF m 130 #[sI i0, sI i1, sI i2, sI i3, sI i4, sI 1, sI 2, sI c0, sI c1, sI c2, sI c3, sR x, sR r1, sU, sU, sU, sU] [(.ref nm), (.ref r1), (.ref lo), (.ref lo)])
      obtain ⟨v127, T127, L127, h127, vm127, W127, ⟨rfl, K127, X127, F127, G127⟩, C127, st127⟩ := oCallN W126 (idx := 39) (pc := 130) (ls := #[sI i0, sI i1, sI i2, sI i3, sI i4, sI 1, sI 2, sI c0, sI c1, sI c2, sI c3, sR x, sR r1, sU, sU, sU, sU]) (st := [(.ref lo)]) (a := lo) (argsL := [(.ref r1), (.ref nm)]) (c_cli K (Nat.le_trans W122.ext.1 g124) (A124.ext (exK E125 K126 (fun y hy => by cases List.mem_singleton.mp hy; exact g125))) ((D124 (Or.inr (wK K 121 rfl)) (ty := (.object "com/example/gentle_hub/gentlehub/server/ChannelLocation$Role")) (by decide)).ext (exK E125 K126 (fun y hy => by cases List.mem_singleton.mp hy; exact g125))) ((D124 (Or.inr (wK K 123 rfl)) (ty := (.object "com/example/gentle_hub/gentlehub/core/ChannelName")) (by decide)).ext (exK E125 K126 (fun y hy => by cases List.mem_singleton.mp hy; exact g125)))) (fun x hx => nomatch hx) rfl (wK K 116 rfl) (wK K 117 rfl) (wK K 43 rfl) (wK K 118 rfl) (by decide) (na := 2) rfl (by decide +kernel) rfl (stk := [(.ref nm), (.ref r1), (.ref lo), (.ref lo)]) rfl (by decide +kernel) (V := 1) (lb rfl) (lb rfl) (lb rfl) (lb rfl) (lb rfl)
      refine oLift st127 ?_
      show OG _ _ _ _ _ _ _ _ _ _ _ (mkF m 133 #[sI i0, sI i1, sI i2, sI i3, sI i4, sI 1, sI 2, sI c0, sI c1, sI c2, sI c3, sR x, sR r1, sU, sU, sU, sU] [(.ref lo)])
      refine oGo W127 [.astore 13, .aload 13] (by decide +kernel) (ls' := #[sI i0, sI i1, sI i2, sI i3, sI i4, sI 1, sI 2, sI c0, sI c1, sI c2, sI c3, sR x, sR r1, sR lo, sU, sU, sU]) (st' := [(.ref lo)]) rfl rfl (pc' := 137) rfl ?_
      obtain ⟨v128, T128, L128, h128, vm128, W128, ⟨y, rfl, F128, E128⟩, C128, st128⟩ := oCallV W127 (idx := 42) (pc := 137) (ls := #[sI i0, sI i1, sI i2, sI i3, sI i4, sI 1, sI 2, sI c0, sI c1, sI c2, sI c3, sR x, sR r1, sR lo, sU, sU, sU]) (st := []) (argsL := []) X127 (c_path K F127 G127 (Fr1.ext W127.ext) (Tr1.ext W127.ext) (X126.keep K127) (F126.keep K127 (ninS hnl nin0)) (F122.ext (exK (exT E124 (exK E125 K126 (fun y hy => by cases List.mem_singleton.mp hy; exact g125))) K127 (fun y hy => by cases List.mem_singleton.mp hy; exact g124))) (lb rfl)) (fun x hx => nomatch hx) (wK K 124 rfl) (wK K 125 rfl) (notFace_of_selects (args := #[]) (mvT W127.warm (wK K 127 rfl))) (wK K 127 rfl) (wK K 126 rfl) (wK K 43 rfl) (wK K 128 rfl) (by decide) (na := 0) rfl (by decide +kernel) rfl (stk := [(.ref lo)]) rfl (by decide +kernel) (V := 0) (lb rfl) (lb rfl) (lb rfl) (lb rfl) (lb rfl)
      refine oLift st128 ?_
      show OG _ _ _ _ _ _ _ _ _ _ _ (mkF m 140 #[sI i0, sI i1, sI i2, sI i3, sI i4, sI 1, sI 2, sI c0, sI c1, sI c2, sI c3, sR x, sR r1, sR lo, sU, sU, sU] [(.ref y)])
      refine oGo W128 [.astore 14, .aload 14] (by decide +kernel) (ls' := #[sI i0, sI i1, sI i2, sI i3, sI i4, sI 1, sI 2, sI c0, sI c1, sI c2, sI c3, sR x, sR r1, sR lo, sR y, sU, sU]) (st' := [(.ref y)]) rfl rfl (pc' := 144) rfl ?_
      refine oNuF W128 (o := 15) (by decide +kernel) (pc' := 147) rfl ?_
      refine oGo W128 [.aload 14] (by decide +kernel) (ls' := #[sI i0, sI i1, sI i2, sI i3, sI i4, sI 1, sI 2, sI c0, sI c1, sI c2, sI c3, sR x, sR r1, sR lo, sR y, sU, sU]) (st' := [(.ref y)]) rfl rfl (pc' := 149) rfl ?_
      obtain ⟨v129, T129, L129, h129, vm129, W129, ⟨rfl, e129⟩, C129, st129⟩ := oCallV W128 (idx := 46) (pc := 149) (ls := #[sI i0, sI i1, sI i2, sI i3, sI i4, sI 1, sI 2, sI c0, sI c1, sI c2, sI c3, sR x, sR r1, sR lo, sR y, sU, sU]) (st := []) (argsL := []) F128.exa (c_len K F128) (fun x hx => nomatch hx) (wK K 237 rfl) (wK K 69 rfl) (notFace_of_selects (args := #[]) (mvT W128.warm (wK K 71 rfl))) (wK K 71 rfl) (wK K 70 rfl) (wK K 10 rfl) (wK K 72 rfl) (by decide) (na := 0) rfl (by decide +kernel) rfl (stk := [(.ref y)]) rfl (by decide +kernel) (V := 0) (lb rfl) (lb rfl) (lb rfl) (lb rfl) (lb rfl)
      refine oLift st129 ?_
      rw [e129] at W129 C129
      show OG _ _ _ _ _ _ _ _ _ _ _ (mkF m 152 #[sI i0, sI i1, sI i2, sI i3, sI i4, sI 1, sI 2, sI c0, sI c1, sI c2, sI c3, sR x, sR r1, sR lo, sR y, sU, sU] [(.int 7)])
      refine oGo W129 [.iconst 5, .iload 6, .iadd] (by decide +kernel) (ls' := #[sI i0, sI i1, sI i2, sI i3, sI i4, sI 1, sI 2, sI c0, sI c1, sI c2, sI c3, sR x, sR r1, sR lo, sR y, sU, sU]) (st' := [(.int ((5 : Int32) + (2 : Int32))), (.int 7)]) rfl rfl (pc' := 156) rfl ?_
      refine oIcT W129 (cd := .eq) (o := 5) (by decide +kernel) (XT.ii_eq_t (by decide)) (pc' := 161) (by decide) (by decide) ?_
      refine oGo W129 [.iload 5] (by decide +kernel) (ls' := #[sI i0, sI i1, sI i2, sI i3, sI i4, sI 1, sI 2, sI c0, sI c1, sI c2, sI c3, sR x, sR r1, sR lo, sR y, sU, sU]) (st' := [(.int 1)]) rfl rfl (pc' := 163) rfl ?_
      refine oIfF W129 (cd := .eq) (o := 8) (by decide +kernel) (XT.i0_eq_f (by decide)) (pc' := 166) rfl ?_
      refine oGo W129 [.bipush 112, .goto 5, .istore 15, .aload 14, .iconst 0] (by decide +kernel) (ls' := #[sI i0, sI i1, sI i2, sI i3, sI i4, sI 1, sI 2, sI c0, sI c1, sI c2, sI c3, sR x, sR r1, sR lo, sR y, sI 112, sU]) (st' := [(.int 0), (.ref y)]) rfl rfl (pc' := 178) rfl ?_
      obtain ⟨v130, T130, L130, h130, vm130, W130, ⟨rfl, e130⟩, C130, st130⟩ := oCallV W129 (idx := 50) (pc := 178) (ls := #[sI i0, sI i1, sI i2, sI i3, sI i4, sI 1, sI 2, sI c0, sI c1, sI c2, sI c3, sR x, sR r1, sR lo, sR y, sI 112, sU]) (st := []) (argsL := [(.int 0)]) F128.exa (c_chr K K.2.2.2.1 F128 (lb rfl) (i := 0) (by decide) (c := (47 : Int32)) rfl) (fun x hx => nomatch hx) (wK K 238 rfl) (wK K 79 rfl) (notFace_of_selects (args := #[]) (mvT W129.warm (wK K 81 rfl))) (wK K 81 rfl) (wK K 80 rfl) (wK K 10 rfl) (wK K 82 rfl) (by decide) (na := 1) rfl (by decide +kernel) rfl (stk := [(.int 0), (.ref y)]) rfl (by decide +kernel) (V := 0) (lb rfl) (lb rfl) (lb rfl) (lb rfl) (lb rfl)
      refine oLift st130 ?_
      rw [e130] at W130 C130
      show OG _ _ _ _ _ _ _ _ _ _ _ (mkF m 181 #[sI i0, sI i1, sI i2, sI i3, sI i4, sI 1, sI 2, sI c0, sI c1, sI c2, sI c3, sR x, sR r1, sR lo, sR y, sI 112, sU] [(.int 47)])
      refine oGo W130 [.bipush 47] (by decide +kernel) (ls' := #[sI i0, sI i1, sI i2, sI i3, sI i4, sI 1, sI 2, sI c0, sI c1, sI c2, sI c3, sR x, sR r1, sR lo, sR y, sI 112, sU]) (st' := [(.int 47), (.int 47)]) rfl rfl (pc' := 183) rfl ?_
      refine oIcF W130 (cd := .ne) (o := 51) (by decide +kernel) (XT.ii_ne_f rfl) (pc' := 186) rfl ?_
      refine oGo W130 [.aload 14, .iconst 1] (by decide +kernel) (ls' := #[sI i0, sI i1, sI i2, sI i3, sI i4, sI 1, sI 2, sI c0, sI c1, sI c2, sI c3, sR x, sR r1, sR lo, sR y, sI 112, sU]) (st' := [(.int 1), (.ref y)]) rfl rfl (pc' := 189) rfl ?_
      obtain ⟨v131, T131, L131, h131, vm131, W131, ⟨rfl, e131⟩, C131, st131⟩ := oCallV W130 (idx := 50) (pc := 189) (ls := #[sI i0, sI i1, sI i2, sI i3, sI i4, sI 1, sI 2, sI c0, sI c1, sI c2, sI c3, sR x, sR r1, sR lo, sR y, sI 112, sU]) (st := []) (argsL := [(.int 1)]) F128.exa (c_chr K K.2.2.2.1 F128 (lb rfl) (i := 1) (by decide) (c := (112 : Int32)) rfl) (fun x hx => nomatch hx) (wK K 238 rfl) (wK K 79 rfl) (notFace_of_selects (args := #[]) (mvT W130.warm (wK K 81 rfl))) (wK K 81 rfl) (wK K 80 rfl) (wK K 10 rfl) (wK K 82 rfl) (by decide) (na := 1) rfl (by decide +kernel) rfl (stk := [(.int 1), (.ref y)]) rfl (by decide +kernel) (V := 0) (lb rfl) (lb rfl) (lb rfl) (lb rfl) (lb rfl)
      refine oLift st131 ?_
      rw [e131] at W131 C131
      show OG _ _ _ _ _ _ _ _ _ _ _ (mkF m 192 #[sI i0, sI i1, sI i2, sI i3, sI i4, sI 1, sI 2, sI c0, sI c1, sI c2, sI c3, sR x, sR r1, sR lo, sR y, sI 112, sU] [(.int 112)])
      refine oGo W131 [.iload 15] (by decide +kernel) (ls' := #[sI i0, sI i1, sI i2, sI i3, sI i4, sI 1, sI 2, sI c0, sI c1, sI c2, sI c3, sR x, sR r1, sR lo, sR y, sI 112, sU]) (st' := [(.int 112), (.int 112)]) rfl rfl (pc' := 194) rfl ?_
      refine oIcF W131 (cd := .ne) (o := 40) (by decide +kernel) (XT.ii_ne_f rfl) (pc' := 197) rfl ?_
      refine oGo W131 [.aload 14, .iconst 2] (by decide +kernel) (ls' := #[sI i0, sI i1, sI i2, sI i3, sI i4, sI 1, sI 2, sI c0, sI c1, sI c2, sI c3, sR x, sR r1, sR lo, sR y, sI 112, sU]) (st' := [(.int 2), (.ref y)]) rfl rfl (pc' := 200) rfl ?_
      obtain ⟨v132, T132, L132, h132, vm132, W132, ⟨rfl, e132⟩, C132, st132⟩ := oCallV W131 (idx := 50) (pc := 200) (ls := #[sI i0, sI i1, sI i2, sI i3, sI i4, sI 1, sI 2, sI c0, sI c1, sI c2, sI c3, sR x, sR r1, sR lo, sR y, sI 112, sU]) (st := []) (argsL := [(.int 2)]) F128.exa (c_chr K K.2.2.2.1 F128 (lb rfl) (i := 2) (by decide) (c := (117 : Int32)) rfl) (fun x hx => nomatch hx) (wK K 238 rfl) (wK K 79 rfl) (notFace_of_selects (args := #[]) (mvT W131.warm (wK K 81 rfl))) (wK K 81 rfl) (wK K 80 rfl) (wK K 10 rfl) (wK K 82 rfl) (by decide) (na := 1) rfl (by decide +kernel) rfl (stk := [(.int 2), (.ref y)]) rfl (by decide +kernel) (V := 0) (lb rfl) (lb rfl) (lb rfl) (lb rfl) (lb rfl)
      refine oLift st132 ?_
      rw [e132] at W132 C132
      show OG _ _ _ _ _ _ _ _ _ _ _ (mkF m 203 #[sI i0, sI i1, sI i2, sI i3, sI i4, sI 1, sI 2, sI c0, sI c1, sI c2, sI c3, sR x, sR r1, sR lo, sR y, sI 112, sU] [(.int 117)])
      refine oGo W132 [.bipush 117] (by decide +kernel) (ls' := #[sI i0, sI i1, sI i2, sI i3, sI i4, sI 1, sI 2, sI c0, sI c1, sI c2, sI c3, sR x, sR r1, sR lo, sR y, sI 112, sU]) (st' := [(.int 117), (.int 117)]) rfl rfl (pc' := 205) rfl ?_
      refine oIcF W132 (cd := .ne) (o := 29) (by decide +kernel) (XT.ii_ne_f rfl) (pc' := 208) rfl ?_
      refine oGo W132 [.aload 14, .iconst 3] (by decide +kernel) (ls' := #[sI i0, sI i1, sI i2, sI i3, sI i4, sI 1, sI 2, sI c0, sI c1, sI c2, sI c3, sR x, sR r1, sR lo, sR y, sI 112, sU]) (st' := [(.int 3), (.ref y)]) rfl rfl (pc' := 211) rfl ?_
      obtain ⟨v133, T133, L133, h133, vm133, W133, ⟨rfl, e133⟩, C133, st133⟩ := oCallV W132 (idx := 50) (pc := 211) (ls := #[sI i0, sI i1, sI i2, sI i3, sI i4, sI 1, sI 2, sI c0, sI c1, sI c2, sI c3, sR x, sR r1, sR lo, sR y, sI 112, sU]) (st := []) (argsL := [(.int 3)]) F128.exa (c_chr K K.2.2.2.1 F128 (lb rfl) (i := 3) (by decide) (c := (98 : Int32)) rfl) (fun x hx => nomatch hx) (wK K 238 rfl) (wK K 79 rfl) (notFace_of_selects (args := #[]) (mvT W132.warm (wK K 81 rfl))) (wK K 81 rfl) (wK K 80 rfl) (wK K 10 rfl) (wK K 82 rfl) (by decide) (na := 1) rfl (by decide +kernel) rfl (stk := [(.int 3), (.ref y)]) rfl (by decide +kernel) (V := 0) (lb rfl) (lb rfl) (lb rfl) (lb rfl) (lb rfl)
      refine oLift st133 ?_
      rw [e133] at W133 C133
      show OG _ _ _ _ _ _ _ _ _ _ _ (mkF m 214 #[sI i0, sI i1, sI i2, sI i3, sI i4, sI 1, sI 2, sI c0, sI c1, sI c2, sI c3, sR x, sR r1, sR lo, sR y, sI 112, sU] [(.int 98)])
      refine oGo W133 [.bipush 98] (by decide +kernel) (ls' := #[sI i0, sI i1, sI i2, sI i3, sI i4, sI 1, sI 2, sI c0, sI c1, sI c2, sI c3, sR x, sR r1, sR lo, sR y, sI 112, sU]) (st' := [(.int 98), (.int 98)]) rfl rfl (pc' := 216) rfl ?_
      refine oIcF W133 (cd := .ne) (o := 18) (by decide +kernel) (XT.ii_ne_f rfl) (pc' := 219) rfl ?_
      refine oGo W133 [.aload 14, .iconst 4] (by decide +kernel) (ls' := #[sI i0, sI i1, sI i2, sI i3, sI i4, sI 1, sI 2, sI c0, sI c1, sI c2, sI c3, sR x, sR r1, sR lo, sR y, sI 112, sU]) (st' := [(.int 4), (.ref y)]) rfl rfl (pc' := 222) rfl ?_
      obtain ⟨v134, T134, L134, h134, vm134, W134, ⟨rfl, e134⟩, C134, st134⟩ := oCallV W133 (idx := 50) (pc := 222) (ls := #[sI i0, sI i1, sI i2, sI i3, sI i4, sI 1, sI 2, sI c0, sI c1, sI c2, sI c3, sR x, sR r1, sR lo, sR y, sI 112, sU]) (st := []) (argsL := [(.int 4)]) F128.exa (c_chr K K.2.2.2.1 F128 (lb rfl) (i := 4) (by decide) (c := (47 : Int32)) rfl) (fun x hx => nomatch hx) (wK K 238 rfl) (wK K 79 rfl) (notFace_of_selects (args := #[]) (mvT W133.warm (wK K 81 rfl))) (wK K 81 rfl) (wK K 80 rfl) (wK K 10 rfl) (wK K 82 rfl) (by decide) (na := 1) rfl (by decide +kernel) rfl (stk := [(.int 4), (.ref y)]) rfl (by decide +kernel) (V := 0) (lb rfl) (lb rfl) (lb rfl) (lb rfl) (lb rfl)
      refine oLift st134 ?_
      rw [e134] at W134 C134
      show OG _ _ _ _ _ _ _ _ _ _ _ (mkF m 225 #[sI i0, sI i1, sI i2, sI i3, sI i4, sI 1, sI 2, sI c0, sI c1, sI c2, sI c3, sR x, sR r1, sR lo, sR y, sI 112, sU] [(.int 47)])
      refine oGo W134 [.bipush 47] (by decide +kernel) (ls' := #[sI i0, sI i1, sI i2, sI i3, sI i4, sI 1, sI 2, sI c0, sI c1, sI c2, sI c3, sR x, sR r1, sR lo, sR y, sI 112, sU]) (st' := [(.int 47), (.int 47)]) rfl rfl (pc' := 227) rfl ?_
      refine oIcF W134 (cd := .ne) (o := 7) (by decide +kernel) (XT.ii_ne_f rfl) (pc' := 230) rfl ?_
      refine oGo W134 [.iconst 1, .goto 4, .istore 16, .iload 16] (by decide +kernel) (ls' := #[sI i0, sI i1, sI i2, sI i3, sI i4, sI 1, sI 2, sI c0, sI c1, sI c2, sI c3, sR x, sR r1, sR lo, sR y, sI 112, sI 1]) (st' := [(.int 1)]) rfl rfl (pc' := 239) rfl ?_
      refine oIfF W134 (cd := .eq) (o := 18) (by decide +kernel) (XT.i0_eq_f (by decide)) (pc' := 242) rfl ?_
      refine oGo W134 [.aload 14, .iconst 5] (by decide +kernel) (ls' := #[sI i0, sI i1, sI i2, sI i3, sI i4, sI 1, sI 2, sI c0, sI c1, sI c2, sI c3, sR x, sR r1, sR lo, sR y, sI 112, sI 1]) (st' := [(.int 5), (.ref y)]) rfl rfl (pc' := 245) rfl ?_
      obtain ⟨v135, T135, L135, h135, vm135, W135, ⟨rfl, e135⟩, C135, st135⟩ := oCallV W134 (idx := 50) (pc := 245) (ls := #[sI i0, sI i1, sI i2, sI i3, sI i4, sI 1, sI 2, sI c0, sI c1, sI c2, sI c3, sR x, sR r1, sR lo, sR y, sI 112, sI 1]) (st := []) (argsL := [(.int 5)]) F128.exa (c_chr K K.2.2.2.1 F128 (lb rfl) (i := 5) (by decide) (c := c0) rfl) (fun x hx => nomatch hx) (wK K 238 rfl) (wK K 79 rfl) (notFace_of_selects (args := #[]) (mvT W134.warm (wK K 81 rfl))) (wK K 81 rfl) (wK K 80 rfl) (wK K 10 rfl) (wK K 82 rfl) (by decide) (na := 1) rfl (by decide +kernel) rfl (stk := [(.int 5), (.ref y)]) rfl (by decide +kernel) (V := 0) (lb rfl) (lb rfl) (lb rfl) (lb rfl) (lb rfl)
      refine oLift st135 ?_
      rw [e135] at W135 C135
      show OG _ _ _ _ _ _ _ _ _ _ _ (mkF m 248 #[sI i0, sI i1, sI i2, sI i3, sI i4, sI 1, sI 2, sI c0, sI c1, sI c2, sI c3, sR x, sR r1, sR lo, sR y, sI 112, sI 1] [(.int c0)])
      refine oGo W135 [.iload 7] (by decide +kernel) (ls' := #[sI i0, sI i1, sI i2, sI i3, sI i4, sI 1, sI 2, sI c0, sI c1, sI c2, sI c3, sR x, sR r1, sR lo, sR y, sI 112, sI 1]) (st' := [(.int c0), (.int c0)]) rfl rfl (pc' := 250) rfl ?_
      refine oIcF W135 (cd := .ne) (o := 7) (by decide +kernel) (XT.ii_ne_f rfl) (pc' := 253) rfl ?_
      refine oGo W135 [.iconst 1, .goto 4, .istore 16, .iload 6, .iconst 2] (by decide +kernel) (ls' := #[sI i0, sI i1, sI i2, sI i3, sI i4, sI 1, sI 2, sI c0, sI c1, sI c2, sI c3, sR x, sR r1, sR lo, sR y, sI 112, sI 1]) (st' := [(.int 2), (.int 2)]) rfl rfl (pc' := 263) rfl ?_
      refine oIcF W135 (cd := .lt) (o := 27) (by decide +kernel) (XT.ii_lt_f (by decide)) (pc' := 266) rfl ?_
      refine oGo W135 [.iload 16] (by decide +kernel) (ls' := #[sI i0, sI i1, sI i2, sI i3, sI i4, sI 1, sI 2, sI c0, sI c1, sI c2, sI c3, sR x, sR r1, sR lo, sR y, sI 112, sI 1]) (st' := [(.int 1)]) rfl rfl (pc' := 268) rfl ?_
      refine oIfF W135 (cd := .eq) (o := 19) (by decide +kernel) (XT.i0_eq_f (by decide)) (pc' := 271) rfl ?_
      refine oGo W135 [.aload 14, .bipush 6] (by decide +kernel) (ls' := #[sI i0, sI i1, sI i2, sI i3, sI i4, sI 1, sI 2, sI c0, sI c1, sI c2, sI c3, sR x, sR r1, sR lo, sR y, sI 112, sI 1]) (st' := [(.int 6), (.ref y)]) rfl rfl (pc' := 275) rfl ?_
      obtain ⟨v136, T136, L136, h136, vm136, W136, ⟨rfl, e136⟩, C136, st136⟩ := oCallV W135 (idx := 50) (pc := 275) (ls := #[sI i0, sI i1, sI i2, sI i3, sI i4, sI 1, sI 2, sI c0, sI c1, sI c2, sI c3, sR x, sR r1, sR lo, sR y, sI 112, sI 1]) (st := []) (argsL := [(.int 6)]) F128.exa (c_chr K K.2.2.2.1 F128 (lb rfl) (i := 6) (by decide) (c := c1) rfl) (fun x hx => nomatch hx) (wK K 238 rfl) (wK K 79 rfl) (notFace_of_selects (args := #[]) (mvT W135.warm (wK K 81 rfl))) (wK K 81 rfl) (wK K 80 rfl) (wK K 10 rfl) (wK K 82 rfl) (by decide) (na := 1) rfl (by decide +kernel) rfl (stk := [(.int 6), (.ref y)]) rfl (by decide +kernel) (V := 0) (lb rfl) (lb rfl) (lb rfl) (lb rfl) (lb rfl)
      refine oLift st136 ?_
      rw [e136] at W136 C136
      show OG _ _ _ _ _ _ _ _ _ _ _ (mkF m 278 #[sI i0, sI i1, sI i2, sI i3, sI i4, sI 1, sI 2, sI c0, sI c1, sI c2, sI c3, sR x, sR r1, sR lo, sR y, sI 112, sI 1] [(.int c1)])
      refine oGo W136 [.iload 8] (by decide +kernel) (ls' := #[sI i0, sI i1, sI i2, sI i3, sI i4, sI 1, sI 2, sI c0, sI c1, sI c2, sI c3, sR x, sR r1, sR lo, sR y, sI 112, sI 1]) (st' := [(.int c1), (.int c1)]) rfl rfl (pc' := 280) rfl ?_
      refine oIcF W136 (cd := .ne) (o := 7) (by decide +kernel) (XT.ii_ne_f rfl) (pc' := 283) rfl ?_
      refine oGo W136 [.iconst 1, .goto 4, .istore 16, .iload 6, .iconst 3] (by decide +kernel) (ls' := #[sI i0, sI i1, sI i2, sI i3, sI i4, sI 1, sI 2, sI c0, sI c1, sI c2, sI c3, sR x, sR r1, sR lo, sR y, sI 112, sI 1]) (st' := [(.int 3), (.int 2)]) rfl rfl (pc' := 293) rfl ?_
      refine oIcT W136 (cd := .lt) (o := 27) (by decide +kernel) (XT.ii_lt_t (by decide)) (pc' := 320) (by decide) (by decide) ?_
      refine oGo W136 [.iload 6, .iconst 4] (by decide +kernel) (ls' := #[sI i0, sI i1, sI i2, sI i3, sI i4, sI 1, sI 2, sI c0, sI c1, sI c2, sI c3, sR x, sR r1, sR lo, sR y, sI 112, sI 1]) (st' := [(.int 4), (.int 2)]) rfl rfl (pc' := 323) rfl ?_
      refine oIcT W136 (cd := .lt) (o := 27) (by decide +kernel) (XT.ii_lt_t (by decide)) (pc' := 350) (by decide) (by decide) ?_
      refine oGo W136 [.iload 16] (by decide +kernel) (ls' := #[sI i0, sI i1, sI i2, sI i3, sI i4, sI 1, sI 2, sI c0, sI c1, sI c2, sI c3, sR x, sR r1, sR lo, sR y, sI 112, sI 1]) (st' := [(.int 1)]) rfl rfl (pc' := 352) rfl ?_
      exact oRetN (by simp) W136 rfl (by decide +kernel) (lb rfl) (lb rfl) (fun vm' hv => rfl)
    · rw [hL]
      refine oGo W89 [.iload 6, .iconst 1] (by decide +kernel) (ls' := #[sI i0, sI i1, sI i2, sI i3, sI i4, sI 1, sI 3, sI c0, sI c1, sI c2, sI c3, sU, sU, sU, sU, sU, sU]) (st' := [(.int 1), (.int 3)]) rfl rfl (pc' := 50) rfl ?_
      refine oIcT W89 (cd := .ne) (o := 12) (by decide +kernel) (XT.ii_ne_t (by decide)) (pc' := 62) (by decide) (by decide) ?_
      refine oGo W89 [.iload 6, .iconst 2] (by decide +kernel) (ls' := #[sI i0, sI i1, sI i2, sI i3, sI i4, sI 1, sI 3, sI c0, sI c1, sI c2, sI c3, sU, sU, sU, sU, sU, sU]) (st' := [(.int 2), (.int 3)]) rfl rfl (pc' := 65) rfl ?_
      refine oIcT W89 (cd := .ne) (o := 19) (by decide +kernel) (XT.ii_ne_t (by decide)) (pc' := 84) (by decide) (by decide) ?_
      refine oGo W89 [.iload 6, .iload 7, .iload 8, .iload 9, .iload 10] (by decide +kernel) (ls' := #[sI i0, sI i1, sI i2, sI i3, sI i4, sI 1, sI 3, sI c0, sI c1, sI c2, sI c3, sU, sU, sU, sU, sU, sU]) (st' := [(.int c3), (.int c2), (.int c1), (.int c0), (.int 3)]) rfl rfl (pc' := 94) rfl ?_
      obtain ⟨v137, T137, L137, h137, vm137, W137, ⟨x, rfl, F137, E137⟩, C137, st137⟩ := oCallS W89 (idx := 19) (pc := 94) (ls := #[sI i0, sI i1, sI i2, sI i3, sI i4, sI 1, sI 3, sI c0, sI c1, sI c2, sI c3, sU, sU, sU, sU, sU, sU]) (st := []) (argsL := [(.int 3), (.int c0), (.int c1), (.int c2), (.int c3)]) (c_dr3 K (c0 := c0) (c1 := c1) (c2 := c2) (c3 := c3) qa0 qa1 qa2 qa3) (fun x hx => nomatch hx) (wK K 5 rfl) (wK K 6 rfl) (wK K 2 rfl) (wK K 7 rfl) (by decide) (na := 5) rfl (by decide +kernel) rfl (stk := [(.int c3), (.int c2), (.int c1), (.int c0), (.int 3)]) rfl (by decide +kernel) (V := 0) (lb rfl) (lb rfl) (lb rfl) (lb rfl) (lb rfl)
      refine oLift st137 ?_
      show OG _ _ _ _ _ _ _ _ _ _ _ (mkF m 97 #[sI i0, sI i1, sI i2, sI i3, sI i4, sI 1, sI 3, sI c0, sI c1, sI c2, sI c3, sU, sU, sU, sU, sU, sU] [(.ref x)])
      refine oGo W137 [.astore 11, .iload 5] (by decide +kernel) (ls' := #[sI i0, sI i1, sI i2, sI i3, sI i4, sI 1, sI 3, sI c0, sI c1, sI c2, sI c3, sR x, sU, sU, sU, sU, sU]) (st' := [(.int 1)]) rfl rfl (pc' := 101) rfl ?_
      refine oIfF W137 (cd := .eq) (o := 9) (by decide +kernel) (XT.i0_eq_f (by decide)) (pc' := 104) rfl ?_
      obtain ⟨T138, W138, st138⟩ := oGetS W137 (pc := 104) (ls := #[sI i0, sI i1, sI i2, sI i3, sI i4, sI 1, sI 3, sI c0, sI c1, sI c2, sI c3, sR x, sU, sU, sU, sU, sU]) (st := []) (wK K 239 rfl) Via.refl (Sr1.ext W137.ext) (by decide +kernel)
      refine oLift st138 ?_
      refine oGo W138 [.goto 6, .astore 12] (by decide +kernel) (ls' := #[sI i0, sI i1, sI i2, sI i3, sI i4, sI 1, sI 3, sI c0, sI c1, sI c2, sI c3, sR x, sR r1, sU, sU, sU, sU]) (st' := []) rfl rfl (pc' := 115) rfl ?_
      obtain ⟨T139, h139, lo, W139, g139, E139, A139, D139, S139, C139, st139⟩ := oNew W138 (pc := 115) (ls := #[sI i0, sI i1, sI i2, sI i3, sI i4, sI 1, sI 3, sI c0, sI c1, sI c2, sI c3, sR x, sR r1, sU, sU, sU, sU]) (st := []) (wK K 41 rfl) (wK K 42 rfl) (wK K 43 rfl) (by decide +kernel) (lb rfl) (lb rfl)
      refine oLift st139 ?_
      refine oGo W139 [.dup, .aload 12] (by decide +kernel) (ls' := #[sI i0, sI i1, sI i2, sI i3, sI i4, sI 1, sI 3, sI c0, sI c1, sI c2, sI c3, sR x, sR r1, sU, sU, sU, sU]) (st' := [(.ref r1), (.ref lo), (.ref lo)]) rfl rfl (pc' := 121) rfl ?_
      obtain ⟨T140, h140, nm, W140, g140, E140, A140, D140, S140, C140, st140⟩ := oNew W139 (pc := 121) (ls := #[sI i0, sI i1, sI i2, sI i3, sI i4, sI 1, sI 3, sI c0, sI c1, sI c2, sI c3, sR x, sR r1, sU, sU, sU, sU]) (st := [(.ref r1), (.ref lo), (.ref lo)]) (wK K 44 rfl) (wK K 45 rfl) (wK K 46 rfl) (by decide +kernel) (lb rfl) (lb rfl)
      refine oLift st140 ?_
      refine oGo W140 [.dup, .aload 11] (by decide +kernel) (ls' := #[sI i0, sI i1, sI i2, sI i3, sI i4, sI 1, sI 3, sI c0, sI c1, sI c2, sI c3, sR x, sR r1, sU, sU, sU, sU]) (st' := [(.ref x), (.ref nm), (.ref nm), (.ref r1), (.ref lo), (.ref lo)]) rfl rfl (pc' := 127) rfl ?_
      have hnl : nm ≠ lo := Nat.ne_of_gt (Nat.lt_of_lt_of_le A139.lt g140)
      obtain ⟨v141, T141, L141, h141, vm141, W141, ⟨rfl, K141, X141, F141⟩, C141, st141⟩ := oCallN W140 (idx := 36) (pc := 127) (ls := #[sI i0, sI i1, sI i2, sI i3, sI i4, sI 1, sI 3, sI c0, sI c1, sI c2, sI c3, sR x, sR r1, sU, sU, sU, sU]) (st := [(.ref nm), (.ref r1), (.ref lo), (.ref lo)]) (a := nm) (argsL := [(.ref x)]) (c_cn3 K ((F137.ext E139).ext E140) qa0 qa1 qa2 (Nat.le_trans W139.ext.1 g140) A140 (D140 (Or.inr (wK K 115 rfl)) (ty := (.object "java/lang/String")) (by decide))) (fun x hx => nomatch hx) rfl (wK K 47 rfl) (wK K 48 rfl) (wK K 46 rfl) (wK K 49 rfl) (by decide) (na := 1) rfl (by decide +kernel) rfl (stk := [(.ref x), (.ref nm), (.ref nm), (.ref r1), (.ref lo), (.ref lo)]) rfl (by decide +kernel) (V := 4) (lb rfl) (lb rfl) (lb rfl) (lb rfl) (lb rfl)
      refine oLift st141 ?_
      show OG _ _ _ _ _ _ _ _ _ _ _ (mkF m 130 #[sI i0, sI i1, sI i2, sI i3, sI i4, sI 1, sI 3, sI c0, sI c1, sI c2, sI c3, sR x, sR r1, sU, sU, sU, sU] [(.ref nm), (.ref r1), (.ref lo), (.ref lo)])
      obtain ⟨v142, T142, L142, h142, vm142, W142, ⟨rfl, K142, X142, F142, G142⟩, C142, st142⟩ := oCallN W141 (idx := 39) (pc := 130) (ls := #[sI i0, sI i1, sI i2, sI i3, sI i4, sI 1, sI 3, sI c0, sI c1, sI c2, sI c3, sR x, sR r1, sU, sU, sU, sU]) (st := [(.ref lo)]) (a := lo) (argsL := [(.ref r1), (.ref nm)]) (c_cli K (Nat.le_trans W137.ext.1 g139) (A139.ext (exK E140 K141 (fun y hy => by cases List.mem_singleton.mp hy; exact g140))) ((D139 (Or.inr (wK K 121 rfl)) (ty := (.object "com/example/gentle_hub/gentlehub/server/ChannelLocation$Role")) (by decide)).ext (exK E140 K141 (fun y hy => by cases List.mem_singleton.mp hy; exact g140))) ((D139 (Or.inr (wK K 123 rfl)) (ty := (.object "com/example/gentle_hub/gentlehub/core/ChannelName")) (by decide)).ext (exK E140 K141 (fun y hy => by cases List.mem_singleton.mp hy; exact g140)))) (fun x hx => nomatch hx) rfl (wK K 116 rfl) (wK K 117 rfl) (wK K 43 rfl) (wK K 118 rfl) (by decide) (na := 2) rfl (by decide +kernel) rfl (stk := [(.ref nm), (.ref r1), (.ref lo), (.ref lo)]) rfl (by decide +kernel) (V := 1) (lb rfl) (lb rfl) (lb rfl) (lb rfl) (lb rfl)
      refine oLift st142 ?_
      show OG _ _ _ _ _ _ _ _ _ _ _ (mkF m 133 #[sI i0, sI i1, sI i2, sI i3, sI i4, sI 1, sI 3, sI c0, sI c1, sI c2, sI c3, sR x, sR r1, sU, sU, sU, sU] [(.ref lo)])
      refine oGo W142 [.astore 13, .aload 13] (by decide +kernel) (ls' := #[sI i0, sI i1, sI i2, sI i3, sI i4, sI 1, sI 3, sI c0, sI c1, sI c2, sI c3, sR x, sR r1, sR lo, sU, sU, sU]) (st' := [(.ref lo)]) rfl rfl (pc' := 137) rfl ?_
      obtain ⟨v143, T143, L143, h143, vm143, W143, ⟨y, rfl, F143, E143⟩, C143, st143⟩ := oCallV W142 (idx := 42) (pc := 137) (ls := #[sI i0, sI i1, sI i2, sI i3, sI i4, sI 1, sI 3, sI c0, sI c1, sI c2, sI c3, sR x, sR r1, sR lo, sU, sU, sU]) (st := []) (argsL := []) X142 (c_path K F142 G142 (Fr1.ext W142.ext) (Tr1.ext W142.ext) (X141.keep K142) (F141.keep K142 (ninS hnl nin0)) (F137.ext (exK (exT E139 (exK E140 K141 (fun y hy => by cases List.mem_singleton.mp hy; exact g140))) K142 (fun y hy => by cases List.mem_singleton.mp hy; exact g139))) (lb rfl)) (fun x hx => nomatch hx) (wK K 124 rfl) (wK K 125 rfl) (notFace_of_selects (args := #[]) (mvT W142.warm (wK K 127 rfl))) (wK K 127 rfl) (wK K 126 rfl) (wK K 43 rfl) (wK K 128 rfl) (by decide) (na := 0) rfl (by decide +kernel) rfl (stk := [(.ref lo)]) rfl (by decide +kernel) (V := 0) (lb rfl) (lb rfl) (lb rfl) (lb rfl) (lb rfl)
      refine oLift st143 ?_
      show OG _ _ _ _ _ _ _ _ _ _ _ (mkF m 140 #[sI i0, sI i1, sI i2, sI i3, sI i4, sI 1, sI 3, sI c0, sI c1, sI c2, sI c3, sR x, sR r1, sR lo, sU, sU, sU] [(.ref y)])
      refine oGo W143 [.astore 14, .aload 14] (by decide +kernel) (ls' := #[sI i0, sI i1, sI i2, sI i3, sI i4, sI 1, sI 3, sI c0, sI c1, sI c2, sI c3, sR x, sR r1, sR lo, sR y, sU, sU]) (st' := [(.ref y)]) rfl rfl (pc' := 144) rfl ?_
      refine oNuF W143 (o := 15) (by decide +kernel) (pc' := 147) rfl ?_
      refine oGo W143 [.aload 14] (by decide +kernel) (ls' := #[sI i0, sI i1, sI i2, sI i3, sI i4, sI 1, sI 3, sI c0, sI c1, sI c2, sI c3, sR x, sR r1, sR lo, sR y, sU, sU]) (st' := [(.ref y)]) rfl rfl (pc' := 149) rfl ?_
      obtain ⟨v144, T144, L144, h144, vm144, W144, ⟨rfl, e144⟩, C144, st144⟩ := oCallV W143 (idx := 46) (pc := 149) (ls := #[sI i0, sI i1, sI i2, sI i3, sI i4, sI 1, sI 3, sI c0, sI c1, sI c2, sI c3, sR x, sR r1, sR lo, sR y, sU, sU]) (st := []) (argsL := []) F143.exa (c_len K F143) (fun x hx => nomatch hx) (wK K 237 rfl) (wK K 69 rfl) (notFace_of_selects (args := #[]) (mvT W143.warm (wK K 71 rfl))) (wK K 71 rfl) (wK K 70 rfl) (wK K 10 rfl) (wK K 72 rfl) (by decide) (na := 0) rfl (by decide +kernel) rfl (stk := [(.ref y)]) rfl (by decide +kernel) (V := 0) (lb rfl) (lb rfl) (lb rfl) (lb rfl) (lb rfl)
      refine oLift st144 ?_
      rw [e144] at W144 C144
      show OG _ _ _ _ _ _ _ _ _ _ _ (mkF m 152 #[sI i0, sI i1, sI i2, sI i3, sI i4, sI 1, sI 3, sI c0, sI c1, sI c2, sI c3, sR x, sR r1, sR lo, sR y, sU, sU] [(.int 8)])
      refine oGo W144 [.iconst 5, .iload 6, .iadd] (by decide +kernel) (ls' := #[sI i0, sI i1, sI i2, sI i3, sI i4, sI 1, sI 3, sI c0, sI c1, sI c2, sI c3, sR x, sR r1, sR lo, sR y, sU, sU]) (st' := [(.int ((5 : Int32) + (3 : Int32))), (.int 8)]) rfl rfl (pc' := 156) rfl ?_
      refine oIcT W144 (cd := .eq) (o := 5) (by decide +kernel) (XT.ii_eq_t (by decide)) (pc' := 161) (by decide) (by decide) ?_
      refine oGo W144 [.iload 5] (by decide +kernel) (ls' := #[sI i0, sI i1, sI i2, sI i3, sI i4, sI 1, sI 3, sI c0, sI c1, sI c2, sI c3, sR x, sR r1, sR lo, sR y, sU, sU]) (st' := [(.int 1)]) rfl rfl (pc' := 163) rfl ?_
      refine oIfF W144 (cd := .eq) (o := 8) (by decide +kernel) (XT.i0_eq_f (by decide)) (pc' := 166) rfl ?_
      refine oGo W144 [.bipush 112, .goto 5, .istore 15, .aload 14, .iconst 0] (by decide +kernel) (ls' := #[sI i0, sI i1, sI i2, sI i3, sI i4, sI 1, sI 3, sI c0, sI c1, sI c2, sI c3, sR x, sR r1, sR lo, sR y, sI 112, sU]) (st' := [(.int 0), (.ref y)]) rfl rfl (pc' := 178) rfl ?_
      obtain ⟨v145, T145, L145, h145, vm145, W145, ⟨rfl, e145⟩, C145, st145⟩ := oCallV W144 (idx := 50) (pc := 178) (ls := #[sI i0, sI i1, sI i2, sI i3, sI i4, sI 1, sI 3, sI c0, sI c1, sI c2, sI c3, sR x, sR r1, sR lo, sR y, sI 112, sU]) (st := []) (argsL := [(.int 0)]) F143.exa (c_chr K K.2.2.2.1 F143 (lb rfl) (i := 0) (by decide) (c := (47 : Int32)) rfl) (fun x hx => nomatch hx) (wK K 238 rfl) (wK K 79 rfl) (notFace_of_selects (args := #[]) (mvT W144.warm (wK K 81 rfl))) (wK K 81 rfl) (wK K 80 rfl) (wK K 10 rfl) (wK K 82 rfl) (by decide) (na := 1) rfl (by decide +kernel) rfl (stk := [(.int 0), (.ref y)]) rfl (by decide +kernel) (V := 0) (lb rfl) (lb rfl) (lb rfl) (lb rfl) (lb rfl)
      refine oLift st145 ?_
      rw [e145] at W145 C145
      show OG _ _ _ _ _ _ _ _ _ _ _ (mkF m 181 #[sI i0, sI i1, sI i2, sI i3, sI i4, sI 1, sI 3, sI c0, sI c1, sI c2, sI c3, sR x, sR r1, sR lo, sR y, sI 112, sU] [(.int 47)])
      refine oGo W145 [.bipush 47] (by decide +kernel) (ls' := #[sI i0, sI i1, sI i2, sI i3, sI i4, sI 1, sI 3, sI c0, sI c1, sI c2, sI c3, sR x, sR r1, sR lo, sR y, sI 112, sU]) (st' := [(.int 47), (.int 47)]) rfl rfl (pc' := 183) rfl ?_
      refine oIcF W145 (cd := .ne) (o := 51) (by decide +kernel) (XT.ii_ne_f rfl) (pc' := 186) rfl ?_
      refine oGo W145 [.aload 14, .iconst 1] (by decide +kernel) (ls' := #[sI i0, sI i1, sI i2, sI i3, sI i4, sI 1, sI 3, sI c0, sI c1, sI c2, sI c3, sR x, sR r1, sR lo, sR y, sI 112, sU]) (st' := [(.int 1), (.ref y)]) rfl rfl (pc' := 189) rfl ?_
      obtain ⟨v146, T146, L146, h146, vm146, W146, ⟨rfl, e146⟩, C146, st146⟩ := oCallV W145 (idx := 50) (pc := 189) (ls := #[sI i0, sI i1, sI i2, sI i3, sI i4, sI 1, sI 3, sI c0, sI c1, sI c2, sI c3, sR x, sR r1, sR lo, sR y, sI 112, sU]) (st := []) (argsL := [(.int 1)]) F143.exa (c_chr K K.2.2.2.1 F143 (lb rfl) (i := 1) (by decide) (c := (112 : Int32)) rfl) (fun x hx => nomatch hx) (wK K 238 rfl) (wK K 79 rfl) (notFace_of_selects (args := #[]) (mvT W145.warm (wK K 81 rfl))) (wK K 81 rfl) (wK K 80 rfl) (wK K 10 rfl) (wK K 82 rfl) (by decide) (na := 1) rfl (by decide +kernel) rfl (stk := [(.int 1), (.ref y)]) rfl (by decide +kernel) (V := 0) (lb rfl) (lb rfl) (lb rfl) (lb rfl) (lb rfl)
      refine oLift st146 ?_
      rw [e146] at W146 C146
      show OG _ _ _ _ _ _ _ _ _ _ _ (mkF m 192 #[sI i0, sI i1, sI i2, sI i3, sI i4, sI 1, sI 3, sI c0, sI c1, sI c2, sI c3, sR x, sR r1, sR lo, sR y, sI 112, sU] [(.int 112)])
      refine oGo W146 [.iload 15] (by decide +kernel) (ls' := #[sI i0, sI i1, sI i2, sI i3, sI i4, sI 1, sI 3, sI c0, sI c1, sI c2, sI c3, sR x, sR r1, sR lo, sR y, sI 112, sU]) (st' := [(.int 112), (.int 112)]) rfl rfl (pc' := 194) rfl ?_
      refine oIcF W146 (cd := .ne) (o := 40) (by decide +kernel) (XT.ii_ne_f rfl) (pc' := 197) rfl ?_
      refine oGo W146 [.aload 14, .iconst 2] (by decide +kernel) (ls' := #[sI i0, sI i1, sI i2, sI i3, sI i4, sI 1, sI 3, sI c0, sI c1, sI c2, sI c3, sR x, sR r1, sR lo, sR y, sI 112, sU]) (st' := [(.int 2), (.ref y)]) rfl rfl (pc' := 200) rfl ?_
      obtain ⟨v147, T147, L147, h147, vm147, W147, ⟨rfl, e147⟩, C147, st147⟩ := oCallV W146 (idx := 50) (pc := 200) (ls := #[sI i0, sI i1, sI i2, sI i3, sI i4, sI 1, sI 3, sI c0, sI c1, sI c2, sI c3, sR x, sR r1, sR lo, sR y, sI 112, sU]) (st := []) (argsL := [(.int 2)]) F143.exa (c_chr K K.2.2.2.1 F143 (lb rfl) (i := 2) (by decide) (c := (117 : Int32)) rfl) (fun x hx => nomatch hx) (wK K 238 rfl) (wK K 79 rfl) (notFace_of_selects (args := #[]) (mvT W146.warm (wK K 81 rfl))) (wK K 81 rfl) (wK K 80 rfl) (wK K 10 rfl) (wK K 82 rfl) (by decide) (na := 1) rfl (by decide +kernel) rfl (stk := [(.int 2), (.ref y)]) rfl (by decide +kernel) (V := 0) (lb rfl) (lb rfl) (lb rfl) (lb rfl) (lb rfl)
      refine oLift st147 ?_
      rw [e147] at W147 C147
      show OG _ _ _ _ _ _ _ _ _ _ _ (mkF m 203 #[sI i0, sI i1, sI i2, sI i3, sI i4, sI 1, sI 3, sI c0, sI c1, sI c2, sI c3, sR x, sR r1, sR lo, sR y, sI 112, sU] [(.int 117)])
      refine oGo W147 [.bipush 117] (by decide +kernel) (ls' := #[sI i0, sI i1, sI i2, sI i3, sI i4, sI 1, sI 3, sI c0, sI c1, sI c2, sI c3, sR x, sR r1, sR lo, sR y, sI 112, sU]) (st' := [(.int 117), (.int 117)]) rfl rfl (pc' := 205) rfl ?_
      refine oIcF W147 (cd := .ne) (o := 29) (by decide +kernel) (XT.ii_ne_f rfl) (pc' := 208) rfl ?_
      refine oGo W147 [.aload 14, .iconst 3] (by decide +kernel) (ls' := #[sI i0, sI i1, sI i2, sI i3, sI i4, sI 1, sI 3, sI c0, sI c1, sI c2, sI c3, sR x, sR r1, sR lo, sR y, sI 112, sU]) (st' := [(.int 3), (.ref y)]) rfl rfl (pc' := 211) rfl ?_
      obtain ⟨v148, T148, L148, h148, vm148, W148, ⟨rfl, e148⟩, C148, st148⟩ := oCallV W147 (idx := 50) (pc := 211) (ls := #[sI i0, sI i1, sI i2, sI i3, sI i4, sI 1, sI 3, sI c0, sI c1, sI c2, sI c3, sR x, sR r1, sR lo, sR y, sI 112, sU]) (st := []) (argsL := [(.int 3)]) F143.exa (c_chr K K.2.2.2.1 F143 (lb rfl) (i := 3) (by decide) (c := (98 : Int32)) rfl) (fun x hx => nomatch hx) (wK K 238 rfl) (wK K 79 rfl) (notFace_of_selects (args := #[]) (mvT W147.warm (wK K 81 rfl))) (wK K 81 rfl) (wK K 80 rfl) (wK K 10 rfl) (wK K 82 rfl) (by decide) (na := 1) rfl (by decide +kernel) rfl (stk := [(.int 3), (.ref y)]) rfl (by decide +kernel) (V := 0) (lb rfl) (lb rfl) (lb rfl) (lb rfl) (lb rfl)
      refine oLift st148 ?_
      rw [e148] at W148 C148
      show OG _ _ _ _ _ _ _ _ _ _ _ (mkF m 214 #[sI i0, sI i1, sI i2, sI i3, sI i4, sI 1, sI 3, sI c0, sI c1, sI c2, sI c3, sR x, sR r1, sR lo, sR y, sI 112, sU] [(.int 98)])
      refine oGo W148 [.bipush 98] (by decide +kernel) (ls' := #[sI i0, sI i1, sI i2, sI i3, sI i4, sI 1, sI 3, sI c0, sI c1, sI c2, sI c3, sR x, sR r1, sR lo, sR y, sI 112, sU]) (st' := [(.int 98), (.int 98)]) rfl rfl (pc' := 216) rfl ?_
      refine oIcF W148 (cd := .ne) (o := 18) (by decide +kernel) (XT.ii_ne_f rfl) (pc' := 219) rfl ?_
      refine oGo W148 [.aload 14, .iconst 4] (by decide +kernel) (ls' := #[sI i0, sI i1, sI i2, sI i3, sI i4, sI 1, sI 3, sI c0, sI c1, sI c2, sI c3, sR x, sR r1, sR lo, sR y, sI 112, sU]) (st' := [(.int 4), (.ref y)]) rfl rfl (pc' := 222) rfl ?_
      obtain ⟨v149, T149, L149, h149, vm149, W149, ⟨rfl, e149⟩, C149, st149⟩ := oCallV W148 (idx := 50) (pc := 222) (ls := #[sI i0, sI i1, sI i2, sI i3, sI i4, sI 1, sI 3, sI c0, sI c1, sI c2, sI c3, sR x, sR r1, sR lo, sR y, sI 112, sU]) (st := []) (argsL := [(.int 4)]) F143.exa (c_chr K K.2.2.2.1 F143 (lb rfl) (i := 4) (by decide) (c := (47 : Int32)) rfl) (fun x hx => nomatch hx) (wK K 238 rfl) (wK K 79 rfl) (notFace_of_selects (args := #[]) (mvT W148.warm (wK K 81 rfl))) (wK K 81 rfl) (wK K 80 rfl) (wK K 10 rfl) (wK K 82 rfl) (by decide) (na := 1) rfl (by decide +kernel) rfl (stk := [(.int 4), (.ref y)]) rfl (by decide +kernel) (V := 0) (lb rfl) (lb rfl) (lb rfl) (lb rfl) (lb rfl)
      refine oLift st149 ?_
      rw [e149] at W149 C149
      show OG _ _ _ _ _ _ _ _ _ _ _ (mkF m 225 #[sI i0, sI i1, sI i2, sI i3, sI i4, sI 1, sI 3, sI c0, sI c1, sI c2, sI c3, sR x, sR r1, sR lo, sR y, sI 112, sU] [(.int 47)])
      refine oGo W149 [.bipush 47] (by decide +kernel) (ls' := #[sI i0, sI i1, sI i2, sI i3, sI i4, sI 1, sI 3, sI c0, sI c1, sI c2, sI c3, sR x, sR r1, sR lo, sR y, sI 112, sU]) (st' := [(.int 47), (.int 47)]) rfl rfl (pc' := 227) rfl ?_
      refine oIcF W149 (cd := .ne) (o := 7) (by decide +kernel) (XT.ii_ne_f rfl) (pc' := 230) rfl ?_
      refine oGo W149 [.iconst 1, .goto 4, .istore 16, .iload 16] (by decide +kernel) (ls' := #[sI i0, sI i1, sI i2, sI i3, sI i4, sI 1, sI 3, sI c0, sI c1, sI c2, sI c3, sR x, sR r1, sR lo, sR y, sI 112, sI 1]) (st' := [(.int 1)]) rfl rfl (pc' := 239) rfl ?_
      refine oIfF W149 (cd := .eq) (o := 18) (by decide +kernel) (XT.i0_eq_f (by decide)) (pc' := 242) rfl ?_
      refine oGo W149 [.aload 14, .iconst 5] (by decide +kernel) (ls' := #[sI i0, sI i1, sI i2, sI i3, sI i4, sI 1, sI 3, sI c0, sI c1, sI c2, sI c3, sR x, sR r1, sR lo, sR y, sI 112, sI 1]) (st' := [(.int 5), (.ref y)]) rfl rfl (pc' := 245) rfl ?_
      obtain ⟨v150, T150, L150, h150, vm150, W150, ⟨rfl, e150⟩, C150, st150⟩ := oCallV W149 (idx := 50) (pc := 245) (ls := #[sI i0, sI i1, sI i2, sI i3, sI i4, sI 1, sI 3, sI c0, sI c1, sI c2, sI c3, sR x, sR r1, sR lo, sR y, sI 112, sI 1]) (st := []) (argsL := [(.int 5)]) F143.exa (c_chr K K.2.2.2.1 F143 (lb rfl) (i := 5) (by decide) (c := c0) rfl) (fun x hx => nomatch hx) (wK K 238 rfl) (wK K 79 rfl) (notFace_of_selects (args := #[]) (mvT W149.warm (wK K 81 rfl))) (wK K 81 rfl) (wK K 80 rfl) (wK K 10 rfl) (wK K 82 rfl) (by decide) (na := 1) rfl (by decide +kernel) rfl (stk := [(.int 5), (.ref y)]) rfl (by decide +kernel) (V := 0) (lb rfl) (lb rfl) (lb rfl) (lb rfl) (lb rfl)
      refine oLift st150 ?_
      rw [e150] at W150 C150
      show OG _ _ _ _ _ _ _ _ _ _ _ (mkF m 248 #[sI i0, sI i1, sI i2, sI i3, sI i4, sI 1, sI 3, sI c0, sI c1, sI c2, sI c3, sR x, sR r1, sR lo, sR y, sI 112, sI 1] [(.int c0)])
      refine oGo W150 [.iload 7] (by decide +kernel) (ls' := #[sI i0, sI i1, sI i2, sI i3, sI i4, sI 1, sI 3, sI c0, sI c1, sI c2, sI c3, sR x, sR r1, sR lo, sR y, sI 112, sI 1]) (st' := [(.int c0), (.int c0)]) rfl rfl (pc' := 250) rfl ?_
      refine oIcF W150 (cd := .ne) (o := 7) (by decide +kernel) (XT.ii_ne_f rfl) (pc' := 253) rfl ?_
      refine oGo W150 [.iconst 1, .goto 4, .istore 16, .iload 6, .iconst 2] (by decide +kernel) (ls' := #[sI i0, sI i1, sI i2, sI i3, sI i4, sI 1, sI 3, sI c0, sI c1, sI c2, sI c3, sR x, sR r1, sR lo, sR y, sI 112, sI 1]) (st' := [(.int 2), (.int 3)]) rfl rfl (pc' := 263) rfl ?_
      refine oIcF W150 (cd := .lt) (o := 27) (by decide +kernel) (XT.ii_lt_f (by decide)) (pc' := 266) rfl ?_
      refine oGo W150 [.iload 16] (by decide +kernel) (ls' := #[sI i0, sI i1, sI i2, sI i3, sI i4, sI 1, sI 3, sI c0, sI c1, sI c2, sI c3, sR x, sR r1, sR lo, sR y, sI 112, sI 1]) (st' := [(.int 1)]) rfl rfl (pc' := 268) rfl ?_
      refine oIfF W150 (cd := .eq) (o := 19) (by decide +kernel) (XT.i0_eq_f (by decide)) (pc' := 271) rfl ?_
      refine oGo W150 [.aload 14, .bipush 6] (by decide +kernel) (ls' := #[sI i0, sI i1, sI i2, sI i3, sI i4, sI 1, sI 3, sI c0, sI c1, sI c2, sI c3, sR x, sR r1, sR lo, sR y, sI 112, sI 1]) (st' := [(.int 6), (.ref y)]) rfl rfl (pc' := 275) rfl ?_
      obtain ⟨v151, T151, L151, h151, vm151, W151, ⟨rfl, e151⟩, C151, st151⟩ := oCallV W150 (idx := 50) (pc := 275) (ls := #[sI i0, sI i1, sI i2, sI i3, sI i4, sI 1, sI 3, sI c0, sI c1, sI c2, sI c3, sR x, sR r1, sR lo, sR y, sI 112, sI 1]) (st := []) (argsL := [(.int 6)]) F143.exa (c_chr K K.2.2.2.1 F143 (lb rfl) (i := 6) (by decide) (c := c1) rfl) (fun x hx => nomatch hx) (wK K 238 rfl) (wK K 79 rfl) (notFace_of_selects (args := #[]) (mvT W150.warm (wK K 81 rfl))) (wK K 81 rfl) (wK K 80 rfl) (wK K 10 rfl) (wK K 82 rfl) (by decide) (na := 1) rfl (by decide +kernel) rfl (stk := [(.int 6), (.ref y)]) rfl (by decide +kernel) (V := 0) (lb rfl) (lb rfl) (lb rfl) (lb rfl) (lb rfl)
      refine oLift st151 ?_
      rw [e151] at W151 C151
      show OG _ _ _ _ _ _ _ _ _ _ _ (mkF m 278 #[sI i0, sI i1, sI i2, sI i3, sI i4, sI 1, sI 3, sI c0, sI c1, sI c2, sI c3, sR x, sR r1, sR lo, sR y, sI 112, sI 1] [(.int c1)])
      refine oGo W151 [.iload 8] (by decide +kernel) (ls' := #[sI i0, sI i1, sI i2, sI i3, sI i4, sI 1, sI 3, sI c0, sI c1, sI c2, sI c3, sR x, sR r1, sR lo, sR y, sI 112, sI 1]) (st' := [(.int c1), (.int c1)]) rfl rfl (pc' := 280) rfl ?_
      refine oIcF W151 (cd := .ne) (o := 7) (by decide +kernel) (XT.ii_ne_f rfl) (pc' := 283) rfl ?_
      refine oGo W151 [.iconst 1, .goto 4, .istore 16, .iload 6, .iconst 3] (by decide +kernel) (ls' := #[sI i0, sI i1, sI i2, sI i3, sI i4, sI 1, sI 3, sI c0, sI c1, sI c2, sI c3, sR x, sR r1, sR lo, sR y, sI 112, sI 1]) (st' := [(.int 3), (.int 3)]) rfl rfl (pc' := 293) rfl ?_
      refine oIcF W151 (cd := .lt) (o := 27) (by decide +kernel) (XT.ii_lt_f (by decide)) (pc' := 296) rfl ?_
      refine oGo W151 [.iload 16] (by decide +kernel) (ls' := #[sI i0, sI i1, sI i2, sI i3, sI i4, sI 1, sI 3, sI c0, sI c1, sI c2, sI c3, sR x, sR r1, sR lo, sR y, sI 112, sI 1]) (st' := [(.int 1)]) rfl rfl (pc' := 298) rfl ?_
      refine oIfF W151 (cd := .eq) (o := 19) (by decide +kernel) (XT.i0_eq_f (by decide)) (pc' := 301) rfl ?_
      refine oGo W151 [.aload 14, .bipush 7] (by decide +kernel) (ls' := #[sI i0, sI i1, sI i2, sI i3, sI i4, sI 1, sI 3, sI c0, sI c1, sI c2, sI c3, sR x, sR r1, sR lo, sR y, sI 112, sI 1]) (st' := [(.int 7), (.ref y)]) rfl rfl (pc' := 305) rfl ?_
      obtain ⟨v152, T152, L152, h152, vm152, W152, ⟨rfl, e152⟩, C152, st152⟩ := oCallV W151 (idx := 50) (pc := 305) (ls := #[sI i0, sI i1, sI i2, sI i3, sI i4, sI 1, sI 3, sI c0, sI c1, sI c2, sI c3, sR x, sR r1, sR lo, sR y, sI 112, sI 1]) (st := []) (argsL := [(.int 7)]) F143.exa (c_chr K K.2.2.2.1 F143 (lb rfl) (i := 7) (by decide) (c := c2) rfl) (fun x hx => nomatch hx) (wK K 238 rfl) (wK K 79 rfl) (notFace_of_selects (args := #[]) (mvT W151.warm (wK K 81 rfl))) (wK K 81 rfl) (wK K 80 rfl) (wK K 10 rfl) (wK K 82 rfl) (by decide) (na := 1) rfl (by decide +kernel) rfl (stk := [(.int 7), (.ref y)]) rfl (by decide +kernel) (V := 0) (lb rfl) (lb rfl) (lb rfl) (lb rfl) (lb rfl)
      refine oLift st152 ?_
      rw [e152] at W152 C152
      show OG _ _ _ _ _ _ _ _ _ _ _ (mkF m 308 #[sI i0, sI i1, sI i2, sI i3, sI i4, sI 1, sI 3, sI c0, sI c1, sI c2, sI c3, sR x, sR r1, sR lo, sR y, sI 112, sI 1] [(.int c2)])
      refine oGo W152 [.iload 9] (by decide +kernel) (ls' := #[sI i0, sI i1, sI i2, sI i3, sI i4, sI 1, sI 3, sI c0, sI c1, sI c2, sI c3, sR x, sR r1, sR lo, sR y, sI 112, sI 1]) (st' := [(.int c2), (.int c2)]) rfl rfl (pc' := 310) rfl ?_
      refine oIcF W152 (cd := .ne) (o := 7) (by decide +kernel) (XT.ii_ne_f rfl) (pc' := 313) rfl ?_
      refine oGo W152 [.iconst 1, .goto 4, .istore 16, .iload 6, .iconst 4] (by decide +kernel) (ls' := #[sI i0, sI i1, sI i2, sI i3, sI i4, sI 1, sI 3, sI c0, sI c1, sI c2, sI c3, sR x, sR r1, sR lo, sR y, sI 112, sI 1]) (st' := [(.int 4), (.int 3)]) rfl rfl (pc' := 323) rfl ?_
      refine oIcT W152 (cd := .lt) (o := 27) (by decide +kernel) (XT.ii_lt_t (by decide)) (pc' := 350) (by decide) (by decide) ?_
      refine oGo W152 [.iload 16] (by decide +kernel) (ls' := #[sI i0, sI i1, sI i2, sI i3, sI i4, sI 1, sI 3, sI c0, sI c1, sI c2, sI c3, sR x, sR r1, sR lo, sR y, sI 112, sI 1]) (st' := [(.int 1)]) rfl rfl (pc' := 352) rfl ?_
      exact oRetN (by simp) W152 rfl (by decide +kernel) (lb rfl) (lb rfl) (fun vm' hv => rfl)
    · rw [hL]
      refine oGo W89 [.iload 6, .iconst 1] (by decide +kernel) (ls' := #[sI i0, sI i1, sI i2, sI i3, sI i4, sI 1, sI 4, sI c0, sI c1, sI c2, sI c3, sU, sU, sU, sU, sU, sU]) (st' := [(.int 1), (.int 4)]) rfl rfl (pc' := 50) rfl ?_
      refine oIcT W89 (cd := .ne) (o := 12) (by decide +kernel) (XT.ii_ne_t (by decide)) (pc' := 62) (by decide) (by decide) ?_
      refine oGo W89 [.iload 6, .iconst 2] (by decide +kernel) (ls' := #[sI i0, sI i1, sI i2, sI i3, sI i4, sI 1, sI 4, sI c0, sI c1, sI c2, sI c3, sU, sU, sU, sU, sU, sU]) (st' := [(.int 2), (.int 4)]) rfl rfl (pc' := 65) rfl ?_
      refine oIcT W89 (cd := .ne) (o := 19) (by decide +kernel) (XT.ii_ne_t (by decide)) (pc' := 84) (by decide) (by decide) ?_
      refine oGo W89 [.iload 6, .iload 7, .iload 8, .iload 9, .iload 10] (by decide +kernel) (ls' := #[sI i0, sI i1, sI i2, sI i3, sI i4, sI 1, sI 4, sI c0, sI c1, sI c2, sI c3, sU, sU, sU, sU, sU, sU]) (st' := [(.int c3), (.int c2), (.int c1), (.int c0), (.int 4)]) rfl rfl (pc' := 94) rfl ?_
      obtain ⟨v153, T153, L153, h153, vm153, W153, ⟨x, rfl, F153, E153⟩, C153, st153⟩ := oCallS W89 (idx := 19) (pc := 94) (ls := #[sI i0, sI i1, sI i2, sI i3, sI i4, sI 1, sI 4, sI c0, sI c1, sI c2, sI c3, sU, sU, sU, sU, sU, sU]) (st := []) (argsL := [(.int 4), (.int c0), (.int c1), (.int c2), (.int c3)]) (c_dr4 K (c0 := c0) (c1 := c1) (c2 := c2) (c3 := c3) qa0 qa1 qa2 qa3) (fun x hx => nomatch hx) (wK K 5 rfl) (wK K 6 rfl) (wK K 2 rfl) (wK K 7 rfl) (by decide) (na := 5) rfl (by decide +kernel) rfl (stk := [(.int c3), (.int c2), (.int c1), (.int c0), (.int 4)]) rfl (by decide +kernel) (V := 0) (lb rfl) (lb rfl) (lb rfl) (lb rfl) (lb rfl)
      refine oLift st153 ?_
      show OG _ _ _ _ _ _ _ _ _ _ _ (mkF m 97 #[sI i0, sI i1, sI i2, sI i3, sI i4, sI 1, sI 4, sI c0, sI c1, sI c2, sI c3, sU, sU, sU, sU, sU, sU] [(.ref x)])
      refine oGo W153 [.astore 11, .iload 5] (by decide +kernel) (ls' := #[sI i0, sI i1, sI i2, sI i3, sI i4, sI 1, sI 4, sI c0, sI c1, sI c2, sI c3, sR x, sU, sU, sU, sU, sU]) (st' := [(.int 1)]) rfl rfl (pc' := 101) rfl ?_
      refine oIfF W153 (cd := .eq) (o := 9) (by decide +kernel) (XT.i0_eq_f (by decide)) (pc' := 104) rfl ?_
      obtain ⟨T154, W154, st154⟩ := oGetS W153 (pc := 104) (ls := #[sI i0, sI i1, sI i2, sI i3, sI i4, sI 1, sI 4, sI c0, sI c1, sI c2, sI c3, sR x, sU, sU, sU, sU, sU]) (st := []) (wK K 239 rfl) Via.refl (Sr1.ext W153.ext) (by decide +kernel)
      refine oLift st154 ?_
      refine oGo W154 [.goto 6, .astore 12] (by decide +kernel) (ls' := #[sI i0, sI i1, sI i2, sI i3, sI i4, sI 1, sI 4, sI c0, sI c1, sI c2, sI c3, sR x, sR r1, sU, sU, sU, sU]) (st' := []) rfl rfl (pc' := 115) rfl ?_
      obtain ⟨T155, h155, lo, W155, g155, E155, A155, D155, S155, C155, st155⟩ := oNew W154 (pc := 115) (ls := #[sI i0, sI i1, sI i2, sI i3, sI i4, sI 1, sI 4, sI c0, sI c1, sI c2, sI c3, sR x, sR r1, sU, sU, sU, sU]) (st := []) (wK K 41 rfl) (wK K 42 rfl) (wK K 43 rfl) (by decide +kernel) (lb rfl) (lb rfl)
      refine oLift st155 ?_
      refine oGo W155 [.dup, .aload 12] (by decide +kernel) (ls' := #[sI i0, sI i1, sI i2, sI i3, sI i4, sI 1, sI 4, sI c0, sI c1, sI c2, sI c3, sR x, sR r1, sU, sU, sU, sU]) (st' := [(.ref r1), (.ref lo), (.ref lo)]) rfl rfl (pc' := 121) rfl ?_
      obtain ⟨T156, h156, nm, W156, g156, E156, A156, D156, S156, C156, st156⟩ := oNew W155 (pc := 121) (ls := #[sI i0, sI i1, sI i2, sI i3, sI i4, sI 1, sI 4, sI c0, sI c1, sI c2, sI c3, sR x, sR r1, sU, sU, sU, sU]) (st := [(.ref r1), (.ref lo), (.ref lo)]) (wK K 44 rfl) (wK K 45 rfl) (wK K 46 rfl) (by decide +kernel) (lb rfl) (lb rfl)
      refine oLift st156 ?_
      refine oGo W156 [.dup, .aload 11] (by decide +kernel) (ls' := #[sI i0, sI i1, sI i2, sI i3, sI i4, sI 1, sI 4, sI c0, sI c1, sI c2, sI c3, sR x, sR r1, sU, sU, sU, sU]) (st' := [(.ref x), (.ref nm), (.ref nm), (.ref r1), (.ref lo), (.ref lo)]) rfl rfl (pc' := 127) rfl ?_
      have hnl : nm ≠ lo := Nat.ne_of_gt (Nat.lt_of_lt_of_le A155.lt g156)
      obtain ⟨v157, T157, L157, h157, vm157, W157, ⟨rfl, K157, X157, F157⟩, C157, st157⟩ := oCallN W156 (idx := 36) (pc := 127) (ls := #[sI i0, sI i1, sI i2, sI i3, sI i4, sI 1, sI 4, sI c0, sI c1, sI c2, sI c3, sR x, sR r1, sU, sU, sU, sU]) (st := [(.ref nm), (.ref r1), (.ref lo), (.ref lo)]) (a := nm) (argsL := [(.ref x)]) (c_cn4 K ((F153.ext E155).ext E156) qa0 qa1 qa2 qa3 (Nat.le_trans W155.ext.1 g156) A156 (D156 (Or.inr (wK K 115 rfl)) (ty := (.object "java/lang/String")) (by decide))) (fun x hx => nomatch hx) rfl (wK K 47 rfl) (wK K 48 rfl) (wK K 46 rfl) (wK K 49 rfl) (by decide) (na := 1) rfl (by decide +kernel) rfl (stk := [(.ref x), (.ref nm), (.ref nm), (.ref r1), (.ref lo), (.ref lo)]) rfl (by decide +kernel) (V := 4) (lb rfl) (lb rfl) (lb rfl) (lb rfl) (lb rfl)
      refine oLift st157 ?_
      show OG _ _ _ _ _ _ _ _ _ _ _ (mkF m 130 #[sI i0, sI i1, sI i2, sI i3, sI i4, sI 1, sI 4, sI c0, sI c1, sI c2, sI c3, sR x, sR r1, sU, sU, sU, sU] [(.ref nm), (.ref r1), (.ref lo), (.ref lo)])
      obtain ⟨v158, T158, L158, h158, vm158, W158, ⟨rfl, K158, X158, F158, G158⟩, C158, st158⟩ := oCallN W157 (idx := 39) (pc := 130) (ls := #[sI i0, sI i1, sI i2, sI i3, sI i4, sI 1, sI 4, sI c0, sI c1, sI c2, sI c3, sR x, sR r1, sU, sU, sU, sU]) (st := [(.ref lo)]) (a := lo) (argsL := [(.ref r1), (.ref nm)]) (c_cli K (Nat.le_trans W153.ext.1 g155) (A155.ext (exK E156 K157 (fun y hy => by cases List.mem_singleton.mp hy; exact g156))) ((D155 (Or.inr (wK K 121 rfl)) (ty := (.object "com/example/gentle_hub/gentlehub/server/ChannelLocation$Role")) (by decide)).ext (exK E156 K157 (fun y hy => by cases List.mem_singleton.mp hy; exact g156))) ((D155 (Or.inr (wK K 123 rfl)) (ty := (.object "com/example/gentle_hub/gentlehub/core/ChannelName")) (by decide)).ext (exK E156 K157 (fun y hy => by cases List.mem_singleton.mp hy; exact g156)))) (fun x hx => nomatch hx) rfl (wK K 116 rfl) (wK K 117 rfl) (wK K 43 rfl) (wK K 118 rfl) (by decide) (na := 2) rfl (by decide +kernel) rfl (stk := [(.ref nm), (.ref r1), (.ref lo), (.ref lo)]) rfl (by decide +kernel) (V := 1) (lb rfl) (lb rfl) (lb rfl) (lb rfl) (lb rfl)
      refine oLift st158 ?_
      show OG _ _ _ _ _ _ _ _ _ _ _ (mkF m 133 #[sI i0, sI i1, sI i2, sI i3, sI i4, sI 1, sI 4, sI c0, sI c1, sI c2, sI c3, sR x, sR r1, sU, sU, sU, sU] [(.ref lo)])
      refine oGo W158 [.astore 13, .aload 13] (by decide +kernel) (ls' := #[sI i0, sI i1, sI i2, sI i3, sI i4, sI 1, sI 4, sI c0, sI c1, sI c2, sI c3, sR x, sR r1, sR lo, sU, sU, sU]) (st' := [(.ref lo)]) rfl rfl (pc' := 137) rfl ?_
      obtain ⟨v159, T159, L159, h159, vm159, W159, ⟨y, rfl, F159, E159⟩, C159, st159⟩ := oCallV W158 (idx := 42) (pc := 137) (ls := #[sI i0, sI i1, sI i2, sI i3, sI i4, sI 1, sI 4, sI c0, sI c1, sI c2, sI c3, sR x, sR r1, sR lo, sU, sU, sU]) (st := []) (argsL := []) X158 (c_path K F158 G158 (Fr1.ext W158.ext) (Tr1.ext W158.ext) (X157.keep K158) (F157.keep K158 (ninS hnl nin0)) (F153.ext (exK (exT E155 (exK E156 K157 (fun y hy => by cases List.mem_singleton.mp hy; exact g156))) K158 (fun y hy => by cases List.mem_singleton.mp hy; exact g155))) (lb rfl)) (fun x hx => nomatch hx) (wK K 124 rfl) (wK K 125 rfl) (notFace_of_selects (args := #[]) (mvT W158.warm (wK K 127 rfl))) (wK K 127 rfl) (wK K 126 rfl) (wK K 43 rfl) (wK K 128 rfl) (by decide) (na := 0) rfl (by decide +kernel) rfl (stk := [(.ref lo)]) rfl (by decide +kernel) (V := 0) (lb rfl) (lb rfl) (lb rfl) (lb rfl) (lb rfl)
      refine oLift st159 ?_
      show OG _ _ _ _ _ _ _ _ _ _ _ (mkF m 140 #[sI i0, sI i1, sI i2, sI i3, sI i4, sI 1, sI 4, sI c0, sI c1, sI c2, sI c3, sR x, sR r1, sR lo, sU, sU, sU] [(.ref y)])
      refine oGo W159 [.astore 14, .aload 14] (by decide +kernel) (ls' := #[sI i0, sI i1, sI i2, sI i3, sI i4, sI 1, sI 4, sI c0, sI c1, sI c2, sI c3, sR x, sR r1, sR lo, sR y, sU, sU]) (st' := [(.ref y)]) rfl rfl (pc' := 144) rfl ?_
      refine oNuF W159 (o := 15) (by decide +kernel) (pc' := 147) rfl ?_
      refine oGo W159 [.aload 14] (by decide +kernel) (ls' := #[sI i0, sI i1, sI i2, sI i3, sI i4, sI 1, sI 4, sI c0, sI c1, sI c2, sI c3, sR x, sR r1, sR lo, sR y, sU, sU]) (st' := [(.ref y)]) rfl rfl (pc' := 149) rfl ?_
      obtain ⟨v160, T160, L160, h160, vm160, W160, ⟨rfl, e160⟩, C160, st160⟩ := oCallV W159 (idx := 46) (pc := 149) (ls := #[sI i0, sI i1, sI i2, sI i3, sI i4, sI 1, sI 4, sI c0, sI c1, sI c2, sI c3, sR x, sR r1, sR lo, sR y, sU, sU]) (st := []) (argsL := []) F159.exa (c_len K F159) (fun x hx => nomatch hx) (wK K 237 rfl) (wK K 69 rfl) (notFace_of_selects (args := #[]) (mvT W159.warm (wK K 71 rfl))) (wK K 71 rfl) (wK K 70 rfl) (wK K 10 rfl) (wK K 72 rfl) (by decide) (na := 0) rfl (by decide +kernel) rfl (stk := [(.ref y)]) rfl (by decide +kernel) (V := 0) (lb rfl) (lb rfl) (lb rfl) (lb rfl) (lb rfl)
      refine oLift st160 ?_
      rw [e160] at W160 C160
      show OG _ _ _ _ _ _ _ _ _ _ _ (mkF m 152 #[sI i0, sI i1, sI i2, sI i3, sI i4, sI 1, sI 4, sI c0, sI c1, sI c2, sI c3, sR x, sR r1, sR lo, sR y, sU, sU] [(.int 9)])
      refine oGo W160 [.iconst 5, .iload 6, .iadd] (by decide +kernel) (ls' := #[sI i0, sI i1, sI i2, sI i3, sI i4, sI 1, sI 4, sI c0, sI c1, sI c2, sI c3, sR x, sR r1, sR lo, sR y, sU, sU]) (st' := [(.int ((5 : Int32) + (4 : Int32))), (.int 9)]) rfl rfl (pc' := 156) rfl ?_
      refine oIcT W160 (cd := .eq) (o := 5) (by decide +kernel) (XT.ii_eq_t (by decide)) (pc' := 161) (by decide) (by decide) ?_
      refine oGo W160 [.iload 5] (by decide +kernel) (ls' := #[sI i0, sI i1, sI i2, sI i3, sI i4, sI 1, sI 4, sI c0, sI c1, sI c2, sI c3, sR x, sR r1, sR lo, sR y, sU, sU]) (st' := [(.int 1)]) rfl rfl (pc' := 163) rfl ?_
      refine oIfF W160 (cd := .eq) (o := 8) (by decide +kernel) (XT.i0_eq_f (by decide)) (pc' := 166) rfl ?_
      refine oGo W160 [.bipush 112, .goto 5, .istore 15, .aload 14, .iconst 0] (by decide +kernel) (ls' := #[sI i0, sI i1, sI i2, sI i3, sI i4, sI 1, sI 4, sI c0, sI c1, sI c2, sI c3, sR x, sR r1, sR lo, sR y, sI 112, sU]) (st' := [(.int 0), (.ref y)]) rfl rfl (pc' := 178) rfl ?_
      obtain ⟨v161, T161, L161, h161, vm161, W161, ⟨rfl, e161⟩, C161, st161⟩ := oCallV W160 (idx := 50) (pc := 178) (ls := #[sI i0, sI i1, sI i2, sI i3, sI i4, sI 1, sI 4, sI c0, sI c1, sI c2, sI c3, sR x, sR r1, sR lo, sR y, sI 112, sU]) (st := []) (argsL := [(.int 0)]) F159.exa (c_chr K K.2.2.2.1 F159 (lb rfl) (i := 0) (by decide) (c := (47 : Int32)) rfl) (fun x hx => nomatch hx) (wK K 238 rfl) (wK K 79 rfl) (notFace_of_selects (args := #[]) (mvT W160.warm (wK K 81 rfl))) (wK K 81 rfl) (wK K 80 rfl) (wK K 10 rfl) (wK K 82 rfl) (by decide) (na := 1) rfl (by decide +kernel) rfl (stk := [(.int 0), (.ref y)]) rfl (by decide +kernel) (V := 0) (lb rfl) (lb rfl) (lb rfl) (lb rfl) (lb rfl)
      refine oLift st161 ?_
      rw [e161] at W161 C161
      show OG _ _ _ _ _ _ _ _ _ _ _ (mkF m 181 #[sI i0, sI i1, sI i2, sI i3, sI i4, sI 1, sI 4, sI c0, sI c1, sI c2, sI c3, sR x, sR r1, sR lo, sR y, sI 112, sU] [(.int 47)])
      refine oGo W161 [.bipush 47] (by decide +kernel) (ls' := #[sI i0, sI i1, sI i2, sI i3, sI i4, sI 1, sI 4, sI c0, sI c1, sI c2, sI c3, sR x, sR r1, sR lo, sR y, sI 112, sU]) (st' := [(.int 47), (.int 47)]) rfl rfl (pc' := 183) rfl ?_
      refine oIcF W161 (cd := .ne) (o := 51) (by decide +kernel) (XT.ii_ne_f rfl) (pc' := 186) rfl ?_
      refine oGo W161 [.aload 14, .iconst 1] (by decide +kernel) (ls' := #[sI i0, sI i1, sI i2, sI i3, sI i4, sI 1, sI 4, sI c0, sI c1, sI c2, sI c3, sR x, sR r1, sR lo, sR y, sI 112, sU]) (st' := [(.int 1), (.ref y)]) rfl rfl (pc' := 189) rfl ?_
      obtain ⟨v162, T162, L162, h162, vm162, W162, ⟨rfl, e162⟩, C162, st162⟩ := oCallV W161 (idx := 50) (pc := 189) (ls := #[sI i0, sI i1, sI i2, sI i3, sI i4, sI 1, sI 4, sI c0, sI c1, sI c2, sI c3, sR x, sR r1, sR lo, sR y, sI 112, sU]) (st := []) (argsL := [(.int 1)]) F159.exa (c_chr K K.2.2.2.1 F159 (lb rfl) (i := 1) (by decide) (c := (112 : Int32)) rfl) (fun x hx => nomatch hx) (wK K 238 rfl) (wK K 79 rfl) (notFace_of_selects (args := #[]) (mvT W161.warm (wK K 81 rfl))) (wK K 81 rfl) (wK K 80 rfl) (wK K 10 rfl) (wK K 82 rfl) (by decide) (na := 1) rfl (by decide +kernel) rfl (stk := [(.int 1), (.ref y)]) rfl (by decide +kernel) (V := 0) (lb rfl) (lb rfl) (lb rfl) (lb rfl) (lb rfl)
      refine oLift st162 ?_
      rw [e162] at W162 C162
      show OG _ _ _ _ _ _ _ _ _ _ _ (mkF m 192 #[sI i0, sI i1, sI i2, sI i3, sI i4, sI 1, sI 4, sI c0, sI c1, sI c2, sI c3, sR x, sR r1, sR lo, sR y, sI 112, sU] [(.int 112)])
      refine oGo W162 [.iload 15] (by decide +kernel) (ls' := #[sI i0, sI i1, sI i2, sI i3, sI i4, sI 1, sI 4, sI c0, sI c1, sI c2, sI c3, sR x, sR r1, sR lo, sR y, sI 112, sU]) (st' := [(.int 112), (.int 112)]) rfl rfl (pc' := 194) rfl ?_
      refine oIcF W162 (cd := .ne) (o := 40) (by decide +kernel) (XT.ii_ne_f rfl) (pc' := 197) rfl ?_
      refine oGo W162 [.aload 14, .iconst 2] (by decide +kernel) (ls' := #[sI i0, sI i1, sI i2, sI i3, sI i4, sI 1, sI 4, sI c0, sI c1, sI c2, sI c3, sR x, sR r1, sR lo, sR y, sI 112, sU]) (st' := [(.int 2), (.ref y)]) rfl rfl (pc' := 200) rfl ?_
      obtain ⟨v163, T163, L163, h163, vm163, W163, ⟨rfl, e163⟩, C163, st163⟩ := oCallV W162 (idx := 50) (pc := 200) (ls := #[sI i0, sI i1, sI i2, sI i3, sI i4, sI 1, sI 4, sI c0, sI c1, sI c2, sI c3, sR x, sR r1, sR lo, sR y, sI 112, sU]) (st := []) (argsL := [(.int 2)]) F159.exa (c_chr K K.2.2.2.1 F159 (lb rfl) (i := 2) (by decide) (c := (117 : Int32)) rfl) (fun x hx => nomatch hx) (wK K 238 rfl) (wK K 79 rfl) (notFace_of_selects (args := #[]) (mvT W162.warm (wK K 81 rfl))) (wK K 81 rfl) (wK K 80 rfl) (wK K 10 rfl) (wK K 82 rfl) (by decide) (na := 1) rfl (by decide +kernel) rfl (stk := [(.int 2), (.ref y)]) rfl (by decide +kernel) (V := 0) (lb rfl) (lb rfl) (lb rfl) (lb rfl) (lb rfl)
      refine oLift st163 ?_
      rw [e163] at W163 C163
      show OG _ _ _ _ _ _ _ _ _ _ _ (mkF m 203 #[sI i0, sI i1, sI i2, sI i3, sI i4, sI 1, sI 4, sI c0, sI c1, sI c2, sI c3, sR x, sR r1, sR lo, sR y, sI 112, sU] [(.int 117)])
      refine oGo W163 [.bipush 117] (by decide +kernel) (ls' := #[sI i0, sI i1, sI i2, sI i3, sI i4, sI 1, sI 4, sI c0, sI c1, sI c2, sI c3, sR x, sR r1, sR lo, sR y, sI 112, sU]) (st' := [(.int 117), (.int 117)]) rfl rfl (pc' := 205) rfl ?_
      refine oIcF W163 (cd := .ne) (o := 29) (by decide +kernel) (XT.ii_ne_f rfl) (pc' := 208) rfl ?_
      refine oGo W163 [.aload 14, .iconst 3] (by decide +kernel) (ls' := #[sI i0, sI i1, sI i2, sI i3, sI i4, sI 1, sI 4, sI c0, sI c1, sI c2, sI c3, sR x, sR r1, sR lo, sR y, sI 112, sU]) (st' := [(.int 3), (.ref y)]) rfl rfl (pc' := 211) rfl ?_
      obtain ⟨v164, T164, L164, h164, vm164, W164, ⟨rfl, e164⟩, C164, st164⟩ := oCallV W163 (idx := 50) (pc := 211) (ls := #[sI i0, sI i1, sI i2, sI i3, sI i4, sI 1, sI 4, sI c0, sI c1, sI c2, sI c3, sR x, sR r1, sR lo, sR y, sI 112, sU]) (st := []) (argsL := [(.int 3)]) F159.exa (c_chr K K.2.2.2.1 F159 (lb rfl) (i := 3) (by decide) (c := (98 : Int32)) rfl) (fun x hx => nomatch hx) (wK K 238 rfl) (wK K 79 rfl) (notFace_of_selects (args := #[]) (mvT W163.warm (wK K 81 rfl))) (wK K 81 rfl) (wK K 80 rfl) (wK K 10 rfl) (wK K 82 rfl) (by decide) (na := 1) rfl (by decide +kernel) rfl (stk := [(.int 3), (.ref y)]) rfl (by decide +kernel) (V := 0) (lb rfl) (lb rfl) (lb rfl) (lb rfl) (lb rfl)
      refine oLift st164 ?_
      rw [e164] at W164 C164
      show OG _ _ _ _ _ _ _ _ _ _ _ (mkF m 214 #[sI i0, sI i1, sI i2, sI i3, sI i4, sI 1, sI 4, sI c0, sI c1, sI c2, sI c3, sR x, sR r1, sR lo, sR y, sI 112, sU] [(.int 98)])
      refine oGo W164 [.bipush 98] (by decide +kernel) (ls' := #[sI i0, sI i1, sI i2, sI i3, sI i4, sI 1, sI 4, sI c0, sI c1, sI c2, sI c3, sR x, sR r1, sR lo, sR y, sI 112, sU]) (st' := [(.int 98), (.int 98)]) rfl rfl (pc' := 216) rfl ?_
      refine oIcF W164 (cd := .ne) (o := 18) (by decide +kernel) (XT.ii_ne_f rfl) (pc' := 219) rfl ?_
      refine oGo W164 [.aload 14, .iconst 4] (by decide +kernel) (ls' := #[sI i0, sI i1, sI i2, sI i3, sI i4, sI 1, sI 4, sI c0, sI c1, sI c2, sI c3, sR x, sR r1, sR lo, sR y, sI 112, sU]) (st' := [(.int 4), (.ref y)]) rfl rfl (pc' := 222) rfl ?_
      obtain ⟨v165, T165, L165, h165, vm165, W165, ⟨rfl, e165⟩, C165, st165⟩ := oCallV W164 (idx := 50) (pc := 222) (ls := #[sI i0, sI i1, sI i2, sI i3, sI i4, sI 1, sI 4, sI c0, sI c1, sI c2, sI c3, sR x, sR r1, sR lo, sR y, sI 112, sU]) (st := []) (argsL := [(.int 4)]) F159.exa (c_chr K K.2.2.2.1 F159 (lb rfl) (i := 4) (by decide) (c := (47 : Int32)) rfl) (fun x hx => nomatch hx) (wK K 238 rfl) (wK K 79 rfl) (notFace_of_selects (args := #[]) (mvT W164.warm (wK K 81 rfl))) (wK K 81 rfl) (wK K 80 rfl) (wK K 10 rfl) (wK K 82 rfl) (by decide) (na := 1) rfl (by decide +kernel) rfl (stk := [(.int 4), (.ref y)]) rfl (by decide +kernel) (V := 0) (lb rfl) (lb rfl) (lb rfl) (lb rfl) (lb rfl)
      refine oLift st165 ?_
      rw [e165] at W165 C165
      show OG _ _ _ _ _ _ _ _ _ _ _ (mkF m 225 #[sI i0, sI i1, sI i2, sI i3, sI i4, sI 1, sI 4, sI c0, sI c1, sI c2, sI c3, sR x, sR r1, sR lo, sR y, sI 112, sU] [(.int 47)])
      refine oGo W165 [.bipush 47] (by decide +kernel) (ls' := #[sI i0, sI i1, sI i2, sI i3, sI i4, sI 1, sI 4, sI c0, sI c1, sI c2, sI c3, sR x, sR r1, sR lo, sR y, sI 112, sU]) (st' := [(.int 47), (.int 47)]) rfl rfl (pc' := 227) rfl ?_
      refine oIcF W165 (cd := .ne) (o := 7) (by decide +kernel) (XT.ii_ne_f rfl) (pc' := 230) rfl ?_
      refine oGo W165 [.iconst 1, .goto 4, .istore 16, .iload 16] (by decide +kernel) (ls' := #[sI i0, sI i1, sI i2, sI i3, sI i4, sI 1, sI 4, sI c0, sI c1, sI c2, sI c3, sR x, sR r1, sR lo, sR y, sI 112, sI 1]) (st' := [(.int 1)]) rfl rfl (pc' := 239) rfl ?_
      refine oIfF W165 (cd := .eq) (o := 18) (by decide +kernel) (XT.i0_eq_f (by decide)) (pc' := 242) rfl ?_
      refine oGo W165 [.aload 14, .iconst 5] (by decide +kernel) (ls' := #[sI i0, sI i1, sI i2, sI i3, sI i4, sI 1, sI 4, sI c0, sI c1, sI c2, sI c3, sR x, sR r1, sR lo, sR y, sI 112, sI 1]) (st' := [(.int 5), (.ref y)]) rfl rfl (pc' := 245) rfl ?_
      obtain ⟨v166, T166, L166, h166, vm166, W166, ⟨rfl, e166⟩, C166, st166⟩ := oCallV W165 (idx := 50) (pc := 245) (ls := #[sI i0, sI i1, sI i2, sI i3, sI i4, sI 1, sI 4, sI c0, sI c1, sI c2, sI c3, sR x, sR r1, sR lo, sR y, sI 112, sI 1]) (st := []) (argsL := [(.int 5)]) F159.exa (c_chr K K.2.2.2.1 F159 (lb rfl) (i := 5) (by decide) (c := c0) rfl) (fun x hx => nomatch hx) (wK K 238 rfl) (wK K 79 rfl) (notFace_of_selects (args := #[]) (mvT W165.warm (wK K 81 rfl))) (wK K 81 rfl) (wK K 80 rfl) (wK K 10 rfl) (wK K 82 rfl) (by decide) (na := 1) rfl (by decide +kernel) rfl (stk := [(.int 5), (.ref y)]) rfl (by decide +kernel) (V := 0) (lb rfl) (lb rfl) (lb rfl) (lb rfl) (lb rfl)
      refine oLift st166 ?_
      rw [e166] at W166 C166
      show OG _ _ _ _ _ _ _ _ _ _ _ (mkF m 248 #[sI i0, sI i1, sI i2, sI i3, sI i4, sI 1, sI 4, sI c0, sI c1, sI c2, sI c3, sR x, sR r1, sR lo, sR y, sI 112, sI 1] [(.int c0)])
      refine oGo W166 [.iload 7] (by decide +kernel) (ls' := #[sI i0, sI i1, sI i2, sI i3, sI i4, sI 1, sI 4, sI c0, sI c1, sI c2, sI c3, sR x, sR r1, sR lo, sR y, sI 112, sI 1]) (st' := [(.int c0), (.int c0)]) rfl rfl (pc' := 250) rfl ?_
      refine oIcF W166 (cd := .ne) (o := 7) (by decide +kernel) (XT.ii_ne_f rfl) (pc' := 253) rfl ?_
      refine oGo W166 [.iconst 1, .goto 4, .istore 16, .iload 6, .iconst 2] (by decide +kernel) (ls' := #[sI i0, sI i1, sI i2, sI i3, sI i4, sI 1, sI 4, sI c0, sI c1, sI c2, sI c3, sR x, sR r1, sR lo, sR y, sI 112, sI 1]) (st' := [(.int 2), (.int 4)]) rfl rfl (pc' := 263) rfl ?_
      refine oIcF W166 (cd := .lt) (o := 27) (by decide +kernel) (XT.ii_lt_f (by decide)) (pc' := 266) rfl ?_
      refine oGo W166 [.iload 16] (by decide +kernel) (ls' := #[sI i0, sI i1, sI i2, sI i3, sI i4, sI 1, sI 4, sI c0, sI c1, sI c2, sI c3, sR x, sR r1, sR lo, sR y, sI 112, sI 1]) (st' := [(.int 1)]) rfl rfl (pc' := 268) rfl ?_
      refine oIfF W166 (cd := .eq) (o := 19) (by decide +kernel) (XT.i0_eq_f (by decide)) (pc' := 271) rfl ?_
      refine oGo W166 [.aload 14, .bipush 6] (by decide +kernel) (ls' := #[sI i0, sI i1, sI i2, sI i3, sI i4, sI 1, sI 4, sI c0, sI c1, sI c2, sI c3, sR x, sR r1, sR lo, sR y, sI 112, sI 1]) (st' := [(.int 6), (.ref y)]) rfl rfl (pc' := 275) rfl ?_
      obtain ⟨v167, T167, L167, h167, vm167, W167, ⟨rfl, e167⟩, C167, st167⟩ := oCallV W166 (idx := 50) (pc := 275) (ls := #[sI i0, sI i1, sI i2, sI i3, sI i4, sI 1, sI 4, sI c0, sI c1, sI c2, sI c3, sR x, sR r1, sR lo, sR y, sI 112, sI 1]) (st := []) (argsL := [(.int 6)]) F159.exa (c_chr K K.2.2.2.1 F159 (lb rfl) (i := 6) (by decide) (c := c1) rfl) (fun x hx => nomatch hx) (wK K 238 rfl) (wK K 79 rfl) (notFace_of_selects (args := #[]) (mvT W166.warm (wK K 81 rfl))) (wK K 81 rfl) (wK K 80 rfl) (wK K 10 rfl) (wK K 82 rfl) (by decide) (na := 1) rfl (by decide +kernel) rfl (stk := [(.int 6), (.ref y)]) rfl (by decide +kernel) (V := 0) (lb rfl) (lb rfl) (lb rfl) (lb rfl) (lb rfl)
      refine oLift st167 ?_
      rw [e167] at W167 C167
      show OG _ _ _ _ _ _ _ _ _ _ _ (mkF m 278 #[sI i0, sI i1, sI i2, sI i3, sI i4, sI 1, sI 4, sI c0, sI c1, sI c2, sI c3, sR x, sR r1, sR lo, sR y, sI 112, sI 1] [(.int c1)])
      refine oGo W167 [.iload 8] (by decide +kernel) (ls' := #[sI i0, sI i1, sI i2, sI i3, sI i4, sI 1, sI 4, sI c0, sI c1, sI c2, sI c3, sR x, sR r1, sR lo, sR y, sI 112, sI 1]) (st' := [(.int c1), (.int c1)]) rfl rfl (pc' := 280) rfl ?_
      refine oIcF W167 (cd := .ne) (o := 7) (by decide +kernel) (XT.ii_ne_f rfl) (pc' := 283) rfl ?_
      refine oGo W167 [.iconst 1, .goto 4, .istore 16, .iload 6, .iconst 3] (by decide +kernel) (ls' := #[sI i0, sI i1, sI i2, sI i3, sI i4, sI 1, sI 4, sI c0, sI c1, sI c2, sI c3, sR x, sR r1, sR lo, sR y, sI 112, sI 1]) (st' := [(.int 3), (.int 4)]) rfl rfl (pc' := 293) rfl ?_
      refine oIcF W167 (cd := .lt) (o := 27) (by decide +kernel) (XT.ii_lt_f (by decide)) (pc' := 296) rfl ?_
      refine oGo W167 [.iload 16] (by decide +kernel) (ls' := #[sI i0, sI i1, sI i2, sI i3, sI i4, sI 1, sI 4, sI c0, sI c1, sI c2, sI c3, sR x, sR r1, sR lo, sR y, sI 112, sI 1]) (st' := [(.int 1)]) rfl rfl (pc' := 298) rfl ?_
      refine oIfF W167 (cd := .eq) (o := 19) (by decide +kernel) (XT.i0_eq_f (by decide)) (pc' := 301) rfl ?_
      refine oGo W167 [.aload 14, .bipush 7] (by decide +kernel) (ls' := #[sI i0, sI i1, sI i2, sI i3, sI i4, sI 1, sI 4, sI c0, sI c1, sI c2, sI c3, sR x, sR r1, sR lo, sR y, sI 112, sI 1]) (st' := [(.int 7), (.ref y)]) rfl rfl (pc' := 305) rfl ?_
      obtain ⟨v168, T168, L168, h168, vm168, W168, ⟨rfl, e168⟩, C168, st168⟩ := oCallV W167 (idx := 50) (pc := 305) (ls := #[sI i0, sI i1, sI i2, sI i3, sI i4, sI 1, sI 4, sI c0, sI c1, sI c2, sI c3, sR x, sR r1, sR lo, sR y, sI 112, sI 1]) (st := []) (argsL := [(.int 7)]) F159.exa (c_chr K K.2.2.2.1 F159 (lb rfl) (i := 7) (by decide) (c := c2) rfl) (fun x hx => nomatch hx) (wK K 238 rfl) (wK K 79 rfl) (notFace_of_selects (args := #[]) (mvT W167.warm (wK K 81 rfl))) (wK K 81 rfl) (wK K 80 rfl) (wK K 10 rfl) (wK K 82 rfl) (by decide) (na := 1) rfl (by decide +kernel) rfl (stk := [(.int 7), (.ref y)]) rfl (by decide +kernel) (V := 0) (lb rfl) (lb rfl) (lb rfl) (lb rfl) (lb rfl)
      refine oLift st168 ?_
      rw [e168] at W168 C168
      show OG _ _ _ _ _ _ _ _ _ _ _ (mkF m 308 #[sI i0, sI i1, sI i2, sI i3, sI i4, sI 1, sI 4, sI c0, sI c1, sI c2, sI c3, sR x, sR r1, sR lo, sR y, sI 112, sI 1] [(.int c2)])
      refine oGo W168 [.iload 9] (by decide +kernel) (ls' := #[sI i0, sI i1, sI i2, sI i3, sI i4, sI 1, sI 4, sI c0, sI c1, sI c2, sI c3, sR x, sR r1, sR lo, sR y, sI 112, sI 1]) (st' := [(.int c2), (.int c2)]) rfl rfl (pc' := 310) rfl ?_
      refine oIcF W168 (cd := .ne) (o := 7) (by decide +kernel) (XT.ii_ne_f rfl) (pc' := 313) rfl ?_
      refine oGo W168 [.iconst 1, .goto 4, .istore 16, .iload 6, .iconst 4] (by decide +kernel) (ls' := #[sI i0, sI i1, sI i2, sI i3, sI i4, sI 1, sI 4, sI c0, sI c1, sI c2, sI c3, sR x, sR r1, sR lo, sR y, sI 112, sI 1]) (st' := [(.int 4), (.int 4)]) rfl rfl (pc' := 323) rfl ?_
      refine oIcF W168 (cd := .lt) (o := 27) (by decide +kernel) (XT.ii_lt_f (by decide)) (pc' := 326) rfl ?_
      refine oGo W168 [.iload 16] (by decide +kernel) (ls' := #[sI i0, sI i1, sI i2, sI i3, sI i4, sI 1, sI 4, sI c0, sI c1, sI c2, sI c3, sR x, sR r1, sR lo, sR y, sI 112, sI 1]) (st' := [(.int 1)]) rfl rfl (pc' := 328) rfl ?_
      refine oIfF W168 (cd := .eq) (o := 19) (by decide +kernel) (XT.i0_eq_f (by decide)) (pc' := 331) rfl ?_
      refine oGo W168 [.aload 14, .bipush 8] (by decide +kernel) (ls' := #[sI i0, sI i1, sI i2, sI i3, sI i4, sI 1, sI 4, sI c0, sI c1, sI c2, sI c3, sR x, sR r1, sR lo, sR y, sI 112, sI 1]) (st' := [(.int 8), (.ref y)]) rfl rfl (pc' := 335) rfl ?_
      obtain ⟨v169, T169, L169, h169, vm169, W169, ⟨rfl, e169⟩, C169, st169⟩ := oCallV W168 (idx := 50) (pc := 335) (ls := #[sI i0, sI i1, sI i2, sI i3, sI i4, sI 1, sI 4, sI c0, sI c1, sI c2, sI c3, sR x, sR r1, sR lo, sR y, sI 112, sI 1]) (st := []) (argsL := [(.int 8)]) F159.exa (c_chr K K.2.2.2.1 F159 (lb rfl) (i := 8) (by decide) (c := c3) rfl) (fun x hx => nomatch hx) (wK K 238 rfl) (wK K 79 rfl) (notFace_of_selects (args := #[]) (mvT W168.warm (wK K 81 rfl))) (wK K 81 rfl) (wK K 80 rfl) (wK K 10 rfl) (wK K 82 rfl) (by decide) (na := 1) rfl (by decide +kernel) rfl (stk := [(.int 8), (.ref y)]) rfl (by decide +kernel) (V := 0) (lb rfl) (lb rfl) (lb rfl) (lb rfl) (lb rfl)
      refine oLift st169 ?_
      rw [e169] at W169 C169
      show OG _ _ _ _ _ _ _ _ _ _ _ (mkF m 338 #[sI i0, sI i1, sI i2, sI i3, sI i4, sI 1, sI 4, sI c0, sI c1, sI c2, sI c3, sR x, sR r1, sR lo, sR y, sI 112, sI 1] [(.int c3)])
      refine oGo W169 [.iload 10] (by decide +kernel) (ls' := #[sI i0, sI i1, sI i2, sI i3, sI i4, sI 1, sI 4, sI c0, sI c1, sI c2, sI c3, sR x, sR r1, sR lo, sR y, sI 112, sI 1]) (st' := [(.int c3), (.int c3)]) rfl rfl (pc' := 340) rfl ?_
      refine oIcF W169 (cd := .ne) (o := 7) (by decide +kernel) (XT.ii_ne_f rfl) (pc' := 343) rfl ?_
      refine oGo W169 [.iconst 1, .goto 4, .istore 16, .iload 16] (by decide +kernel) (ls' := #[sI i0, sI i1, sI i2, sI i3, sI i4, sI 1, sI 4, sI c0, sI c1, sI c2, sI c3, sR x, sR r1, sR lo, sR y, sI 112, sI 1]) (st' := [(.int 1)]) rfl rfl (pc' := 352) rfl ?_
      exact oRetN (by simp) W169 rfl (by decide +kernel) (lb rfl) (lb rfl) (fun vm' hv => rfl)
set_option maxRecDepth 65536 in
set_option maxHeartbeats 40000000 in
theorem comes_1 {Post : Tables → Env → Array Value → State → Outcome → State → Prop} (hpost : ∀ tb e args s v u, (limb_1_1.after args s (.returned v) u = true ∧ limb_1_2.after args s (.returned v) u = true ∧ True) → ReturnedEndW s (.returned v) u (Jvm.fieldLocs frame_1_writes args s ++ Jvm.arrayLocs frame_1_arrays args s ++ Jvm.staticLocs frame_1_statics s) 40 4288 → Post tb e args s (.returned v) u) :
    ArmFor flags0 classFile x code maxLocals ret World_1 tables_1 room_1 Calls_1 rest_1 Pre_1 Post := by
  intro l hfl _ _ p e ha hc hk s m args below hf hA hF happ hP
  obtain ⟨hcalls, hrest, hpre⟩ := hP
  obtain ⟨-, -, -, hnamed, -, -, -, hat⟩ := (Spec.applies_iff hf).mp happ
  obtain ⟨hg, hn⟩ := and_e (Cond.before_iff.mp (show (Jvm.Cond.and given_1 narrow_1).before args s = true from hpre))
  obtain ⟨hcnt, t0⟩ := and_e hg
  obtain ⟨g0, t1⟩ := and_e t0
  obtain ⟨g1, t2⟩ := and_e t1
  obtain ⟨g2, t3⟩ := and_e t2
  obtain ⟨g3, t4⟩ := and_e t3
  obtain ⟨w0, w1, w2, w3, w4, rfl⟩ : ∃ w0 w1 w2 w3 w4 : Value, args = #[w0, w1, w2, w3, w4] := by
    have hs : args.size = 5 := by simpa [Cond.value, given_1] using hcnt
    obtain ⟨L⟩ := args
    match L, hs with
    | [w0, w1, w2, w3, w4], _ => exact ⟨w0, w1, w2, w3, w4, rfl⟩
  have hw := fun d (hd : d ∈ tables_1) => atoms_spec (ws := Jvm.Cond.code x code maxLocals ret :: tables_1) hat d (List.mem_cons_of_mem _ hd)
  obtain ⟨hsets, hown0⟩ := atoms_of _ (rest_1_c_eq ▸ (show rest_1_c.before _ s = true from hrest))
  obtain ⟨i0, e0⟩ := is_v g0
  obtain rfl : w0 = (.int i0) := Option.some.inj e0
  obtain ⟨i1, e1⟩ := is_v g1
  obtain rfl : w1 = (.int i1) := Option.some.inj e1
  obtain ⟨i2, e2⟩ := is_v g2
  obtain rfl : w2 = (.int i2) := Option.some.inj e2
  obtain ⟨i3, e3⟩ := is_v g3
  obtain rfl : w3 = (.int i3) := Option.some.inj e3
  obtain ⟨i4, e4⟩ := is_v t4
  obtain rfl : w4 = (.int i4) := Option.some.inj e4
  have n5 := not_v (Cond.before_iff.mp (hsets _ (List.mem_of_getElem? (i := 2) rfl)))
  obtain ⟨z, ez⟩ := is_v (Cond.before_iff.mp (hsets _ (List.mem_of_getElem? (i := 1) rfl)))
  have Sz : Sta s s.heap "java/lang/String" "COMPACT_STRINGS" "Z" (.int z) := Sta.start ez (Or.inl (hsets _ (List.mem_of_getElem? (i := 0) rfl)))
  have cz : ¬ (z = (0 : Int32)) := gotF (Cond.eq_ints ez (Term.int_eval (0))) n5
  obtain ⟨c0, u1⟩ := and_e hn
  obtain ⟨c1, u2⟩ := and_e u1
  obtain ⟨c2, u3⟩ := and_e u2
  obtain ⟨c3, u4⟩ := and_e u3
  obtain ⟨c4, u5⟩ := and_e u4
  obtain ⟨c5, u6⟩ := and_e u5
  obtain ⟨c6, u7⟩ := and_e u6
  obtain ⟨c7, u8⟩ := and_e u7
  obtain ⟨c8, u9⟩ := and_e u8
  obtain ⟨c9, u10⟩ := and_e u9
  obtain ⟨c10, u11⟩ := and_e u10
  obtain ⟨c11, u12⟩ := and_e u11
  obtain ⟨c12, u13⟩ := and_e u12
  obtain ⟨c13, u14⟩ := and_e u13
  obtain ⟨c14, u15⟩ := and_e u14
  obtain ⟨c15, u16⟩ := and_e u15
  obtain ⟨c16, u17⟩ := and_e u16
  obtain ⟨c17, u18⟩ := and_e u17
  obtain ⟨c18, u19⟩ := and_e u18
  obtain ⟨c19, u20⟩ := and_e u19
  obtain ⟨c20, u21⟩ := and_e u20
  have c21 := u21
  have hfit : Fit s := fun {y c} hc i hi => by
    obtain ⟨ha, rfl⟩ := Array.getElem?_eq_some_iff.mp hc
    have q := List.all_eq_true.mp ((Array.all_eq_true_iff_forall_mem.mp hF) _ (Array.getElem_mem ha)) i (List.mem_range.mpr hi)
    simpa [Array.getElem?_eq_getElem hi] using q
  obtain ⟨k0, ek0⟩ := exa_v c0
  have Sk0 : Sta s s.heap "com/example/gentle_hub/gentlehub/server/ChannelLocation$Role" "SUBSCRIBER" "Lcom/example/gentle_hub/gentlehub/server/ChannelLocation$Role;" (.ref k0) := Sta.start ek0 (Or.inr ⟨(hw _ (List.mem_of_getElem? (i := 39) rfl)), (hw _ (List.mem_of_getElem? (i := 40) rfl))⟩)
  obtain ⟨l0, el0⟩ := exa_v c1
  have Fl0 : Fld s s.heap k0 "com/example/gentle_hub/gentlehub/server/ChannelLocation$Role" "pathPrefix" "Ljava/lang/String;" (.ref l0) := Fld.start (by rw [← fld_at ek0]; exact el0)
  have Tl0 : Str s s.heap l0 [47, 115, 117, 98, 47] := strStart hfit el0 c1 c5 c2 (n := 5) (by decide) c4 rfl (by decide) (fun va c hv hc => ⟨(elem_in (eqv c12 rfl (Or.inr ⟨_, rfl⟩)) hv rfl hc).2, (elem_in (eqv c13 rfl (Or.inr ⟨_, rfl⟩)) hv rfl hc).2, (elem_in (eqv c14 rfl (Or.inr ⟨_, rfl⟩)) hv rfl hc).2, (elem_in (eqv c15 rfl (Or.inr ⟨_, rfl⟩)) hv rfl hc).2, (elem_in (eqv c16 rfl (Or.inr ⟨_, rfl⟩)) hv rfl hc).2, trivial⟩)
  obtain ⟨k1, ek1⟩ := exa_v c6
  have Sk1 : Sta s s.heap "com/example/gentle_hub/gentlehub/server/ChannelLocation$Role" "PUBLISHER" "Lcom/example/gentle_hub/gentlehub/server/ChannelLocation$Role;" (.ref k1) := Sta.start ek1 (Or.inr ⟨(hw _ (List.mem_of_getElem? (i := 39) rfl)), (hw _ (List.mem_of_getElem? (i := 240) rfl))⟩)
  obtain ⟨l1, el1⟩ := exa_v c7
  have Fl1 : Fld s s.heap k1 "com/example/gentle_hub/gentlehub/server/ChannelLocation$Role" "pathPrefix" "Ljava/lang/String;" (.ref l1) := Fld.start (by rw [← fld_at ek1]; exact el1)
  have Tl1 : Str s s.heap l1 [47, 112, 117, 98, 47] := strStart hfit el1 c7 c11 c8 (n := 5) (by decide) c10 rfl (by decide) (fun va c hv hc => ⟨(elem_in (eqv c17 rfl (Or.inr ⟨_, rfl⟩)) hv rfl hc).2, (elem_in (eqv c18 rfl (Or.inr ⟨_, rfl⟩)) hv rfl hc).2, (elem_in (eqv c19 rfl (Or.inr ⟨_, rfl⟩)) hv rfl hc).2, (elem_in (eqv c20 rfl (Or.inr ⟨_, rfl⟩)) hv rfl hc).2, (elem_in (eqv c21 rfl (Or.inr ⟨_, rfl⟩)) hv rfl hc).2, trivial⟩)
  obtain ⟨fs, efs, rfs⟩ := own_isref (Cond.before_iff.mp (hsets _ (List.mem_of_getElem? (i := 8) rfl)))
  have hSx : Sx s := ⟨fs, Sta.start efs (Or.inl (hsets _ (List.mem_of_getElem? (i := 7) rfl))), rfs⟩
  have hEW : EW s #[.int i0, .int i1, .int i2, .int i3, .int i4] EL := (EW.cons (hw _ (List.mem_of_getElem? (i := 103) rfl)) (by decide) (EW.cons (hw _ (List.mem_of_getElem? (i := 113) rfl)) (by decide) (EW.cons (hw _ (List.mem_of_getElem? (i := 241) rfl)) (by decide) EW.nil)))
  have hCH : CHv s EL s.vm s.heap := CHv.start hEW (fun p hp => hcalls.1 p (EL_in p hp)) (hsets _ (List.mem_of_getElem? (i := 2) rfl)) (hw _ (List.mem_of_getElem? (i := 27) rfl)) (hw _ (List.mem_of_getElem? (i := 9) rfl))
  have K : Ctx s #[.int i0, .int i1, .int i2, .int i3, .int i4] := ⟨hw, ⟨fun d hd => hw d (sW_in d hd), hEW, z, Sz, cz⟩, fun d hd => hw d (sA_in d hd), hSx, fun d hd => hw d (eW_in d hd)⟩
  obtain ⟨n, o, q1, q2, q3, v, L, rfl, ⟨rfl, N, -⟩, hnb, -, r1, r2, r3, r4⟩ := c_law (l := l) K i0 i1 i2 i3 i4 k0 k1 l0 l1 ⟨Sk0, Fl0, Tl0⟩ ⟨Sk1, Fl1, Tl1⟩ s.heap p e ha hc hk s m _ below hf ((Spec.applies_iff_loose hf).mp happ).1 ⟨rfl, State.Warmed39.refl s, rfl, hCH, exR _, fun _ hp => nomatch hp⟩ trivial
  exact ⟨n, _, q1, q2, q3, hpost _ _ _ _ _ _ ⟨Cond.after_iff.mpr rfl, Cond.after_iff.mpr (eq_i res_at (Term.int_eval (1)) rfl), trivial⟩ ⟨r1, r2, r3, (r4.sift fun y hy => Or.inr (N y hy)).mono (by decide) (by decide)⟩⟩
theorem main_1_1 : Claimed_1_1 := comes_1 fun _ _ _ _ _ _ h hF => ⟨h.1, hF⟩
theorem main_1_2 : Claimed_1_2 := comes_1 fun _ _ _ _ _ _ h hF => ⟨h.2.1, hF⟩
end Jvm.Pilot.@@N@@
namespace Jvm.Pilot.@@N@@
open Jvm Jvm.ClassFile Sem Op Lib Jvm.Free Jvm.Stand Jvm.Pilot.@@N@@.Jvm.D
/-! MADE BY PROGRAM (witnessworld.py) out of the Statement's table words and the real class files: 31 classes; the members and pool entries that the words name. The judged class is class 1, her method 3. -/
namespace start1
open Jvm.ClassFile
def u (s : String) : CpInfo := .utf8 (stringToUtf16 s)
/-- a pool by its gaps: so many unusable entries, then the entry; so many at the end -/
def gap : Nat → List CpInfo → List CpInfo
  | 0, r => r
  | n + 1, r => .unusable :: gap n r
def poolList (es : List (Nat × CpInfo)) (last : Nat) : List CpInfo := es.foldr (fun e r => gap e.1 (e.2 :: r)) (gap last [])
def pool (es : List (Nat × CpInfo)) (last : Nat) : Array CpInfo := ⟨poolList es last⟩
def fileOf (pool : Array CpInfo) (this : Nat) (attrs : Array Attribute := #[]) (ms : Array MethodInfo := #[]) (fl : Nat := 33) (sup : Nat := 0) (ifs : Array Nat := #[]) (fds : Array FieldInfo := #[]) : ClassFile where
  minorVersion := 0
  majorVersion := 65
  constantPool := pool
  accessFlags := fl
  thisClass := this
  superClass := sup
  interfaces := ifs
  fields := fds
  methods := ms
  attributes := attrs
def plain (name : String) (sup : Option ClassId) : Class where
  name := name
  kind := .ordinary
  loader := none
  accessFlags := 33
  super := sup
  interfaces := #[]
  cf := none
  fields := #[]
  methods := #[]
  instanceTypes := #[]
  staticTypes := #[]
  resolved := #[]
  callSites := []
  init := .initialized
  statics := none
  mirror := none

def pool0 : Array CpInfo := pool [(5, u "<init>"), (0, u "()V"), (1, .class_ 10), (1, u "java/lang/Object")] 113

def k0c0 : Code := { maxStack := 0, maxLocals := 1, code := object_method_1_code, exceptionTable := #[], attributes := #[] }
def k0m0 : Method := { name := "<init>", desc := "()V", sig := { parameters := [], returnType := none }, accessFlags := 1, code := some k0c0 }
/-- java/lang/Object -/
def k0 : Class := { plain "java/lang/Object" none with
  accessFlags := 33
  interfaces := #[]
  cf := some (fileOf pool0 8 #[] #[{ accessFlags := 1, nameIndex := 5, descriptorIndex := 6, attributes := #[] }] 33 0 #[] #[])
  fields := #[]
  methods := #[k0m0]
  instanceTypes := #[]
  staticTypes := #[]
  resolved := Array.replicate 124 none
  statics := none }

def pool1 : Array CpInfo := pool [(2, .class_ 4), (1, u "java/lang/Object"), (0, u "<init>"), (0, u "()V"), (0, .integer 2147483647), (0, .class_ 9), (0, u "java/lang/String"), (0, .methodref 8 11), (0, .nameAndType 5 12), (0, u "([C)V"), (0, .methodref 14 15), (0, .class_ 16), (0, .nameAndType 17 18), (0, u "com/example/gentle_hub/gentlehub/server/ChannelLocationPathPinLaw"), (0, u "allowed"), (0, u "(I)C"), (0, .methodref 14 20), (0, .nameAndType 21 22), (0, u "draw"), (0, u "(ICCCC)Ljava/lang/String;"), (0, .fieldref 24 25), (0, .class_ 26), (0, .nameAndType 27 28), (0, u "com/example/gentle_hub/gentlehub/server/ChannelLocation$Role"), (0, u "PUBLISHER"), (0, u "Lcom/example/gentle_hub/gentlehub/server/ChannelLocation$Role;"), (0, .fieldref 24 30), (0, .nameAndType 31 28), (0, u "SUBSCRIBER"), (0, .class_ 33), (0, u "com/example/gentle_hub/gentlehub/server/ChannelLocation"), (0, .class_ 35), (0, u "com/example/gentle_hub/gentlehub/core/ChannelName"), (0, .methodref 34 37), (0, .nameAndType 5 38), (0, u "(Ljava/lang/String;)V"), (0, .methodref 32 40), (0, .nameAndType 5 41), (0, u "(Lcom/example/gentle_hub/gentlehub/server/ChannelLocation$Role;Lcom/example/gentle_hub/gentlehub/core/ChannelName;)V"), (0, .methodref 32 43), (0, .nameAndType 44 45), (0, u "path"), (0, u "()Ljava/lang/String;"), (0, .methodref 8 47), (0, .nameAndType 48 49), (0, u "length"), (0, u "()I"), (0, .methodref 8 51), (0, .nameAndType 52 18), (0, u "charAt"), (3, u "law"), (0, u "(IIIII)Z")] 4

def k1m0 : Method := { name := "<init>", desc := "()V", sig := { parameters := [], returnType := none }, accessFlags := 1, code := none }
def k1c1 : Code := { maxStack := 3, maxLocals := 2, code := method_2_code, exceptionTable := #[], attributes := #[] }
def k1m1 : Method := { name := "allowed", desc := "(I)C", sig := { parameters := [.int], returnType := some .char }, accessFlags := 10, code := some k1c1 }
def k1c2 : Code := { maxStack := 6, maxLocals := 5, code := method_3_code, exceptionTable := #[], attributes := #[] }
def k1m2 : Method := { name := "draw", desc := "(ICCCC)Ljava/lang/String;", sig := { parameters := [.int, .char, .char, .char, .char], returnType := some (.object "java/lang/String") }, accessFlags := 10, code := some k1c2 }
def k1c3 : Code := { maxStack := 6, maxLocals := 17, code := code, exceptionTable := #[], attributes := #[] }
def k1m3 : Method := { name := "law", desc := "(IIIII)Z", sig := { parameters := [.int, .int, .int, .int, .int], returnType := some .boolean }, accessFlags := 9, code := some k1c3 }
/-- com/example/gentle_hub/gentlehub/server/ChannelLocationPathPinLaw -/
def k1 : Class := { plain "com/example/gentle_hub/gentlehub/server/ChannelLocationPathPinLaw" (some 0) with
  accessFlags := 49
  interfaces := #[]
  cf := some (fileOf pool1 14 #[] #[{ accessFlags := 1, nameIndex := 5, descriptorIndex := 6, attributes := #[] }, { accessFlags := 10, nameIndex := 17, descriptorIndex := 18, attributes := #[] }, { accessFlags := 10, nameIndex := 21, descriptorIndex := 22, attributes := #[] }, { accessFlags := 9, nameIndex := 56, descriptorIndex := 57, attributes := #[] }] 49 2 #[] #[])
  fields := #[]
  methods := #[k1m0, k1m1, k1m2, k1m3]
  instanceTypes := #[]
  staticTypes := #[]
  resolved := Array.replicate 62 none
  statics := none }

def pool2 : Array CpInfo := pool [(1, .class_ 2), (0, u "java/io/Serializable"), (0, .class_ 4), (0, u "java/lang/Object")] 2

/-- java/io/Serializable -/
def k2 : Class := { plain "java/io/Serializable" (some 0) with
  accessFlags := 1537
  interfaces := #[]
  cf := some (fileOf pool2 1 #[] #[] 1537 3 #[] #[])
  fields := #[]
  methods := #[]
  instanceTypes := #[]
  staticTypes := #[]
  resolved := Array.replicate 7 none
  statics := none }

def pool3 : Array CpInfo := pool [(1, .class_ 2), (0, u "java/lang/Comparable"), (0, .class_ 4), (0, u "java/lang/Object")] 7

/-- java/lang/Comparable -/
def k3 : Class := { plain "java/lang/Comparable" (some 0) with
  accessFlags := 1537
  interfaces := #[]
  cf := some (fileOf pool3 1 #[] #[] 1537 3 #[] #[])
  fields := #[]
  methods := #[]
  instanceTypes := #[]
  staticTypes := #[]
  resolved := Array.replicate 12 none
  statics := none }

def pool4 : Array CpInfo := pool [(2, .class_ 4), (1, u "java/lang/CharSequence"), (42, .class_ 48), (0, u "java/lang/CharSequence$1CodePointIterator"), (10, .class_ 60), (0, u "java/lang/CharSequence$1CharIterator"), (5, .class_ 67), (0, u "java/lang/Object")] 63

/-- java/lang/CharSequence -/
def k4 : Class := { plain "java/lang/CharSequence" (some 0) with
  accessFlags := 1537
  interfaces := #[]
  cf := some (fileOf pool4 2 #[.nestMembers #[47, 59]] #[] 1537 66 #[] #[])
  fields := #[]
  methods := #[]
  instanceTypes := #[]
  staticTypes := #[]
  resolved := Array.replicate 131 none
  statics := none }

def pool5 : Array CpInfo := pool [(1, .class_ 2), (0, u "java/lang/constant/Constable"), (0, .class_ 4), (0, u "java/lang/Object")] 6

/-- java/lang/constant/Constable -/
def k5 : Class := { plain "java/lang/constant/Constable" (some 0) with
  accessFlags := 1537
  interfaces := #[]
  cf := some (fileOf pool5 1 #[] #[] 1537 3 #[] #[])
  fields := #[]
  methods := #[]
  instanceTypes := #[]
  staticTypes := #[]
  resolved := Array.replicate 11 none
  statics := none }

def pool6 : Array CpInfo := pool [(1, .class_ 2), (0, u "java/lang/constant/ConstantDesc"), (0, .class_ 4), (0, u "java/lang/Object")] 32

/-- java/lang/constant/ConstantDesc -/
def k6 : Class := { plain "java/lang/constant/ConstantDesc" (some 0) with
  accessFlags := 1537
  interfaces := #[]
  cf := some (fileOf pool6 1 #[] #[] 1537 3 #[] #[])
  fields := #[]
  methods := #[]
  instanceTypes := #[]
  staticTypes := #[]
  resolved := Array.replicate 37 none
  statics := none }

def pool7 : Array CpInfo := pool [(1, .methodref 2 3), (0, .class_ 4), (0, .nameAndType 5 6), (0, u "java/lang/Object"), (0, u "<init>"), (0, u "()V"), (2, .fieldref 10 11), (0, .class_ 12), (0, .nameAndType 13 14), (0, u "java/lang/String"), (0, u "value"), (0, u "[B"), (0, .fieldref 10 16), (0, .nameAndType 17 18), (0, u "coder"), (0, u "B"), (2, u "hash"), (0, u "I"), (2, u "hashIsZero"), (0, u "Z"), (0, .methodref 10 28), (0, .nameAndType 5 29), (0, u "([CIILjava/lang/Void;)V"), (8, .fieldref 10 39), (0, .nameAndType 40 26), (0, u "COMPACT_STRINGS"), (1, .class_ 44), (1, u "java/lang/StringUTF16"), (0, u "compress"), (1, .methodref 42 48), (0, .nameAndType 49 50), (0, u "coderFromArrayLen"), (0, u "([BI)B"), (3, .methodref 55 56), (0, .class_ 57), (0, .nameAndType 58 59), (0, u "java/util/Arrays"), (0, u "copyOfRange"), (0, u "([BII)[B"), (47, .class_ 109), (1, u "java/lang/StringLatin1"), (32, u "()Z"), (34, .methodref 42 178), (0, .nameAndType 45 179), (0, u "([CII)[B"), (13, .class_ 195), (1, u "java/lang/System"), (16, .methodref 193 213), (0, .nameAndType 214 215), (0, u "arraycopy"), (0, u "(Ljava/lang/Object;ILjava/lang/Object;II)V"), (118, u "()I"), (0, .methodref 10 336), (0, .nameAndType 17 337), (0, u "()B"), (2, u "()[B"), (22, u "([BI)C"), (27, u "(II)V"), (35, u "(I)C"), (61, .methodref 10 490), (0, .nameAndType 5 491), (0, u "(Ljava/lang/AbstractStringBuilder;Ljava/lang/Void;)V"), (0, .methodref 10 493), (0, .nameAndType 494 142), (0, u "isLatin1"), (0, .methodref 107 496), (0, .nameAndType 497 363), (0, u "charAt"), (3, u "checkIndex"), (3, .methodref 10 506), (0, .nameAndType 507 334), (0, u "length"), (24, u "getBytes"), (8, .methodref 107 542), (0, .nameAndType 543 544), (0, u "equals"), (0, u "([B[B)Z"), (4, .methodref 550 506), (0, .class_ 551), (0, u "java/lang/AbstractStringBuilder"), (0, .methodref 550 553), (0, .nameAndType 554 340), (0, u "getValue"), (18, u "(Ljava/lang/Object;)Z"), (1, .class_ 576), (0, u "java/lang/CharSequence"), (22, u "CASE_INSENSITIVE_ORDER"), (0, u "Ljava/util/Comparator;"), (32, .methodref 10 634), (0, .nameAndType 635 636), (0, u "indexOf"), (0, u "(II)I"), (0, .methodref 107 638), (0, .nameAndType 635 639), (0, u "([BIII)I"), (52, u "isEmpty"), (72, u "(I)I"), (55, u "([BIB)V"), (188, u "([C)V"), (36, .methodref 550 493), (5, .fieldref 1054 1055), (0, .class_ 1056), (0, .nameAndType 1057 1058), (0, u "jdk/internal/util/Preconditions"), (0, u "SIOOBE_FORMATTER"), (0, u "Ljava/util/function/BiFunction;"), (0, .methodref 1054 1060), (0, .nameAndType 501 1061), (0, u "(IILjava/util/function/BiFunction;)I"), (39, u "serialPersistentFields"), (0, u "[Ljava/io/ObjectStreamField;"), (0, .class_ 1104), (0, u "java/lang/String$CaseInsensitiveComparator"), (1, .class_ 1107), (0, u "java/io/Serializable"), (0, .class_ 1109), (0, u "java/lang/Comparable"), (0, .class_ 1111), (0, u "java/lang/constant/Constable"), (0, .class_ 1113), (0, u "java/lang/constant/ConstantDesc"), (2, u "serialVersionUID"), (0, u "J"), (3, u "REPL"), (0, u "C"), (2, u "LATIN1"), (1, u "UTF16"), (105, u "(Ljava/lang/StringBuilder;)V")] 217

def k7m0 : Method := { name := "<init>", desc := "()V", sig := { parameters := [], returnType := none }, accessFlags := 1, code := none }
def k7c1 : Code := { maxStack := 5, maxLocals := 2, code := jdk_42_method_3_code, exceptionTable := #[], attributes := #[] }
def k7m1 : Method := { name := "<init>", desc := "([C)V", sig := { parameters := [(.array .char)], returnType := none }, accessFlags := 1, code := some k7c1 }
def k7c2 : Code := { maxStack := 3, maxLocals := 2, code := jdk_42_method_53_code, exceptionTable := #[], attributes := #[] }
def k7m2 : Method := { name := "<init>", desc := "(Ljava/lang/StringBuilder;)V", sig := { parameters := [(.object "java/lang/StringBuilder")], returnType := none }, accessFlags := 1, code := some k7c2 }
def k7c3 : Code := { maxStack := 2, maxLocals := 1, code := jdk_42_method_54_code, exceptionTable := #[], attributes := #[] }
def k7m3 : Method := { name := "length", desc := "()I", sig := { parameters := [], returnType := some .int }, accessFlags := 1, code := some k7c3 }
def k7c4 : Code := { maxStack := 1, maxLocals := 1, code := jdk_42_method_55_code, exceptionTable := #[], attributes := #[] }
def k7m4 : Method := { name := "isEmpty", desc := "()Z", sig := { parameters := [], returnType := some .boolean }, accessFlags := 1, code := some k7c4 }
def k7c5 : Code := { maxStack := 2, maxLocals := 2, code := jdk_42_method_56_code, exceptionTable := #[], attributes := #[] }
def k7m5 : Method := { name := "charAt", desc := "(I)C", sig := { parameters := [.int], returnType := some .char }, accessFlags := 1, code := some k7c5 }
def k7c6 : Code := { maxStack := 2, maxLocals := 3, code := jdk_42_method_66_code, exceptionTable := #[], attributes := #[] }
def k7m6 : Method := { name := "equals", desc := "(Ljava/lang/Object;)Z", sig := { parameters := [(.object "java/lang/Object")], returnType := some .boolean }, accessFlags := 1, code := some k7c6 }
def k7c7 : Code := { maxStack := 3, maxLocals := 2, code := jdk_42_method_79_code, exceptionTable := #[], attributes := #[] }
def k7m7 : Method := { name := "indexOf", desc := "(I)I", sig := { parameters := [.int], returnType := some .int }, accessFlags := 1, code := some k7c7 }
def k7c8 : Code := { maxStack := 4, maxLocals := 3, code := jdk_42_method_80_code, exceptionTable := #[], attributes := #[] }
def k7m8 : Method := { name := "indexOf", desc := "(II)I", sig := { parameters := [.int, .int], returnType := some .int }, accessFlags := 1, code := some k7c8 }
def k7c9 : Code := { maxStack := 5, maxLocals := 4, code := jdk_42_method_147_code, exceptionTable := #[], attributes := #[] }
def k7m9 : Method := { name := "getBytes", desc := "([BIB)V", sig := { parameters := [(.array .byte), .int, .byte], returnType := none }, accessFlags := 0, code := some k7c9 }
def k7c10 : Code := { maxStack := 4, maxLocals := 6, code := jdk_42_method_149_code, exceptionTable := #[], attributes := #[] }
def k7m10 : Method := { name := "<init>", desc := "([CIILjava/lang/Void;)V", sig := { parameters := [(.array .char), .int, .int, (.object "java/lang/Void")], returnType := none }, accessFlags := 2, code := some k7c10 }
def k7c11 : Code := { maxStack := 5, maxLocals := 5, code := jdk_42_method_150_code, exceptionTable := #[], attributes := #[] }
def k7m11 : Method := { name := "<init>", desc := "(Ljava/lang/AbstractStringBuilder;Ljava/lang/Void;)V", sig := { parameters := [(.object "java/lang/AbstractStringBuilder"), (.object "java/lang/Void")], returnType := none }, accessFlags := 0, code := some k7c11 }
def k7c12 : Code := { maxStack := 1, maxLocals := 1, code := jdk_42_method_152_code, exceptionTable := #[], attributes := #[] }
def k7m12 : Method := { name := "coder", desc := "()B", sig := { parameters := [], returnType := some .byte }, accessFlags := 0, code := some k7c12 }
def k7c13 : Code := { maxStack := 1, maxLocals := 1, code := jdk_42_method_154_code, exceptionTable := #[], attributes := #[] }
def k7m13 : Method := { name := "isLatin1", desc := "()Z", sig := { parameters := [], returnType := some .boolean }, accessFlags := 0, code := some k7c13 }
def k7c14 : Code := { maxStack := 3, maxLocals := 2, code := jdk_42_method_155_code, exceptionTable := #[], attributes := #[] }
def k7m14 : Method := { name := "checkIndex", desc := "(II)V", sig := { parameters := [.int, .int], returnType := none }, accessFlags := 8, code := some k7c14 }
/-- java/lang/String -/
def k7 : Class := { plain "java/lang/String" (some 0) with
  accessFlags := 49
  interfaces := #[2, 3, 4, 5, 6]
  cf := some (fileOf pool7 10 #[.nestMembers #[1103]] #[{ accessFlags := 1, nameIndex := 5, descriptorIndex := 6, attributes := #[] }, { accessFlags := 1, nameIndex := 5, descriptorIndex := 1010, attributes := #[] }, { accessFlags := 1, nameIndex := 5, descriptorIndex := 1233, attributes := #[] }, { accessFlags := 1, nameIndex := 507, descriptorIndex := 334, attributes := #[] }, { accessFlags := 1, nameIndex := 692, descriptorIndex := 142, attributes := #[] }, { accessFlags := 1, nameIndex := 497, descriptorIndex := 427, attributes := #[] }, { accessFlags := 1, nameIndex := 543, descriptorIndex := 573, attributes := #[] }, { accessFlags := 1, nameIndex := 635, descriptorIndex := 765, attributes := #[] }, { accessFlags := 1, nameIndex := 635, descriptorIndex := 636, attributes := #[] }, { accessFlags := 0, nameIndex := 532, descriptorIndex := 821, attributes := #[] }, { accessFlags := 2, nameIndex := 5, descriptorIndex := 29, attributes := #[] }, { accessFlags := 0, nameIndex := 5, descriptorIndex := 491, attributes := #[] }, { accessFlags := 0, nameIndex := 17, descriptorIndex := 337, attributes := #[] }, { accessFlags := 0, nameIndex := 494, descriptorIndex := 142, attributes := #[] }, { accessFlags := 8, nameIndex := 501, descriptorIndex := 391, attributes := #[] }] 49 2 #[1106, 1108, 575, 1110, 1112] #[{ accessFlags := 18, nameIndex := 13, descriptorIndex := 14, attributes := #[] }, { accessFlags := 18, nameIndex := 17, descriptorIndex := 18, attributes := #[] }, { accessFlags := 2, nameIndex := 21, descriptorIndex := 22, attributes := #[] }, { accessFlags := 2, nameIndex := 25, descriptorIndex := 26, attributes := #[] }, { accessFlags := 26, nameIndex := 1116, descriptorIndex := 1117, attributes := #[] }, { accessFlags := 24, nameIndex := 40, descriptorIndex := 26, attributes := #[] }, { accessFlags := 26, nameIndex := 1101, descriptorIndex := 1102, attributes := #[] }, { accessFlags := 26, nameIndex := 1121, descriptorIndex := 1122, attributes := #[] }, { accessFlags := 25, nameIndex := 599, descriptorIndex := 600, attributes := #[] }, { accessFlags := 24, nameIndex := 1125, descriptorIndex := 18, attributes := #[] }, { accessFlags := 24, nameIndex := 1127, descriptorIndex := 18, attributes := #[] }])
  fields := #[{ name := "value", type := (.array .byte), accessFlags := 18, slot := 0, constantValue := 0 }, { name := "coder", type := .byte, accessFlags := 18, slot := 1, constantValue := 0 }, { name := "hash", type := .int, accessFlags := 2, slot := 2, constantValue := 0 }, { name := "hashIsZero", type := .boolean, accessFlags := 2, slot := 3, constantValue := 0 }, { name := "serialVersionUID", type := .long, accessFlags := 26, slot := 0, constantValue := 0 }, { name := "COMPACT_STRINGS", type := .boolean, accessFlags := 24, slot := 1, constantValue := 0 }, { name := "serialPersistentFields", type := (.array (.object "java/io/ObjectStreamField")), accessFlags := 26, slot := 2, constantValue := 0 }, { name := "REPL", type := .char, accessFlags := 26, slot := 3, constantValue := 0 }, { name := "CASE_INSENSITIVE_ORDER", type := (.object "java/util/Comparator"), accessFlags := 25, slot := 4, constantValue := 0 }, { name := "LATIN1", type := .byte, accessFlags := 24, slot := 5, constantValue := 0 }, { name := "UTF16", type := .byte, accessFlags := 24, slot := 6, constantValue := 0 }]
  methods := #[k7m0, k7m1, k7m2, k7m3, k7m4, k7m5, k7m6, k7m7, k7m8, k7m9, k7m10, k7m11, k7m12, k7m13, k7m14]
  instanceTypes := #[(.array .byte), .byte, .int, .boolean]
  staticTypes := #[.long, .boolean, (.array (.object "java/io/ObjectStreamField")), .char, (.object "java/util/Comparator"), .byte, .byte]
  resolved := Array.replicate 1451 none
  statics := some 0 }

def pool8 : Array CpInfo := pool [(6, .class_ 8), (1, u "java/lang/Object"), (0, u "<init>"), (0, u "()V"), (1, .class_ 14), (1, u "java/lang/StringUTF16"), (31, u "$assertionsDisabled"), (0, u "Z"), (13, u "HI_BYTE_SHIFT"), (0, u "I"), (2, u "LO_BYTE_SHIFT"), (49, .methodref 12 116), (0, .nameAndType 117 118), (0, u "compress"), (0, u "([CI[BII)I"), (3, u "([CII)[B"), (138, u "coderFromArrayLen"), (0, u "([BI)B"), (106, .class_ 371), (1, u "java/lang/StringUTF16$LinesSpliterator"), (58, u "MAX_LENGTH"), (196, .class_ 628), (0, u "java/lang/StringUTF16$CodePointsSpliterator"), (0, .class_ 630), (0, u "java/lang/StringUTF16$CharsSpliterator")] 4

def k8m0 : Method := { name := "<init>", desc := "()V", sig := { parameters := [], returnType := none }, accessFlags := 0, code := none }
def k8c1 : Code := { maxStack := 2, maxLocals := 2, code := jdk_52_method_15_code, exceptionTable := #[], attributes := #[] }
def k8m1 : Method := { name := "coderFromArrayLen", desc := "([BI)B", sig := { parameters := [(.array .byte), .int], returnType := some .byte }, accessFlags := 8, code := some k8c1 }
def k8c2 : Code := { maxStack := 5, maxLocals := 6, code := jdk_52_method_16_code, exceptionTable := #[], attributes := #[] }
def k8m2 : Method := { name := "compress", desc := "([CII)[B", sig := { parameters := [(.array .char), .int, .int], returnType := some (.array .byte) }, accessFlags := 9, code := some k8c2 }
def k8c3 : Code := { maxStack := 3, maxLocals := 7, code := jdk_52_method_21_code, exceptionTable := #[], attributes := #[] }
def k8m3 : Method := { name := "compress", desc := "([CI[BII)I", sig := { parameters := [(.array .char), .int, (.array .byte), .int, .int], returnType := some .int }, accessFlags := 9, code := some k8c3 }
/-- java/lang/StringUTF16 -/
def k8 : Class := { plain "java/lang/StringUTF16" (some 0) with
  accessFlags := 48
  interfaces := #[]
  cf := some (fileOf pool8 12 #[.nestMembers #[627, 629, 369]] #[{ accessFlags := 0, nameIndex := 9, descriptorIndex := 10, attributes := #[] }, { accessFlags := 8, nameIndex := 261, descriptorIndex := 262, attributes := #[] }, { accessFlags := 9, nameIndex := 117, descriptorIndex := 122, attributes := #[] }, { accessFlags := 9, nameIndex := 117, descriptorIndex := 118, attributes := #[] }] 48 6 #[] #[{ accessFlags := 26, nameIndex := 61, descriptorIndex := 62, attributes := #[] }, { accessFlags := 26, nameIndex := 65, descriptorIndex := 62, attributes := #[] }, { accessFlags := 24, nameIndex := 430, descriptorIndex := 62, attributes := #[] }, { accessFlags := 4120, nameIndex := 46, descriptorIndex := 47, attributes := #[] }])
  fields := #[{ name := "HI_BYTE_SHIFT", type := .int, accessFlags := 26, slot := 0, constantValue := 0 }, { name := "LO_BYTE_SHIFT", type := .int, accessFlags := 26, slot := 1, constantValue := 0 }, { name := "MAX_LENGTH", type := .int, accessFlags := 24, slot := 2, constantValue := 0 }, { name := "$assertionsDisabled", type := .boolean, accessFlags := 4120, slot := 3, constantValue := 0 }]
  methods := #[k8m0, k8m1, k8m2, k8m3]
  instanceTypes := #[]
  staticTypes := #[.int, .int, .int, .boolean]
  resolved := Array.replicate 635 none
  statics := none }

def pool9 : Array CpInfo := pool [(2, .class_ 4), (1, u "java/lang/Enum"), (0, u "name"), (0, u "Ljava/lang/String;"), (2, u "ordinal"), (0, u "I"), (1, .class_ 14), (1, u "java/lang/Object"), (4, u "hash"), (86, .class_ 108), (1, u "java/lang/Enum$EnumDesc"), (2, .class_ 112), (0, u "java/lang/constant/Constable"), (0, .class_ 114), (0, u "java/lang/Comparable"), (0, .class_ 116), (0, u "java/io/Serializable")] 87

/-- java/lang/Enum -/
def k9 : Class := { plain "java/lang/Enum" (some 0) with
  accessFlags := 1057
  interfaces := #[5, 3, 2]
  cf := some (fileOf pool9 2 #[.nestMembers #[106]] #[] 1057 12 #[111, 113, 115] #[{ accessFlags := 18, nameIndex := 5, descriptorIndex := 6, attributes := #[] }, { accessFlags := 18, nameIndex := 9, descriptorIndex := 10, attributes := #[] }, { accessFlags := 2, nameIndex := 19, descriptorIndex := 10, attributes := #[] }])
  fields := #[{ name := "name", type := (.object "java/lang/String"), accessFlags := 18, slot := 0, constantValue := 0 }, { name := "ordinal", type := .int, accessFlags := 18, slot := 1, constantValue := 0 }, { name := "hash", type := .int, accessFlags := 2, slot := 2, constantValue := 0 }]
  methods := #[]
  instanceTypes := #[(.object "java/lang/String"), .int, .int]
  staticTypes := #[]
  resolved := Array.replicate 204 none
  statics := none }

def pool10 : Array CpInfo := pool [(1, .class_ 2), (0, u "com/example/gentle_hub/gentlehub/server/ChannelLocation$Role"), (2, u "PUBLISHER"), (0, u "Lcom/example/gentle_hub/gentlehub/server/ChannelLocation$Role;"), (2, u "SUBSCRIBER"), (2, u "$VALUES"), (0, u "[Lcom/example/gentle_hub/gentlehub/server/ChannelLocation$Role;"), (6, .class_ 22), (1, u "java/lang/Enum"), (8, u "pathPrefix"), (0, u "Ljava/lang/String;"), (26, .class_ 60), (0, u "com/example/gentle_hub/gentlehub/server/ChannelLocation")] 2

/-- com/example/gentle_hub/gentlehub/server/ChannelLocation$Role -/
def k10 : Class := { plain "com/example/gentle_hub/gentlehub/server/ChannelLocation$Role" (some 9) with
  accessFlags := 16432
  interfaces := #[]
  cf := some (fileOf pool10 1 #[.nestHost 59] #[] 16432 20 #[] #[{ accessFlags := 16409, nameIndex := 5, descriptorIndex := 6, attributes := #[] }, { accessFlags := 16409, nameIndex := 9, descriptorIndex := 6, attributes := #[] }, { accessFlags := 18, nameIndex := 31, descriptorIndex := 32, attributes := #[] }, { accessFlags := 4122, nameIndex := 12, descriptorIndex := 13, attributes := #[] }])
  fields := #[{ name := "PUBLISHER", type := (.object "com/example/gentle_hub/gentlehub/server/ChannelLocation$Role"), accessFlags := 16409, slot := 0, constantValue := 0 }, { name := "SUBSCRIBER", type := (.object "com/example/gentle_hub/gentlehub/server/ChannelLocation$Role"), accessFlags := 16409, slot := 1, constantValue := 0 }, { name := "pathPrefix", type := (.object "java/lang/String"), accessFlags := 18, slot := 3, constantValue := 0 }, { name := "$VALUES", type := (.array (.object "com/example/gentle_hub/gentlehub/server/ChannelLocation$Role")), accessFlags := 4122, slot := 2, constantValue := 0 }]
  methods := #[]
  instanceTypes := #[(.object "java/lang/String"), .int, .int, (.object "java/lang/String")]
  staticTypes := #[(.object "com/example/gentle_hub/gentlehub/server/ChannelLocation$Role"), (.object "com/example/gentle_hub/gentlehub/server/ChannelLocation$Role"), (.array (.object "com/example/gentle_hub/gentlehub/server/ChannelLocation$Role"))]
  resolved := Array.replicate 63 none
  statics := some 1 }

def pool11 : Array CpInfo := pool [(1, .methodref 2 3), (0, .class_ 4), (0, .nameAndType 5 6), (0, u "java/lang/Object"), (0, u "<init>"), (0, u "()V"), (0, .class_ 8), (0, u "java/lang/Record")] 13

def k11c0 : Code := { maxStack := 1, maxLocals := 1, code := jdk_30_method_1_code, exceptionTable := #[], attributes := #[] }
def k11m0 : Method := { name := "<init>", desc := "()V", sig := { parameters := [], returnType := none }, accessFlags := 4, code := some k11c0 }
/-- java/lang/Record -/
def k11 : Class := { plain "java/lang/Record" (some 0) with
  accessFlags := 1057
  interfaces := #[]
  cf := some (fileOf pool11 7 #[] #[{ accessFlags := 4, nameIndex := 5, descriptorIndex := 6, attributes := #[] }] 1057 2 #[] #[])
  fields := #[]
  methods := #[k11m0]
  instanceTypes := #[]
  staticTypes := #[]
  resolved := Array.replicate 22 none
  statics := none }

def pool12 : Array CpInfo := pool [(1, .methodref 2 3), (0, .class_ 4), (0, .nameAndType 5 6), (0, u "java/lang/Record"), (0, u "<init>"), (0, u "()V"), (0, .fieldref 8 9), (0, .class_ 10), (0, .nameAndType 11 12), (0, u "com/example/gentle_hub/gentlehub/server/ChannelLocation"), (0, u "role"), (0, u "Lcom/example/gentle_hub/gentlehub/server/ChannelLocation$Role;"), (0, .fieldref 8 14), (0, .nameAndType 15 16), (0, u "channel"), (0, u "Lcom/example/gentle_hub/gentlehub/core/ChannelName;"), (0, .class_ 18), (0, u "java/lang/StringBuilder"), (0, .methodref 17 3), (0, .fieldref 21 22), (0, .class_ 23), (0, .nameAndType 24 25), (0, u "com/example/gentle_hub/gentlehub/server/ChannelLocation$Role"), (0, u "pathPrefix"), (0, u "Ljava/lang/String;"), (0, .methodref 17 27), (0, .nameAndType 28 29), (0, u "append"), (0, u "(Ljava/lang/String;)Ljava/lang/StringBuilder;"), (0, .methodref 31 32), (0, .class_ 33), (0, .nameAndType 34 35), (0, u "com/example/gentle_hub/gentlehub/core/ChannelName"), (0, u "value"), (0, u "()Ljava/lang/String;"), (0, .methodref 17 37), (0, .nameAndType 38 35), (0, u "toString"), (23, u "(Lcom/example/gentle_hub/gentlehub/server/ChannelLocation$Role;Lcom/example/gentle_hub/gentlehub/core/ChannelName;)V"), (24, u "path")] 33

def k12c0 : Code := { maxStack := 2, maxLocals := 3, code := prog_15_method_1_code, exceptionTable := #[], attributes := #[] }
def k12m0 : Method := { name := "<init>", desc := "(Lcom/example/gentle_hub/gentlehub/server/ChannelLocation$Role;Lcom/example/gentle_hub/gentlehub/core/ChannelName;)V", sig := { parameters := [(.object "com/example/gentle_hub/gentlehub/server/ChannelLocation$Role"), (.object "com/example/gentle_hub/gentlehub/core/ChannelName")], returnType := none }, accessFlags := 0, code := some k12c0 }
def k12c1 : Code := { maxStack := 2, maxLocals := 1, code := prog_15_method_2_code, exceptionTable := #[], attributes := #[] }
def k12m1 : Method := { name := "path", desc := "()Ljava/lang/String;", sig := { parameters := [], returnType := some (.object "java/lang/String") }, accessFlags := 0, code := some k12c1 }
/-- com/example/gentle_hub/gentlehub/server/ChannelLocation -/
def k12 : Class := { plain "com/example/gentle_hub/gentlehub/server/ChannelLocation" (some 11) with
  accessFlags := 48
  interfaces := #[]
  cf := some (fileOf pool12 8 #[.nestMembers #[21]] #[{ accessFlags := 0, nameIndex := 5, descriptorIndex := 62, attributes := #[] }, { accessFlags := 0, nameIndex := 87, descriptorIndex := 35, attributes := #[] }] 48 2 #[] #[{ accessFlags := 18, nameIndex := 11, descriptorIndex := 12, attributes := #[] }, { accessFlags := 18, nameIndex := 15, descriptorIndex := 16, attributes := #[] }])
  fields := #[{ name := "role", type := (.object "com/example/gentle_hub/gentlehub/server/ChannelLocation$Role"), accessFlags := 18, slot := 0, constantValue := 0 }, { name := "channel", type := (.object "com/example/gentle_hub/gentlehub/core/ChannelName"), accessFlags := 18, slot := 1, constantValue := 0 }]
  methods := #[k12m0, k12m1]
  instanceTypes := #[(.object "com/example/gentle_hub/gentlehub/server/ChannelLocation$Role"), (.object "com/example/gentle_hub/gentlehub/core/ChannelName")]
  staticTypes := #[]
  resolved := (Array.replicate 121 none).setIfInBounds 20 (some (.field 10 2))
  statics := none }

def pool13 : Array CpInfo := pool [(1, .methodref 2 3), (0, .class_ 4), (0, .nameAndType 5 6), (0, u "java/lang/Record"), (0, u "<init>"), (0, u "()V"), (0, .string 8), (0, u "value"), (0, .methodref 10 11), (0, .class_ 12), (0, .nameAndType 13 14), (0, u "java/util/Objects"), (0, u "requireNonNull"), (0, u "(Ljava/lang/Object;Ljava/lang/String;)Ljava/lang/Object;"), (0, .methodref 16 17), (0, .class_ 18), (0, .nameAndType 19 20), (0, u "java/lang/String"), (0, u "isEmpty"), (0, u "()Z"), (6, u "(Ljava/lang/String;)V"), (0, .methodref 16 29), (0, .nameAndType 30 31), (0, u "length"), (0, u "()I"), (0, .class_ 33), (0, u "com/example/gentle_hub/gentlehub/core/ChannelName"), (2, .methodref 16 37), (0, .nameAndType 38 39), (0, u "charAt"), (0, u "(I)C"), (0, .methodref 32 41), (0, .nameAndType 42 43), (0, u "isAllowed"), (0, u "(C)Z"), (7, u "(I)I"), (10, .string 63), (0, u "."), (0, .methodref 16 65), (0, .nameAndType 66 67), (0, u "equals"), (0, u "(Ljava/lang/Object;)Z"), (0, .string 69), (0, u ".."), (14, u "()Ljava/lang/String;"), (0, .fieldref 32 86), (0, .nameAndType 8 87), (0, u "Ljava/lang/String;"), (0, .string 89), (0, u "._~-"), (0, .methodref 16 91), (0, .nameAndType 92 51), (0, u "indexOf"), (7, u "MAX_LENGTH"), (0, u "I"), (2, u "ALLOWED_PUNCTUATION")] 22

def k13c0 : Code := { maxStack := 8, maxLocals := 3, code := prog_1_method_1_code, exceptionTable := #[], attributes := #[] }
def k13m0 : Method := { name := "<init>", desc := "(Ljava/lang/String;)V", sig := { parameters := [(.object "java/lang/String")], returnType := none }, accessFlags := 1, code := some k13c0 }
def k13c1 : Code := { maxStack := 2, maxLocals := 1, code := prog_1_method_2_code, exceptionTable := #[], attributes := #[] }
def k13m1 : Method := { name := "isAllowed", desc := "(C)Z", sig := { parameters := [.char], returnType := some .boolean }, accessFlags := 10, code := some k13c1 }
def k13c2 : Code := { maxStack := 1, maxLocals := 1, code := prog_1_method_6_code, exceptionTable := #[], attributes := #[] }
def k13m2 : Method := { name := "value", desc := "()Ljava/lang/String;", sig := { parameters := [], returnType := some (.object "java/lang/String") }, accessFlags := 1, code := some k13c2 }
/-- com/example/gentle_hub/gentlehub/core/ChannelName -/
def k13 : Class := { plain "com/example/gentle_hub/gentlehub/core/ChannelName" (some 11) with
  accessFlags := 49
  interfaces := #[]
  cf := some (fileOf pool13 32 #[] #[{ accessFlags := 1, nameIndex := 5, descriptorIndex := 27, attributes := #[] }, { accessFlags := 10, nameIndex := 42, descriptorIndex := 43, attributes := #[] }, { accessFlags := 1, nameIndex := 8, descriptorIndex := 84, attributes := #[] }] 49 2 #[] #[{ accessFlags := 18, nameIndex := 8, descriptorIndex := 87, attributes := #[] }, { accessFlags := 25, nameIndex := 100, descriptorIndex := 101, attributes := #[] }, { accessFlags := 26, nameIndex := 104, descriptorIndex := 87, attributes := #[] }])
  fields := #[{ name := "value", type := (.object "java/lang/String"), accessFlags := 18, slot := 0, constantValue := 0 }, { name := "MAX_LENGTH", type := .int, accessFlags := 25, slot := 0, constantValue := 0 }, { name := "ALLOWED_PUNCTUATION", type := (.object "java/lang/String"), accessFlags := 26, slot := 1, constantValue := 0 }]
  methods := #[k13m0, k13m1, k13m2]
  instanceTypes := #[(.object "java/lang/String")]
  staticTypes := #[.int, (.object "java/lang/String")]
  resolved := Array.replicate 127 none
  statics := none }

def pool14 : Array CpInfo := pool [(2, .class_ 4), (1, u "java/lang/Object"), (0, u "<init>"), (0, u "()V"), (35, .class_ 44), (1, u "java/util/Objects"), (0, u "requireNonNull"), (48, u "(Ljava/lang/Object;Ljava/lang/String;)Ljava/lang/Object;")] 89

def k14m0 : Method := { name := "<init>", desc := "()V", sig := { parameters := [], returnType := none }, accessFlags := 2, code := none }
def k14c1 : Code := { maxStack := 3, maxLocals := 2, code := jdk_31_method_11_code, exceptionTable := #[], attributes := #[] }
def k14m1 : Method := { name := "requireNonNull", desc := "(Ljava/lang/Object;Ljava/lang/String;)Ljava/lang/Object;", sig := { parameters := [(.object "java/lang/Object"), (.object "java/lang/String")], returnType := some (.object "java/lang/Object") }, accessFlags := 9, code := some k14c1 }
/-- java/util/Objects -/
def k14 : Class := { plain "java/util/Objects" (some 0) with
  accessFlags := 49
  interfaces := #[]
  cf := some (fileOf pool14 42 #[] #[{ accessFlags := 2, nameIndex := 5, descriptorIndex := 6, attributes := #[] }, { accessFlags := 9, nameIndex := 45, descriptorIndex := 94, attributes := #[] }] 49 2 #[] #[])
  fields := #[]
  methods := #[k14m0, k14m1]
  instanceTypes := #[]
  staticTypes := #[]
  resolved := Array.replicate 184 none
  statics := none }

def pool15 : Array CpInfo := pool [(1, .class_ 2), (0, u "java/lang/String"), (1, .class_ 6), (1, u "java/lang/Object"), (0, u "<init>"), (0, u "()V"), (0, .methodref 1 10), (0, .nameAndType 11 12), (0, u "checkIndex"), (0, u "(II)V"), (1, .class_ 16), (1, u "java/lang/StringLatin1"), (21, .methodref 39 40), (0, .class_ 41), (0, .nameAndType 42 43), (0, u "java/lang/Math"), (0, u "min"), (0, u "(II)I"), (9, u "([BI)C"), (34, .methodref 14 89), (0, .nameAndType 90 91), (0, u "canEncode"), (0, u "(I)Z"), (0, .methodref 39 93), (0, .nameAndType 94 43), (0, u "max"), (0, .methodref 14 96), (0, .nameAndType 97 98), (0, u "indexOfChar"), (0, u "([BIII)I"), (2, u "indexOf"), (19, u "$assertionsDisabled"), (0, u "Z"), (98, .class_ 223), (1, u "java/lang/StringLatin1$LinesSpliterator"), (28, u "charAt"), (28, u "equals"), (0, u "([B[B)Z"), (107, .class_ 391), (0, u "java/lang/StringLatin1$CharsSpliterator")] 3

def k15m0 : Method := { name := "<init>", desc := "()V", sig := { parameters := [], returnType := none }, accessFlags := 0, code := none }
def k15c1 : Code := { maxStack := 2, maxLocals := 2, code := jdk_43_method_2_code, exceptionTable := #[], attributes := #[] }
def k15m1 : Method := { name := "charAt", desc := "([BI)C", sig := { parameters := [(.array .byte), .int], returnType := some .char }, accessFlags := 9, code := some k15c1 }
def k15c2 : Code := { maxStack := 2, maxLocals := 1, code := jdk_43_method_4_code, exceptionTable := #[], attributes := #[] }
def k15m2 : Method := { name := "canEncode", desc := "(I)Z", sig := { parameters := [.int], returnType := some .boolean }, accessFlags := 9, code := some k15c2 }
def k15c3 : Code := { maxStack := 3, maxLocals := 3, code := jdk_43_method_13_code, exceptionTable := #[], attributes := #[] }
def k15m3 : Method := { name := "equals", desc := "([B[B)Z", sig := { parameters := [(.array .byte), (.array .byte)], returnType := some .boolean }, accessFlags := 9, code := some k15c3 }
def k15c4 : Code := { maxStack := 4, maxLocals := 4, code := jdk_43_method_22_code, exceptionTable := #[], attributes := #[] }
def k15m4 : Method := { name := "indexOf", desc := "([BIII)I", sig := { parameters := [(.array .byte), .int, .int, .int], returnType := some .int }, accessFlags := 9, code := some k15c4 }
def k15c5 : Code := { maxStack := 2, maxLocals := 6, code := jdk_43_method_23_code, exceptionTable := #[], attributes := #[] }
def k15m5 : Method := { name := "indexOfChar", desc := "([BIII)I", sig := { parameters := [(.array .byte), .int, .int, .int], returnType := some .int }, accessFlags := 10, code := some k15c5 }
/-- java/lang/StringLatin1 -/
def k15 : Class := { plain "java/lang/StringLatin1" (some 0) with
  accessFlags := 48
  interfaces := #[]
  cf := some (fileOf pool15 14 #[.nestMembers #[390, 221]] #[{ accessFlags := 0, nameIndex := 7, descriptorIndex := 8, attributes := #[] }, { accessFlags := 9, nameIndex := 252, descriptorIndex := 53, attributes := #[] }, { accessFlags := 9, nameIndex := 90, descriptorIndex := 91, attributes := #[] }, { accessFlags := 9, nameIndex := 281, descriptorIndex := 282, attributes := #[] }, { accessFlags := 9, nameIndex := 101, descriptorIndex := 98, attributes := #[] }, { accessFlags := 10, nameIndex := 97, descriptorIndex := 98, attributes := #[] }] 48 4 #[] #[{ accessFlags := 4120, nameIndex := 121, descriptorIndex := 122, attributes := #[] }])
  fields := #[{ name := "$assertionsDisabled", type := .boolean, accessFlags := 4120, slot := 0, constantValue := 0 }]
  methods := #[k15m0, k15m1, k15m2, k15m3, k15m4, k15m5]
  instanceTypes := #[]
  staticTypes := #[.boolean]
  resolved := Array.replicate 395 none
  statics := none }

def pool16 : Array CpInfo := pool [(2, .class_ 4), (1, u "java/lang/Object"), (0, u "<init>"), (0, u "()V"), (17, .class_ 26), (1, u "jdk/internal/util/Preconditions"), (6, u "checkIndex"), (21, .class_ 56), (0, u "jdk/internal/util/Preconditions$4"), (57, .class_ 115), (0, u "jdk/internal/util/Preconditions$1"), (7, u "SIOOBE_FORMATTER"), (0, u "Ljava/util/function/BiFunction;"), (0, .class_ 126), (0, u "jdk/internal/util/Preconditions$2"), (3, u "AIOOBE_FORMATTER"), (0, .class_ 132), (0, u "jdk/internal/util/Preconditions$3"), (3, u "IOOBE_FORMATTER"), (41, u "(IILjava/util/function/BiFunction;)I")] 15

def k16m0 : Method := { name := "<init>", desc := "()V", sig := { parameters := [], returnType := none }, accessFlags := 1, code := none }
def k16c1 : Code := { maxStack := 3, maxLocals := 3, code := jdk_41_method_11_code, exceptionTable := #[], attributes := #[] }
def k16m1 : Method := { name := "checkIndex", desc := "(IILjava/util/function/BiFunction;)I", sig := { parameters := [.int, .int, (.object "java/util/function/BiFunction")], returnType := some .int }, accessFlags := 9, code := some k16c1 }
/-- jdk/internal/util/Preconditions -/
def k16 : Class := { plain "jdk/internal/util/Preconditions" (some 0) with
  accessFlags := 33
  interfaces := #[]
  cf := some (fileOf pool16 24 #[.nestMembers #[55, 131, 125, 114]] #[{ accessFlags := 1, nameIndex := 5, descriptorIndex := 6, attributes := #[] }, { accessFlags := 9, nameIndex := 33, descriptorIndex := 178, attributes := #[] }] 33 2 #[] #[{ accessFlags := 25, nameIndex := 123, descriptorIndex := 124, attributes := #[] }, { accessFlags := 25, nameIndex := 130, descriptorIndex := 124, attributes := #[] }, { accessFlags := 25, nameIndex := 136, descriptorIndex := 124, attributes := #[] }])
  fields := #[{ name := "SIOOBE_FORMATTER", type := (.object "java/util/function/BiFunction"), accessFlags := 25, slot := 0, constantValue := 0 }, { name := "AIOOBE_FORMATTER", type := (.object "java/util/function/BiFunction"), accessFlags := 25, slot := 1, constantValue := 0 }, { name := "IOOBE_FORMATTER", type := (.object "java/util/function/BiFunction"), accessFlags := 25, slot := 2, constantValue := 0 }]
  methods := #[k16m0, k16m1]
  instanceTypes := #[]
  staticTypes := #[(.object "java/util/function/BiFunction"), (.object "java/util/function/BiFunction"), (.object "java/util/function/BiFunction")]
  resolved := Array.replicate 194 none
  statics := some 2 }

def pool17 : Array CpInfo := pool [(1, .class_ 2), (0, u "java/lang/Appendable"), (0, .class_ 4), (0, u "java/lang/Object")] 9

/-- java/lang/Appendable -/
def k17 : Class := { plain "java/lang/Appendable" (some 0) with
  accessFlags := 1537
  interfaces := #[]
  cf := some (fileOf pool17 1 #[] #[] 1537 3 #[] #[])
  fields := #[]
  methods := #[]
  instanceTypes := #[]
  staticTypes := #[]
  resolved := Array.replicate 14 none
  statics := none }

def pool18 : Array CpInfo := pool [(1, .class_ 2), (0, u "java/lang/String"), (0, .methodref 4 5), (0, .class_ 6), (0, .nameAndType 7 8), (0, u "java/lang/Object"), (0, u "<init>"), (0, u "()V"), (1, .class_ 12), (1, u "java/lang/AbstractStringBuilder"), (0, u "EMPTYVALUE"), (0, u "[B"), (0, .fieldref 10 16), (0, .nameAndType 17 14), (0, u "value"), (0, .fieldref 1 19), (0, .nameAndType 20 21), (0, u "COMPACT_STRINGS"), (0, u "Z"), (0, .fieldref 10 23), (0, .nameAndType 24 25), (0, u "coder"), (0, u "B"), (6, .methodref 1 33), (0, .nameAndType 34 35), (0, u "length"), (0, u "()I"), (4, .methodref 1 41), (0, .nameAndType 24 42), (0, u "()B"), (2, u "append"), (0, u "(Ljava/lang/String;)Ljava/lang/AbstractStringBuilder;"), (1, .class_ 49), (0, u "java/lang/CharSequence"), (19, u "(Ljava/lang/String;)V"), (5, u "maybeLatin1"), (3, .fieldref 10 80), (0, .nameAndType 81 82), (0, u "count"), (0, u "I"), (2, u "isLatin1"), (0, u "()Z"), (13, .methodref 10 101), (0, .nameAndType 102 103), (0, u "ensureCapacityInternal"), (0, u "(I)V"), (104, .methodref 10 209), (0, .nameAndType 210 211), (0, u "putStringAt"), (0, u "(ILjava/lang/String;)V"), (5, u "inflateIfNeededFor"), (2, .nameAndType 221 222), (0, u "getBytes"), (0, u "([BIB)V"), (174, .methodref 10 398), (0, .nameAndType 217 69), (0, .methodref 1 220), (3, u "()[B"), (40, .class_ 445), (0, u "java/lang/Appendable"), (106, u "getValue")] 56

def k18m0 : Method := { name := "<init>", desc := "()V", sig := { parameters := [], returnType := none }, accessFlags := 0, code := none }
def k18c1 : Code := { maxStack := 2, maxLocals := 2, code := jdk_68_method_2_code, exceptionTable := #[], attributes := #[] }
def k18m1 : Method := { name := "<init>", desc := "(I)V", sig := { parameters := [.int], returnType := none }, accessFlags := 0, code := some k18c1 }
def k18c2 : Code := { maxStack := 1, maxLocals := 1, code := jdk_68_method_6_code, exceptionTable := #[], attributes := #[] }
def k18m2 : Method := { name := "length", desc := "()I", sig := { parameters := [], returnType := some .int }, accessFlags := 1, code := some k18c2 }
def k18c3 : Code := { maxStack := 4, maxLocals := 3, code := jdk_68_method_9_code, exceptionTable := #[], attributes := #[] }
def k18m3 : Method := { name := "ensureCapacityInternal", desc := "(I)V", sig := { parameters := [.int], returnType := none }, accessFlags := 2, code := some k18c3 }
def k18c4 : Code := { maxStack := 3, maxLocals := 3, code := jdk_68_method_22_code, exceptionTable := #[], attributes := #[] }
def k18m4 : Method := { name := "append", desc := "(Ljava/lang/String;)Ljava/lang/AbstractStringBuilder;", sig := { parameters := [(.object "java/lang/String")], returnType := some (.object "java/lang/AbstractStringBuilder") }, accessFlags := 1, code := some k18c4 }
def k18c5 : Code := { maxStack := 1, maxLocals := 1, code := jdk_68_method_64_code, exceptionTable := #[], attributes := #[] }
def k18m5 : Method := { name := "getValue", desc := "()[B", sig := { parameters := [], returnType := some (.array .byte) }, accessFlags := 16, code := some k18c5 }
def k18c6 : Code := { maxStack := 1, maxLocals := 1, code := jdk_68_method_68_code, exceptionTable := #[], attributes := #[] }
def k18m6 : Method := { name := "isLatin1", desc := "()Z", sig := { parameters := [], returnType := some .boolean }, accessFlags := 16, code := some k18c6 }
def k18c7 : Code := { maxStack := 2, maxLocals := 2, code := jdk_68_method_71_code, exceptionTable := #[], attributes := #[] }
def k18m7 : Method := { name := "inflateIfNeededFor", desc := "(Ljava/lang/String;)V", sig := { parameters := [(.object "java/lang/String")], returnType := none }, accessFlags := 2, code := some k18c7 }
def k18c8 : Code := { maxStack := 4, maxLocals := 3, code := jdk_68_method_73_code, exceptionTable := #[], attributes := #[] }
def k18m8 : Method := { name := "putStringAt", desc := "(ILjava/lang/String;)V", sig := { parameters := [.int, (.object "java/lang/String")], returnType := none }, accessFlags := 2, code := some k18c8 }
/-- java/lang/AbstractStringBuilder -/
def k18 : Class := { plain "java/lang/AbstractStringBuilder" (some 0) with
  accessFlags := 1056
  interfaces := #[17, 4]
  cf := some (fileOf pool18 10 #[] #[{ accessFlags := 0, nameIndex := 7, descriptorIndex := 8, attributes := #[] }, { accessFlags := 0, nameIndex := 7, descriptorIndex := 103, attributes := #[] }, { accessFlags := 1, nameIndex := 34, descriptorIndex := 35, attributes := #[] }, { accessFlags := 2, nameIndex := 102, descriptorIndex := 103, attributes := #[] }, { accessFlags := 1, nameIndex := 45, descriptorIndex := 46, attributes := #[] }, { accessFlags := 16, nameIndex := 552, descriptorIndex := 403, attributes := #[] }, { accessFlags := 16, nameIndex := 85, descriptorIndex := 86, attributes := #[] }, { accessFlags := 2, nameIndex := 217, descriptorIndex := 69, attributes := #[] }, { accessFlags := 2, nameIndex := 210, descriptorIndex := 211, attributes := #[] }] 1056 4 #[444, 48] #[{ accessFlags := 0, nameIndex := 17, descriptorIndex := 14, attributes := #[] }, { accessFlags := 0, nameIndex := 24, descriptorIndex := 25, attributes := #[] }, { accessFlags := 0, nameIndex := 75, descriptorIndex := 21, attributes := #[] }, { accessFlags := 0, nameIndex := 81, descriptorIndex := 82, attributes := #[] }, { accessFlags := 26, nameIndex := 13, descriptorIndex := 14, attributes := #[] }])
  fields := #[{ name := "value", type := (.array .byte), accessFlags := 0, slot := 0, constantValue := 0 }, { name := "coder", type := .byte, accessFlags := 0, slot := 1, constantValue := 0 }, { name := "maybeLatin1", type := .boolean, accessFlags := 0, slot := 2, constantValue := 0 }, { name := "count", type := .int, accessFlags := 0, slot := 3, constantValue := 0 }, { name := "EMPTYVALUE", type := (.array .byte), accessFlags := 26, slot := 0, constantValue := 0 }]
  methods := #[k18m0, k18m1, k18m2, k18m3, k18m4, k18m5, k18m6, k18m7, k18m8]
  instanceTypes := #[(.array .byte), .byte, .boolean, .int]
  staticTypes := #[(.array .byte)]
  resolved := Array.replicate 609 none
  statics := none }

def pool19 : Array CpInfo := pool [(1, .methodref 2 3), (0, .class_ 4), (0, .nameAndType 5 6), (0, u "java/lang/AbstractStringBuilder"), (0, u "<init>"), (0, u "(I)V"), (11, .class_ 20), (1, u "java/lang/String"), (3, .class_ 26), (1, u "java/lang/StringBuilder"), (0, u "append"), (0, u "(Ljava/lang/String;)Ljava/lang/StringBuilder;"), (0, .methodref 2 30), (0, .nameAndType 27 31), (0, u "(Ljava/lang/String;)Ljava/lang/AbstractStringBuilder;"), (105, .methodref 18 138), (0, .nameAndType 5 139), (0, u "(Ljava/lang/StringBuilder;)V"), (5, u "()V"), (10, u "()I"), (186, .methodref 2 344), (0, .nameAndType 345 156), (0, u "length"), (3, .class_ 350), (0, u "java/lang/Appendable"), (0, .class_ 352), (0, u "java/io/Serializable"), (0, .class_ 354), (0, u "java/lang/Comparable"), (0, .class_ 356), (0, u "java/lang/CharSequence"), (0, u "serialVersionUID"), (0, u "J"), (40, u "toString"), (0, u "()Ljava/lang/String;")] 21

def k19c0 : Code := { maxStack := 2, maxLocals := 1, code := jdk_67_method_1_code, exceptionTable := #[], attributes := #[] }
def k19m0 : Method := { name := "<init>", desc := "()V", sig := { parameters := [], returnType := none }, accessFlags := 1, code := some k19c0 }
def k19c1 : Code := { maxStack := 2, maxLocals := 2, code := jdk_67_method_7_code, exceptionTable := #[], attributes := #[] }
def k19m1 : Method := { name := "append", desc := "(Ljava/lang/String;)Ljava/lang/StringBuilder;", sig := { parameters := [(.object "java/lang/String")], returnType := some (.object "java/lang/StringBuilder") }, accessFlags := 1, code := some k19c1 }
def k19c2 : Code := { maxStack := 3, maxLocals := 1, code := jdk_67_method_42_code, exceptionTable := #[], attributes := #[] }
def k19m2 : Method := { name := "toString", desc := "()Ljava/lang/String;", sig := { parameters := [], returnType := some (.object "java/lang/String") }, accessFlags := 1, code := some k19c2 }
def k19c3 : Code := { maxStack := 1, maxLocals := 1, code := jdk_67_method_93_code, exceptionTable := #[], attributes := #[] }
def k19m3 : Method := { name := "length", desc := "()I", sig := { parameters := [], returnType := some .int }, accessFlags := 4161, code := some k19c3 }
/-- java/lang/StringBuilder -/
def k19 : Class := { plain "java/lang/StringBuilder" (some 18) with
  accessFlags := 49
  interfaces := #[17, 2, 3, 4]
  cf := some (fileOf pool19 24 #[] #[{ accessFlags := 1, nameIndex := 5, descriptorIndex := 145, attributes := #[] }, { accessFlags := 1, nameIndex := 27, descriptorIndex := 28, attributes := #[] }, { accessFlags := 1, nameIndex := 399, descriptorIndex := 400, attributes := #[] }, { accessFlags := 4161, nameIndex := 345, descriptorIndex := 156, attributes := #[] }] 49 2 #[349, 351, 353, 355] #[{ accessFlags := 24, nameIndex := 357, descriptorIndex := 358, attributes := #[] }])
  fields := #[{ name := "serialVersionUID", type := .long, accessFlags := 24, slot := 0, constantValue := 0 }]
  methods := #[k19m0, k19m1, k19m2, k19m3]
  instanceTypes := #[(.array .byte), .byte, .boolean, .int]
  staticTypes := #[.long]
  resolved := Array.replicate 422 none
  statics := none }

def pool20 : Array CpInfo := pool [(2, .class_ 4), (1, u "java/lang/Object"), (0, u "<init>"), (0, u "()V"), (1, .class_ 10), (1, u "java/lang/System"), (0, u "allowSecurityManager"), (0, u "I"), (16, u "cons"), (0, u "Ljava/io/Console;"), (77, .class_ 110), (1, u "java/lang/System$CallersHolder"), (43, u "initialErrStream"), (0, u "Ljava/io/PrintStream;"), (19, u "security"), (0, u "Ljava/lang/SecurityManager;"), (31, .class_ 209), (0, u "java/lang/System$1"), (7, u "props"), (0, u "Ljava/util/Properties;"), (2, u "lineSeparator"), (0, u "Ljava/lang/String;"), (96, .class_ 321), (1, u "java/lang/System$LoggerFinder"), (5, .class_ 328), (0, u "java/lang/System$Logger"), (67, u "err"), (2, u "out"), (91, u "notSupportedJnuEncoding"), (15, u "in"), (17, u "initialIn"), (0, u "Ljava/io/InputStream;"), (35, u "bootLayer"), (0, u "Ljava/lang/ModuleLayer;"), (99, .class_ 664), (0, u "java/lang/System$2"), (9, u "NEVER"), (2, u "MAYBE"), (49, u "arraycopy"), (0, u "(Ljava/lang/Object;ILjava/lang/Object;II)V"), (72, .class_ 802), (0, u "java/lang/System$Logger$Level")] 31

def k20m0 : Method := { name := "<init>", desc := "()V", sig := { parameters := [], returnType := none }, accessFlags := 2, code := none }
def k20m1 : Method := { name := "arraycopy", desc := "(Ljava/lang/Object;ILjava/lang/Object;II)V", sig := { parameters := [(.object "java/lang/Object"), .int, (.object "java/lang/Object"), .int, .int], returnType := none }, accessFlags := 265, code := none }
/-- java/lang/System -/
def k20 : Class := { plain "java/lang/System" (some 0) with
  accessFlags := 49
  interfaces := #[]
  cf := some (fileOf pool20 8 #[.nestMembers #[319, 327, 801, 108, 663, 208]] #[{ accessFlags := 2, nameIndex := 5, descriptorIndex := 6, attributes := #[] }, { accessFlags := 265, nameIndex := 727, descriptorIndex := 728, attributes := #[] }] 49 2 #[] #[{ accessFlags := 25, nameIndex := 507, descriptorIndex := 526, attributes := #[] }, { accessFlags := 25, nameIndex := 399, descriptorIndex := 155, attributes := #[] }, { accessFlags := 25, nameIndex := 396, descriptorIndex := 155, attributes := #[] }, { accessFlags := 10, nameIndex := 525, descriptorIndex := 526, attributes := #[] }, { accessFlags := 26, nameIndex := 674, descriptorIndex := 12, attributes := #[] }, { accessFlags := 26, nameIndex := 677, descriptorIndex := 12, attributes := #[] }, { accessFlags := 10, nameIndex := 11, descriptorIndex := 12, attributes := #[] }, { accessFlags := 74, nameIndex := 175, descriptorIndex := 176, attributes := #[] }, { accessFlags := 10, nameIndex := 491, descriptorIndex := 222, attributes := #[] }, { accessFlags := 74, nameIndex := 29, descriptorIndex := 30, attributes := #[] }, { accessFlags := 74, nameIndex := 154, descriptorIndex := 155, attributes := #[] }, { accessFlags := 10, nameIndex := 217, descriptorIndex := 218, attributes := #[] }, { accessFlags := 10, nameIndex := 221, descriptorIndex := 222, attributes := #[] }, { accessFlags := 8, nameIndex := 562, descriptorIndex := 563, attributes := #[] }])
  fields := #[{ name := "in", type := (.object "java/io/InputStream"), accessFlags := 25, slot := 0, constantValue := 0 }, { name := "out", type := (.object "java/io/PrintStream"), accessFlags := 25, slot := 1, constantValue := 0 }, { name := "err", type := (.object "java/io/PrintStream"), accessFlags := 25, slot := 2, constantValue := 0 }, { name := "initialIn", type := (.object "java/io/InputStream"), accessFlags := 10, slot := 3, constantValue := 0 }, { name := "NEVER", type := .int, accessFlags := 26, slot := 4, constantValue := 0 }, { name := "MAYBE", type := .int, accessFlags := 26, slot := 5, constantValue := 0 }, { name := "allowSecurityManager", type := .int, accessFlags := 10, slot := 6, constantValue := 0 }, { name := "security", type := (.object "java/lang/SecurityManager"), accessFlags := 74, slot := 7, constantValue := 0 }, { name := "notSupportedJnuEncoding", type := (.object "java/lang/String"), accessFlags := 10, slot := 8, constantValue := 0 }, { name := "cons", type := (.object "java/io/Console"), accessFlags := 74, slot := 9, constantValue := 0 }, { name := "initialErrStream", type := (.object "java/io/PrintStream"), accessFlags := 74, slot := 10, constantValue := 0 }, { name := "props", type := (.object "java/util/Properties"), accessFlags := 10, slot := 11, constantValue := 0 }, { name := "lineSeparator", type := (.object "java/lang/String"), accessFlags := 10, slot := 12, constantValue := 0 }, { name := "bootLayer", type := (.object "java/lang/ModuleLayer"), accessFlags := 8, slot := 13, constantValue := 0 }]
  methods := #[k20m0, k20m1]
  instanceTypes := #[]
  staticTypes := #[(.object "java/io/InputStream"), (.object "java/io/PrintStream"), (.object "java/io/PrintStream"), (.object "java/io/InputStream"), .int, .int, .int, (.object "java/lang/SecurityManager"), (.object "java/lang/String"), (.object "java/io/Console"), (.object "java/io/PrintStream"), (.object "java/util/Properties"), (.object "java/lang/String"), (.object "java/lang/ModuleLayer")]
  resolved := Array.replicate 834 none
  statics := none }

def pool21 : Array CpInfo := pool [(2, .class_ 4), (1, u "java/lang/Object"), (0, u "<init>"), (0, u "()V"), (7, .class_ 16), (1, u "java/util/Arrays"), (57, .class_ 76), (1, u "java/util/Arrays$NaturalOrder"), (36, .class_ 115), (1, u "java/util/Arrays$LegacyMergeSort"), (1, u "Z"), (21, u "copyOfRange"), (10, .methodref 151 152), (0, .class_ 153), (0, .nameAndType 154 155), (0, u "java/lang/System"), (0, u "arraycopy"), (0, u "(Ljava/lang/Object;ILjava/lang/Object;II)V"), (148, .methodref 305 306), (0, .class_ 307), (0, .nameAndType 308 309), (0, u "java/lang/Math"), (0, u "min"), (0, u "(II)I"), (29, .methodref 14 340), (0, .nameAndType 341 342), (0, u "copyOfRangeByte"), (0, u "([BII)[B"), (0, .methodref 14 344), (0, .nameAndType 345 346), (0, u "checkLength"), (0, u "(II)V"), (28, .class_ 376), (0, u "java/util/Arrays$ArrayList"), (68, u "$assertionsDisabled"), (269, u "MIN_ARRAY_SORT_GRAN"), (0, u "I"), (2, u "INSERTIONSORT_THRESHOLD"), (255, .class_ 976), (0, u "java/util/Arrays$ArrayItr")] 52

def k21m0 : Method := { name := "<init>", desc := "()V", sig := { parameters := [], returnType := none }, accessFlags := 2, code := none }
def k21c1 : Code := { maxStack := 4, maxLocals := 2, code := jdk_65_method_131_code, exceptionTable := #[], attributes := #[] }
def k21m1 : Method := { name := "checkLength", desc := "(II)V", sig := { parameters := [.int, .int], returnType := none }, accessFlags := 10, code := some k21c1 }
def k21c2 : Code := { maxStack := 3, maxLocals := 3, code := jdk_65_method_132_code, exceptionTable := #[], attributes := #[] }
def k21m2 : Method := { name := "copyOfRange", desc := "([BII)[B", sig := { parameters := [(.array .byte), .int, .int], returnType := some (.array .byte) }, accessFlags := 9, code := some k21c2 }
def k21c3 : Code := { maxStack := 6, maxLocals := 5, code := jdk_65_method_133_code, exceptionTable := #[], attributes := #[] }
def k21m3 : Method := { name := "copyOfRangeByte", desc := "([BII)[B", sig := { parameters := [(.array .byte), .int, .int], returnType := some (.array .byte) }, accessFlags := 10, code := some k21c3 }
/-- java/util/Arrays -/
def k21 : Class := { plain "java/util/Arrays" (some 0) with
  accessFlags := 49
  interfaces := #[]
  cf := some (fileOf pool21 14 #[.nestMembers #[975, 375, 113, 74]] #[{ accessFlags := 2, nameIndex := 5, descriptorIndex := 6, attributes := #[] }, { accessFlags := 10, nameIndex := 345, descriptorIndex := 346, attributes := #[] }, { accessFlags := 9, nameIndex := 139, descriptorIndex := 342, attributes := #[] }, { accessFlags := 10, nameIndex := 341, descriptorIndex := 342, attributes := #[] }] 49 2 #[] #[{ accessFlags := 26, nameIndex := 715, descriptorIndex := 716, attributes := #[] }, { accessFlags := 26, nameIndex := 719, descriptorIndex := 716, attributes := #[] }, { accessFlags := 4120, nameIndex := 445, descriptorIndex := 117, attributes := #[] }])
  fields := #[{ name := "MIN_ARRAY_SORT_GRAN", type := .int, accessFlags := 26, slot := 0, constantValue := 0 }, { name := "INSERTIONSORT_THRESHOLD", type := .int, accessFlags := 26, slot := 1, constantValue := 0 }, { name := "$assertionsDisabled", type := .boolean, accessFlags := 4120, slot := 2, constantValue := 0 }]
  methods := #[k21m0, k21m1, k21m2, k21m3]
  instanceTypes := #[]
  staticTypes := #[.int, .int, .boolean]
  resolved := Array.replicate 1029 none
  statics := none }

def pool22 : Array CpInfo := pool [(1, .class_ 2), (0, u "java/lang/Math"), (1, .class_ 6), (1, u "java/lang/Object"), (0, u "<init>"), (0, u "()V"), (89, .class_ 100), (1, u "java/lang/Math$RandomNumberGeneratorHolder"), (71, u "negativeZeroFloatBits"), (0, u "J"), (2, u "negativeZeroDoubleBits"), (21, u "max"), (2, u "min"), (43, u "$assertionsDisabled"), (0, u "Z"), (88, u "(II)I"), (2, u "twoToTheDoubleScaleDown"), (0, u "D"), (4, u "twoToTheDoubleScaleUp"), (9, u "E"), (3, u "PI"), (2, u "TAU"), (2, u "DEGREES_TO_RADIANS"), (0, u "RADIANS_TO_DEGREES")] 94

def k22m0 : Method := { name := "<init>", desc := "()V", sig := { parameters := [], returnType := none }, accessFlags := 2, code := none }
def k22c1 : Code := { maxStack := 2, maxLocals := 2, code := jdk_29_method_65_code, exceptionTable := #[], attributes := #[] }
def k22m1 : Method := { name := "max", desc := "(II)I", sig := { parameters := [.int, .int], returnType := some .int }, accessFlags := 9, code := some k22c1 }
def k22c2 : Code := { maxStack := 2, maxLocals := 2, code := jdk_29_method_69_code, exceptionTable := #[], attributes := #[] }
def k22m2 : Method := { name := "min", desc := "(II)I", sig := { parameters := [.int, .int], returnType := some .int }, accessFlags := 9, code := some k22c2 }
/-- java/lang/Math -/
def k22 : Class := { plain "java/lang/Math" (some 0) with
  accessFlags := 49
  interfaces := #[]
  cf := some (fileOf pool22 1 #[.nestMembers #[98]] #[{ accessFlags := 2, nameIndex := 7, descriptorIndex := 8, attributes := #[] }, { accessFlags := 9, nameIndex := 198, descriptorIndex := 335, attributes := #[] }, { accessFlags := 9, nameIndex := 201, descriptorIndex := 335, attributes := #[] }] 49 4 #[] #[{ accessFlags := 25, nameIndex := 354, descriptorIndex := 339, attributes := #[] }, { accessFlags := 25, nameIndex := 358, descriptorIndex := 339, attributes := #[] }, { accessFlags := 25, nameIndex := 361, descriptorIndex := 339, attributes := #[] }, { accessFlags := 26, nameIndex := 364, descriptorIndex := 339, attributes := #[] }, { accessFlags := 26, nameIndex := 365, descriptorIndex := 339, attributes := #[] }, { accessFlags := 26, nameIndex := 172, descriptorIndex := 173, attributes := #[] }, { accessFlags := 26, nameIndex := 176, descriptorIndex := 173, attributes := #[] }, { accessFlags := 8, nameIndex := 344, descriptorIndex := 339, attributes := #[] }, { accessFlags := 8, nameIndex := 338, descriptorIndex := 339, attributes := #[] }, { accessFlags := 4120, nameIndex := 245, descriptorIndex := 246, attributes := #[] }])
  fields := #[{ name := "E", type := .double, accessFlags := 25, slot := 0, constantValue := 0 }, { name := "PI", type := .double, accessFlags := 25, slot := 1, constantValue := 0 }, { name := "TAU", type := .double, accessFlags := 25, slot := 2, constantValue := 0 }, { name := "DEGREES_TO_RADIANS", type := .double, accessFlags := 26, slot := 3, constantValue := 0 }, { name := "RADIANS_TO_DEGREES", type := .double, accessFlags := 26, slot := 4, constantValue := 0 }, { name := "negativeZeroFloatBits", type := .long, accessFlags := 26, slot := 5, constantValue := 0 }, { name := "negativeZeroDoubleBits", type := .long, accessFlags := 26, slot := 6, constantValue := 0 }, { name := "twoToTheDoubleScaleUp", type := .double, accessFlags := 8, slot := 7, constantValue := 0 }, { name := "twoToTheDoubleScaleDown", type := .double, accessFlags := 8, slot := 8, constantValue := 0 }, { name := "$assertionsDisabled", type := .boolean, accessFlags := 4120, slot := 9, constantValue := 0 }]
  methods := #[k22m0, k22m1, k22m2]
  instanceTypes := #[]
  staticTypes := #[.double, .double, .double, .double, .double, .long, .long, .double, .double, .boolean]
  resolved := Array.replicate 460 none
  statics := none }

def pool23 : Array CpInfo := pool [(9, u "<init>"), (6, .class_ 18), (1, u "java/lang/Object"), (0, u "()V"), (1, .class_ 23), (1, u "jdk/internal/util/ArraysSupport"), (0, u "LOG2_ARRAY_LONG_INDEX_SCALE"), (0, u "I"), (2, u "U"), (0, u "Ljdk/internal/misc/Unsafe;"), (8, u "BIG_ENDIAN"), (0, u "Z"), (8, u "LOG2_BYTE_BIT_SIZE"), (4, u "LOG2_ARRAY_INT_INDEX_SCALE"), (54, u "JLA"), (0, u "Ljdk/internal/access/JavaLangAccess;"), (11, u "LOG2_ARRAY_BOOLEAN_INDEX_SCALE"), (9, u "LOG2_ARRAY_BYTE_INDEX_SCALE"), (5, u "LOG2_ARRAY_CHAR_INDEX_SCALE"), (5, u "LOG2_ARRAY_SHORT_INDEX_SCALE"), (18, u "LOG2_ARRAY_FLOAT_INDEX_SCALE"), (24, u "LOG2_ARRAY_DOUBLE_INDEX_SCALE"), (89, u "T_BOOLEAN"), (2, u "T_CHAR"), (1, u "T_FLOAT"), (1, u "T_DOUBLE"), (1, u "T_BYTE"), (1, u "T_SHORT"), (1, u "T_INT"), (1, u "T_LONG"), (1, u "SOFT_MAX_ARRAY_LENGTH")] 83

def k23m0 : Method := { name := "<init>", desc := "()V", sig := { parameters := [], returnType := none }, accessFlags := 2, code := none }
/-- jdk/internal/util/ArraysSupport -/
def k23 : Class := { plain "jdk/internal/util/ArraysSupport" (some 0) with
  accessFlags := 33
  interfaces := #[]
  cf := some (fileOf pool23 21 #[] #[{ accessFlags := 2, nameIndex := 9, descriptorIndex := 19, attributes := #[] }] 33 16 #[] #[{ accessFlags := 24, nameIndex := 28, descriptorIndex := 29, attributes := #[] }, { accessFlags := 26, nameIndex := 38, descriptorIndex := 39, attributes := #[] }, { accessFlags := 25, nameIndex := 121, descriptorIndex := 25, attributes := #[] }, { accessFlags := 25, nameIndex := 131, descriptorIndex := 25, attributes := #[] }, { accessFlags := 25, nameIndex := 137, descriptorIndex := 25, attributes := #[] }, { accessFlags := 25, nameIndex := 143, descriptorIndex := 25, attributes := #[] }, { accessFlags := 25, nameIndex := 53, descriptorIndex := 25, attributes := #[] }, { accessFlags := 25, nameIndex := 24, descriptorIndex := 25, attributes := #[] }, { accessFlags := 25, nameIndex := 162, descriptorIndex := 25, attributes := #[] }, { accessFlags := 25, nameIndex := 187, descriptorIndex := 25, attributes := #[] }, { accessFlags := 26, nameIndex := 48, descriptorIndex := 25, attributes := #[] }, { accessFlags := 25, nameIndex := 277, descriptorIndex := 25, attributes := #[] }, { accessFlags := 25, nameIndex := 280, descriptorIndex := 25, attributes := #[] }, { accessFlags := 25, nameIndex := 282, descriptorIndex := 25, attributes := #[] }, { accessFlags := 25, nameIndex := 284, descriptorIndex := 25, attributes := #[] }, { accessFlags := 25, nameIndex := 286, descriptorIndex := 25, attributes := #[] }, { accessFlags := 25, nameIndex := 288, descriptorIndex := 25, attributes := #[] }, { accessFlags := 25, nameIndex := 290, descriptorIndex := 25, attributes := #[] }, { accessFlags := 25, nameIndex := 292, descriptorIndex := 25, attributes := #[] }, { accessFlags := 26, nameIndex := 108, descriptorIndex := 109, attributes := #[] }, { accessFlags := 25, nameIndex := 294, descriptorIndex := 25, attributes := #[] }])
  fields := #[{ name := "U", type := (.object "jdk/internal/misc/Unsafe"), accessFlags := 24, slot := 0, constantValue := 0 }, { name := "BIG_ENDIAN", type := .boolean, accessFlags := 26, slot := 1, constantValue := 0 }, { name := "LOG2_ARRAY_BOOLEAN_INDEX_SCALE", type := .int, accessFlags := 25, slot := 2, constantValue := 0 }, { name := "LOG2_ARRAY_BYTE_INDEX_SCALE", type := .int, accessFlags := 25, slot := 3, constantValue := 0 }, { name := "LOG2_ARRAY_CHAR_INDEX_SCALE", type := .int, accessFlags := 25, slot := 4, constantValue := 0 }, { name := "LOG2_ARRAY_SHORT_INDEX_SCALE", type := .int, accessFlags := 25, slot := 5, constantValue := 0 }, { name := "LOG2_ARRAY_INT_INDEX_SCALE", type := .int, accessFlags := 25, slot := 6, constantValue := 0 }, { name := "LOG2_ARRAY_LONG_INDEX_SCALE", type := .int, accessFlags := 25, slot := 7, constantValue := 0 }, { name := "LOG2_ARRAY_FLOAT_INDEX_SCALE", type := .int, accessFlags := 25, slot := 8, constantValue := 0 }, { name := "LOG2_ARRAY_DOUBLE_INDEX_SCALE", type := .int, accessFlags := 25, slot := 9, constantValue := 0 }, { name := "LOG2_BYTE_BIT_SIZE", type := .int, accessFlags := 26, slot := 10, constantValue := 0 }, { name := "T_BOOLEAN", type := .int, accessFlags := 25, slot := 11, constantValue := 0 }, { name := "T_CHAR", type := .int, accessFlags := 25, slot := 12, constantValue := 0 }, { name := "T_FLOAT", type := .int, accessFlags := 25, slot := 13, constantValue := 0 }, { name := "T_DOUBLE", type := .int, accessFlags := 25, slot := 14, constantValue := 0 }, { name := "T_BYTE", type := .int, accessFlags := 25, slot := 15, constantValue := 0 }, { name := "T_SHORT", type := .int, accessFlags := 25, slot := 16, constantValue := 0 }, { name := "T_INT", type := .int, accessFlags := 25, slot := 17, constantValue := 0 }, { name := "T_LONG", type := .int, accessFlags := 25, slot := 18, constantValue := 0 }, { name := "JLA", type := (.object "jdk/internal/access/JavaLangAccess"), accessFlags := 26, slot := 19, constantValue := 0 }, { name := "SOFT_MAX_ARRAY_LENGTH", type := .int, accessFlags := 25, slot := 20, constantValue := 0 }]
  methods := #[k23m0]
  instanceTypes := #[]
  staticTypes := #[(.object "jdk/internal/misc/Unsafe"), .boolean, .int, .int, .int, .int, .int, .int, .int, .int, .int, .int, .int, .int, .int, .int, .int, .int, .int, (.object "jdk/internal/access/JavaLangAccess"), .int]
  resolved := Array.replicate 378 none
  statics := none }

def pool24 : Array CpInfo := pool [(1, u "java/lang/Cloneable"), (0, .class_ 1), (0, u "java/lang/Object"), (0, .class_ 3)] 3

/-- java/lang/Cloneable -/
def k24 : Class := { plain "java/lang/Cloneable" (some 0) with
  accessFlags := 1537
  interfaces := #[]
  cf := some (fileOf pool24 2 #[] #[] 1537 4 #[] #[])
  fields := #[]
  methods := #[]
  instanceTypes := #[]
  staticTypes := #[]
  resolved := Array.replicate 8 none
  statics := none }

/-- the primitive byte -/
def k25 : Class := { plain "byte" none with kind := .primitive 'B', accessFlags := 0x411 }
/-- [B -/
def k26 : Class := { plain "[B" (some 0) with kind := .array 25 .byte, interfaces := #[24, 2], accessFlags := 1041 }

/-- the primitive char -/
def k27 : Class := { plain "char" none with kind := .primitive 'C', accessFlags := 0x411 }
/-- [C -/
def k28 : Class := { plain "[C" (some 0) with kind := .array 27 .char, interfaces := #[24, 2], accessFlags := 1041 }

/-- the primitive int -/
def k29 : Class := { plain "int" none with kind := .primitive 'I', accessFlags := 0x411 }
/-- [I -/
def k30 : Class := { plain "[I" (some 0) with kind := .array 29 .int, interfaces := #[24, 2], accessFlags := 1041 }

def heap : Heap := #[{ cls := 7, slots := #[.long 0, .int 1, .null, .int 0, .null, .int 0, .int 0], vm := .statics 7 },
  { cls := 10, slots := #[.ref 3, .ref 4, .null], vm := .statics 10 },
  { cls := 16, slots := #[.null, .null, .null], vm := .statics 16 },
  { cls := 10, slots := #[.null, .int 0, .int 0, .ref 5], vm := .none },
  { cls := 10, slots := #[.null, .int 1, .int 0, .ref 6], vm := .none },
  { cls := 7, slots := #[.ref 7, .int 0, .int 0, .int 0], vm := .none },
  { cls := 7, slots := #[.ref 8, .int 0, .int 0, .int 0], vm := .none },
  { cls := 26, slots := #[.int 47, .int 112, .int 117, .int 98, .int 47], vm := .none },
  { cls := 26, slots := #[.int 47, .int 115, .int 117, .int 98, .int 47], vm := .none }]
def classes : Array Class := #[k0, k1, k2, k3, k4, k5, k6, k7, k8, k9, k10, k11, k12, k13, k14, k15, k16, k17, k18, k19, k20, k21, k22, k23, k24, k25, k26, k27, k28, k29, k30]
def interned : List (Array UInt16 × Addr) := []
def slotsUsed : Nat := 39
def theMethod : MethodId := ⟨1, 3⟩
def args0 : Array Value := #[.int 3, .int 1, .int 2, .int 3, .int 4]
def aboutOver (below : List Frame) : State where
  vm := { classes := classes, interned := interned.toArray }
  heap := heap
  slotsUsed := slotsUsed
  threads := #[{ frames := .invoking theMethod args0 :: below }]
def below0 : List Frame := [.native { method := ⟨0, 0⟩, args := #[] }]
def about1 : State := aboutOver below0
def p0 : Program := .bare "" "" ""
def e0 : Env := launch0.env 0 0 0
theorem w_frames : about1.frames = Frame.invoking theMethod args0 :: below0 := rfl
set_option maxRecDepth 65536 in
theorem w_args : argsFit about1.vm theMethod args0 = true := by decide +kernel
set_option maxRecDepth 65536 in
theorem w_heap : heapFits about1 = true := by decide +kernel
set_option maxRecDepth 65536 in
theorem w_runnable : about1.curStatus? = some .runnable := by decide +kernel
set_option maxRecDepth 65536 in
theorem w_alone : about1.alone = true := by decide +kernel
set_option maxRecDepth 65536 in
theorem w_named : about1.methodNamed? x = some theMethod := by decide +kernel
set_option maxRecDepth 65536 in
theorem w_hears : about1.hears theMethod below0 = true := by decide +kernel
set_option maxRecDepth 65536 in
theorem w_ripe : about1.ripe theMethod args0 below0 = true := by decide +kernel
theorem w_running : about1.status = .running := rfl
set_option maxRecDepth 65536 in
theorem w_room : about1.hasRoom e0.platform room_1 = true :=
  launch0.hasRoom_least _ room_1 (by decide +kernel) (by decide +kernel) (by decide +kernel) (by decide +kernel) (by decide +kernel) (by decide +kernel)
theorem allAtoms_all (ts : List Jvm.Cond) (a : Array Jvm.Value) (st : Jvm.State) : (allAtoms ts).before a st = ts.all (fun c => c.before a st) := by
  induction ts with
  | nil => rfl
  | cons c t ih =>
    show (Jvm.Cond.and c (allAtoms t)).before a st = _
    rw [Jvm.Cond.before_and, ih, List.all_cons]
def words1 : List Jvm.Cond := Jvm.Cond.code x code maxLocals ret :: tables_1
/-- a 'code' word, met by the world's own term for the bytes: nothing is compared byte by byte -/
theorem code_word {y : MethodName} {bytes : ByteArray} {mx : Nat} {rt : Option FieldType} {a : Array Value} {s : State} {m : MethodId} {meth : Method} {c : Code} (h1 : s.methodNamed? y = some m) (h2 : s.vm.method? m = some meth) (h3 : meth.code = some c) (h4 : c.code = bytes)
    (h5 : (c.maxLocals == mx && c.exceptionTable.isEmpty && decide (c.maxStack ≤ mostOperands) && decide (meth.sig.returnType = rt) && !meth.locks && decide (parseMethodDescriptor y.desc = some meth.sig)) = true) : (Jvm.Cond.code y bytes mx rt).before a s = true := by
  simp only [Bool.and_eq_true, beq_iff_eq, Bool.not_eq_true', decide_eq_true_eq] at h5
  obtain ⟨⟨⟨⟨⟨g1, g2⟩, g3⟩, g4⟩, g5⟩, g6⟩ := h5
  simp [Cond.before, Cond.holds, Cond.value, h1, h2, h3, h4, g1, g2, g3, g4, g5, g6]
def isCode : Jvm.Cond → Bool
  | .code _ _ _ _ => true
  | _ => false
theorem all_split {L : List Jvm.Cond} {P : Jvm.Cond → Bool} (h1 : L.all (fun c => isCode c || P c) = true) (h2 : ∀ c ∈ L.filter isCode, P c = true) : L.all P = true := by
  refine List.all_eq_true.mpr fun c hc => ?_
  have h := List.all_eq_true.mp h1 c hc
  rcases Bool.eq_false_or_eq_true (isCode c) with hi | hi
  · exact h2 c (List.mem_filter.mpr ⟨hc, hi⟩)
  · simpa [hi] using h
set_option maxRecDepth 65536 in
theorem w_c0 : (Jvm.Cond.code x code maxLocals ret).before args0 about1 = true := code_word (m := ⟨1, 3⟩) (meth := k1m3) (c := k1c3) (by decide +kernel) rfl rfl rfl (by decide +kernel)
set_option maxRecDepth 65536 in
theorem w_c1 : (Jvm.Cond.code ({ cls := "com/example/gentle_hub/gentlehub/server/ChannelLocationPathPinLaw", name := "allowed", desc := "(I)C" } : Jvm.MethodName) method_2_code (2 : Nat) (Option.some Jvm.ClassFile.FieldType.char)).before args0 about1 = true := code_word (m := ⟨1, 1⟩) (meth := k1m1) (c := k1c1) (by decide +kernel) rfl rfl rfl (by decide +kernel)
set_option maxRecDepth 65536 in
theorem w_c2 : (Jvm.Cond.code ({ cls := "com/example/gentle_hub/gentlehub/server/ChannelLocationPathPinLaw", name := "draw", desc := "(ICCCC)Ljava/lang/String;" } : Jvm.MethodName) method_3_code (5 : Nat) (Option.some (Jvm.ClassFile.FieldType.object "java/lang/String"))).before args0 about1 = true := code_word (m := ⟨1, 2⟩) (meth := k1m2) (c := k1c2) (by decide +kernel) rfl rfl rfl (by decide +kernel)
set_option maxRecDepth 65536 in
theorem w_c3 : (Jvm.Cond.code ({ cls := "java/lang/String", name := "<init>", desc := "([C)V" } : Jvm.MethodName) jdk_42_method_3_code (2 : Nat) (Option.none : Option Jvm.ClassFile.FieldType)).before args0 about1 = true := code_word (m := ⟨7, 1⟩) (meth := k7m1) (c := k7c1) (by decide +kernel) rfl rfl rfl (by decide +kernel)
set_option maxRecDepth 65536 in
theorem w_c4 : (Jvm.Cond.code ({ cls := "java/lang/String", name := "<init>", desc := "([CIILjava/lang/Void;)V" } : Jvm.MethodName) jdk_42_method_149_code (6 : Nat) (Option.none : Option Jvm.ClassFile.FieldType)).before args0 about1 = true := code_word (m := ⟨7, 10⟩) (meth := k7m10) (c := k7c10) (by decide +kernel) rfl rfl rfl (by decide +kernel)
set_option maxRecDepth 65536 in
theorem w_c5 : (Jvm.Cond.code ({ cls := "java/lang/Object", name := "<init>", desc := "()V" } : Jvm.MethodName) object_method_1_code (1 : Nat) (Option.none : Option Jvm.ClassFile.FieldType)).before args0 about1 = true := code_word (m := ⟨0, 0⟩) (meth := k0m0) (c := k0c0) (by decide +kernel) rfl rfl rfl (by decide +kernel)
set_option maxRecDepth 65536 in
theorem w_c6 : (Jvm.Cond.code ({ cls := "java/lang/StringUTF16", name := "compress", desc := "([CII)[B" } : Jvm.MethodName) jdk_52_method_16_code (6 : Nat) (Option.some (Jvm.ClassFile.FieldType.array Jvm.ClassFile.FieldType.byte))).before args0 about1 = true := code_word (m := ⟨8, 2⟩) (meth := k8m2) (c := k8c2) (by decide +kernel) rfl rfl rfl (by decide +kernel)
set_option maxRecDepth 65536 in
theorem w_c7 : (Jvm.Cond.code ({ cls := "java/lang/StringUTF16", name := "compress", desc := "([CI[BII)I" } : Jvm.MethodName) jdk_52_method_21_code (7 : Nat) (Option.some Jvm.ClassFile.FieldType.int)).before args0 about1 = true := code_word (m := ⟨8, 3⟩) (meth := k8m3) (c := k8c3) (by decide +kernel) rfl rfl rfl (by decide +kernel)
set_option maxRecDepth 65536 in
theorem w_c8 : (Jvm.Cond.code ({ cls := "java/lang/StringUTF16", name := "coderFromArrayLen", desc := "([BI)B" } : Jvm.MethodName) jdk_52_method_15_code (2 : Nat) (Option.some Jvm.ClassFile.FieldType.byte)).before args0 about1 = true := code_word (m := ⟨8, 1⟩) (meth := k8m1) (c := k8c1) (by decide +kernel) rfl rfl rfl (by decide +kernel)
set_option maxRecDepth 65536 in
theorem w_c9 : (Jvm.Cond.code ({ cls := "com/example/gentle_hub/gentlehub/core/ChannelName", name := "<init>", desc := "(Ljava/lang/String;)V" } : Jvm.MethodName) prog_1_method_1_code (3 : Nat) (Option.none : Option Jvm.ClassFile.FieldType)).before args0 about1 = true := code_word (m := ⟨13, 0⟩) (meth := k13m0) (c := k13c0) (by decide +kernel) rfl rfl rfl (by decide +kernel)
set_option maxRecDepth 65536 in
theorem w_c10 : (Jvm.Cond.code ({ cls := "java/lang/Record", name := "<init>", desc := "()V" } : Jvm.MethodName) jdk_30_method_1_code (1 : Nat) (Option.none : Option Jvm.ClassFile.FieldType)).before args0 about1 = true := code_word (m := ⟨11, 0⟩) (meth := k11m0) (c := k11c0) (by decide +kernel) rfl rfl rfl (by decide +kernel)
set_option maxRecDepth 65536 in
theorem w_c11 : (Jvm.Cond.code ({ cls := "java/util/Objects", name := "requireNonNull", desc := "(Ljava/lang/Object;Ljava/lang/String;)Ljava/lang/Object;" } : Jvm.MethodName) jdk_31_method_11_code (2 : Nat) (Option.some (Jvm.ClassFile.FieldType.object "java/lang/Object"))).before args0 about1 = true := code_word (m := ⟨14, 1⟩) (meth := k14m1) (c := k14c1) (by decide +kernel) rfl rfl rfl (by decide +kernel)
set_option maxRecDepth 65536 in
theorem w_c12 : (Jvm.Cond.code ({ cls := "java/lang/String", name := "isEmpty", desc := "()Z" } : Jvm.MethodName) jdk_42_method_55_code (1 : Nat) (Option.some Jvm.ClassFile.FieldType.boolean)).before args0 about1 = true := code_word (m := ⟨7, 4⟩) (meth := k7m4) (c := k7c4) (by decide +kernel) rfl rfl rfl (by decide +kernel)
set_option maxRecDepth 65536 in
theorem w_c13 : (Jvm.Cond.code ({ cls := "java/lang/String", name := "length", desc := "()I" } : Jvm.MethodName) jdk_42_method_54_code (1 : Nat) (Option.some Jvm.ClassFile.FieldType.int)).before args0 about1 = true := code_word (m := ⟨7, 3⟩) (meth := k7m3) (c := k7c3) (by decide +kernel) rfl rfl rfl (by decide +kernel)
set_option maxRecDepth 65536 in
theorem w_c14 : (Jvm.Cond.code ({ cls := "java/lang/String", name := "coder", desc := "()B" } : Jvm.MethodName) jdk_42_method_152_code (1 : Nat) (Option.some Jvm.ClassFile.FieldType.byte)).before args0 about1 = true := code_word (m := ⟨7, 12⟩) (meth := k7m12) (c := k7c12) (by decide +kernel) rfl rfl rfl (by decide +kernel)
set_option maxRecDepth 65536 in
theorem w_c15 : (Jvm.Cond.code ({ cls := "java/lang/String", name := "charAt", desc := "(I)C" } : Jvm.MethodName) jdk_42_method_56_code (2 : Nat) (Option.some Jvm.ClassFile.FieldType.char)).before args0 about1 = true := code_word (m := ⟨7, 5⟩) (meth := k7m5) (c := k7c5) (by decide +kernel) rfl rfl rfl (by decide +kernel)
set_option maxRecDepth 65536 in
theorem w_c16 : (Jvm.Cond.code ({ cls := "java/lang/String", name := "isLatin1", desc := "()Z" } : Jvm.MethodName) jdk_42_method_154_code (1 : Nat) (Option.some Jvm.ClassFile.FieldType.boolean)).before args0 about1 = true := code_word (m := ⟨7, 13⟩) (meth := k7m13) (c := k7c13) (by decide +kernel) rfl rfl rfl (by decide +kernel)
set_option maxRecDepth 65536 in
theorem w_c17 : (Jvm.Cond.code ({ cls := "java/lang/StringLatin1", name := "charAt", desc := "([BI)C" } : Jvm.MethodName) jdk_43_method_2_code (2 : Nat) (Option.some Jvm.ClassFile.FieldType.char)).before args0 about1 = true := code_word (m := ⟨15, 1⟩) (meth := k15m1) (c := k15c1) (by decide +kernel) rfl rfl rfl (by decide +kernel)
set_option maxRecDepth 65536 in
theorem w_c18 : (Jvm.Cond.code ({ cls := "java/lang/String", name := "checkIndex", desc := "(II)V" } : Jvm.MethodName) jdk_42_method_155_code (2 : Nat) (Option.none : Option Jvm.ClassFile.FieldType)).before args0 about1 = true := code_word (m := ⟨7, 14⟩) (meth := k7m14) (c := k7c14) (by decide +kernel) rfl rfl rfl (by decide +kernel)
set_option maxRecDepth 65536 in
theorem w_c19 : (Jvm.Cond.code ({ cls := "jdk/internal/util/Preconditions", name := "checkIndex", desc := "(IILjava/util/function/BiFunction;)I" } : Jvm.MethodName) jdk_41_method_11_code (3 : Nat) (Option.some Jvm.ClassFile.FieldType.int)).before args0 about1 = true := code_word (m := ⟨16, 1⟩) (meth := k16m1) (c := k16c1) (by decide +kernel) rfl rfl rfl (by decide +kernel)
set_option maxRecDepth 65536 in
theorem w_c20 : (Jvm.Cond.code ({ cls := "com/example/gentle_hub/gentlehub/core/ChannelName", name := "isAllowed", desc := "(C)Z" } : Jvm.MethodName) prog_1_method_2_code (1 : Nat) (Option.some Jvm.ClassFile.FieldType.boolean)).before args0 about1 = true := code_word (m := ⟨13, 1⟩) (meth := k13m1) (c := k13c1) (by decide +kernel) rfl rfl rfl (by decide +kernel)
set_option maxRecDepth 65536 in
theorem w_c21 : (Jvm.Cond.code ({ cls := "java/lang/String", name := "equals", desc := "(Ljava/lang/Object;)Z" } : Jvm.MethodName) jdk_42_method_66_code (3 : Nat) (Option.some Jvm.ClassFile.FieldType.boolean)).before args0 about1 = true := code_word (m := ⟨7, 6⟩) (meth := k7m6) (c := k7c6) (by decide +kernel) rfl rfl rfl (by decide +kernel)
set_option maxRecDepth 65536 in
theorem w_c22 : (Jvm.Cond.code ({ cls := "java/lang/StringLatin1", name := "equals", desc := "([B[B)Z" } : Jvm.MethodName) jdk_43_method_13_code (3 : Nat) (Option.some Jvm.ClassFile.FieldType.boolean)).before args0 about1 = true := code_word (m := ⟨15, 3⟩) (meth := k15m3) (c := k15c3) (by decide +kernel) rfl rfl rfl (by decide +kernel)
set_option maxRecDepth 65536 in
theorem w_c23 : (Jvm.Cond.code ({ cls := "com/example/gentle_hub/gentlehub/server/ChannelLocation", name := "<init>", desc := "(Lcom/example/gentle_hub/gentlehub/server/ChannelLocation$Role;Lcom/example/gentle_hub/gentlehub/core/ChannelName;)V" } : Jvm.MethodName) prog_15_method_1_code (3 : Nat) (Option.none : Option Jvm.ClassFile.FieldType)).before args0 about1 = true := code_word (m := ⟨12, 0⟩) (meth := k12m0) (c := k12c0) (by decide +kernel) rfl rfl rfl (by decide +kernel)
set_option maxRecDepth 65536 in
theorem w_c24 : (Jvm.Cond.code ({ cls := "com/example/gentle_hub/gentlehub/server/ChannelLocation", name := "path", desc := "()Ljava/lang/String;" } : Jvm.MethodName) prog_15_method_2_code (1 : Nat) (Option.some (Jvm.ClassFile.FieldType.object "java/lang/String"))).before args0 about1 = true := code_word (m := ⟨12, 1⟩) (meth := k12m1) (c := k12c1) (by decide +kernel) rfl rfl rfl (by decide +kernel)
set_option maxRecDepth 65536 in
theorem w_c25 : (Jvm.Cond.code ({ cls := "java/lang/StringBuilder", name := "<init>", desc := "()V" } : Jvm.MethodName) jdk_67_method_1_code (1 : Nat) (Option.none : Option Jvm.ClassFile.FieldType)).before args0 about1 = true := code_word (m := ⟨19, 0⟩) (meth := k19m0) (c := k19c0) (by decide +kernel) rfl rfl rfl (by decide +kernel)
set_option maxRecDepth 65536 in
theorem w_c26 : (Jvm.Cond.code ({ cls := "java/lang/AbstractStringBuilder", name := "<init>", desc := "(I)V" } : Jvm.MethodName) jdk_68_method_2_code (2 : Nat) (Option.none : Option Jvm.ClassFile.FieldType)).before args0 about1 = true := code_word (m := ⟨18, 1⟩) (meth := k18m1) (c := k18c1) (by decide +kernel) rfl rfl rfl (by decide +kernel)
set_option maxRecDepth 65536 in
theorem w_c27 : (Jvm.Cond.code ({ cls := "java/lang/StringBuilder", name := "append", desc := "(Ljava/lang/String;)Ljava/lang/StringBuilder;" } : Jvm.MethodName) jdk_67_method_7_code (2 : Nat) (Option.some (Jvm.ClassFile.FieldType.object "java/lang/StringBuilder"))).before args0 about1 = true := code_word (m := ⟨19, 1⟩) (meth := k19m1) (c := k19c1) (by decide +kernel) rfl rfl rfl (by decide +kernel)
set_option maxRecDepth 65536 in
theorem w_c28 : (Jvm.Cond.code ({ cls := "java/lang/AbstractStringBuilder", name := "append", desc := "(Ljava/lang/String;)Ljava/lang/AbstractStringBuilder;" } : Jvm.MethodName) jdk_68_method_22_code (3 : Nat) (Option.some (Jvm.ClassFile.FieldType.object "java/lang/AbstractStringBuilder"))).before args0 about1 = true := code_word (m := ⟨18, 4⟩) (meth := k18m4) (c := k18c4) (by decide +kernel) rfl rfl rfl (by decide +kernel)
set_option maxRecDepth 65536 in
theorem w_c29 : (Jvm.Cond.code ({ cls := "java/lang/AbstractStringBuilder", name := "ensureCapacityInternal", desc := "(I)V" } : Jvm.MethodName) jdk_68_method_9_code (3 : Nat) (Option.none : Option Jvm.ClassFile.FieldType)).before args0 about1 = true := code_word (m := ⟨18, 3⟩) (meth := k18m3) (c := k18c3) (by decide +kernel) rfl rfl rfl (by decide +kernel)
set_option maxRecDepth 65536 in
theorem w_c30 : (Jvm.Cond.code ({ cls := "java/lang/AbstractStringBuilder", name := "putStringAt", desc := "(ILjava/lang/String;)V" } : Jvm.MethodName) jdk_68_method_73_code (3 : Nat) (Option.none : Option Jvm.ClassFile.FieldType)).before args0 about1 = true := code_word (m := ⟨18, 8⟩) (meth := k18m8) (c := k18c8) (by decide +kernel) rfl rfl rfl (by decide +kernel)
set_option maxRecDepth 65536 in
theorem w_c31 : (Jvm.Cond.code ({ cls := "java/lang/AbstractStringBuilder", name := "inflateIfNeededFor", desc := "(Ljava/lang/String;)V" } : Jvm.MethodName) jdk_68_method_71_code (2 : Nat) (Option.none : Option Jvm.ClassFile.FieldType)).before args0 about1 = true := code_word (m := ⟨18, 7⟩) (meth := k18m7) (c := k18c7) (by decide +kernel) rfl rfl rfl (by decide +kernel)
set_option maxRecDepth 65536 in
theorem w_c32 : (Jvm.Cond.code ({ cls := "java/lang/String", name := "getBytes", desc := "([BIB)V" } : Jvm.MethodName) jdk_42_method_147_code (4 : Nat) (Option.none : Option Jvm.ClassFile.FieldType)).before args0 about1 = true := code_word (m := ⟨7, 9⟩) (meth := k7m9) (c := k7c9) (by decide +kernel) rfl rfl rfl (by decide +kernel)
set_option maxRecDepth 65536 in
theorem w_c33 : (Jvm.Cond.code ({ cls := "com/example/gentle_hub/gentlehub/core/ChannelName", name := "value", desc := "()Ljava/lang/String;" } : Jvm.MethodName) prog_1_method_6_code (1 : Nat) (Option.some (Jvm.ClassFile.FieldType.object "java/lang/String"))).before args0 about1 = true := code_word (m := ⟨13, 2⟩) (meth := k13m2) (c := k13c2) (by decide +kernel) rfl rfl rfl (by decide +kernel)
set_option maxRecDepth 65536 in
theorem w_c34 : (Jvm.Cond.code ({ cls := "java/lang/StringBuilder", name := "toString", desc := "()Ljava/lang/String;" } : Jvm.MethodName) jdk_67_method_42_code (1 : Nat) (Option.some (Jvm.ClassFile.FieldType.object "java/lang/String"))).before args0 about1 = true := code_word (m := ⟨19, 2⟩) (meth := k19m2) (c := k19c2) (by decide +kernel) rfl rfl rfl (by decide +kernel)
set_option maxRecDepth 65536 in
theorem w_c35 : (Jvm.Cond.code ({ cls := "java/lang/String", name := "<init>", desc := "(Ljava/lang/StringBuilder;)V" } : Jvm.MethodName) jdk_42_method_53_code (2 : Nat) (Option.none : Option Jvm.ClassFile.FieldType)).before args0 about1 = true := code_word (m := ⟨7, 2⟩) (meth := k7m2) (c := k7c2) (by decide +kernel) rfl rfl rfl (by decide +kernel)
set_option maxRecDepth 65536 in
theorem w_c36 : (Jvm.Cond.code ({ cls := "java/lang/String", name := "<init>", desc := "(Ljava/lang/AbstractStringBuilder;Ljava/lang/Void;)V" } : Jvm.MethodName) jdk_42_method_150_code (5 : Nat) (Option.none : Option Jvm.ClassFile.FieldType)).before args0 about1 = true := code_word (m := ⟨7, 11⟩) (meth := k7m11) (c := k7c11) (by decide +kernel) rfl rfl rfl (by decide +kernel)
set_option maxRecDepth 65536 in
theorem w_c37 : (Jvm.Cond.code ({ cls := "java/lang/AbstractStringBuilder", name := "getValue", desc := "()[B" } : Jvm.MethodName) jdk_68_method_64_code (1 : Nat) (Option.some (Jvm.ClassFile.FieldType.array Jvm.ClassFile.FieldType.byte))).before args0 about1 = true := code_word (m := ⟨18, 5⟩) (meth := k18m5) (c := k18c5) (by decide +kernel) rfl rfl rfl (by decide +kernel)
set_option maxRecDepth 65536 in
theorem w_c38 : (Jvm.Cond.code ({ cls := "java/lang/StringBuilder", name := "length", desc := "()I" } : Jvm.MethodName) jdk_67_method_93_code (1 : Nat) (Option.some Jvm.ClassFile.FieldType.int)).before args0 about1 = true := code_word (m := ⟨19, 3⟩) (meth := k19m3) (c := k19c3) (by decide +kernel) rfl rfl rfl (by decide +kernel)
set_option maxRecDepth 65536 in
theorem w_c39 : (Jvm.Cond.code ({ cls := "java/lang/AbstractStringBuilder", name := "length", desc := "()I" } : Jvm.MethodName) jdk_68_method_6_code (1 : Nat) (Option.some Jvm.ClassFile.FieldType.int)).before args0 about1 = true := code_word (m := ⟨18, 2⟩) (meth := k18m2) (c := k18c2) (by decide +kernel) rfl rfl rfl (by decide +kernel)
set_option maxRecDepth 65536 in
theorem w_c40 : (Jvm.Cond.code ({ cls := "java/lang/AbstractStringBuilder", name := "isLatin1", desc := "()Z" } : Jvm.MethodName) jdk_68_method_68_code (1 : Nat) (Option.some Jvm.ClassFile.FieldType.boolean)).before args0 about1 = true := code_word (m := ⟨18, 6⟩) (meth := k18m6) (c := k18c6) (by decide +kernel) rfl rfl rfl (by decide +kernel)
set_option maxRecDepth 65536 in
theorem w_c41 : (Jvm.Cond.code ({ cls := "java/util/Arrays", name := "copyOfRange", desc := "([BII)[B" } : Jvm.MethodName) jdk_65_method_132_code (3 : Nat) (Option.some (Jvm.ClassFile.FieldType.array Jvm.ClassFile.FieldType.byte))).before args0 about1 = true := code_word (m := ⟨21, 2⟩) (meth := k21m2) (c := k21c2) (by decide +kernel) rfl rfl rfl (by decide +kernel)
set_option maxRecDepth 65536 in
theorem w_c42 : (Jvm.Cond.code ({ cls := "java/util/Arrays", name := "copyOfRangeByte", desc := "([BII)[B" } : Jvm.MethodName) jdk_65_method_133_code (5 : Nat) (Option.some (Jvm.ClassFile.FieldType.array Jvm.ClassFile.FieldType.byte))).before args0 about1 = true := code_word (m := ⟨21, 3⟩) (meth := k21m3) (c := k21c3) (by decide +kernel) rfl rfl rfl (by decide +kernel)
set_option maxRecDepth 65536 in
theorem w_c43 : (Jvm.Cond.code ({ cls := "java/util/Arrays", name := "checkLength", desc := "(II)V" } : Jvm.MethodName) jdk_65_method_131_code (2 : Nat) (Option.none : Option Jvm.ClassFile.FieldType)).before args0 about1 = true := code_word (m := ⟨21, 1⟩) (meth := k21m1) (c := k21c1) (by decide +kernel) rfl rfl rfl (by decide +kernel)
set_option maxRecDepth 65536 in
theorem w_c44 : (Jvm.Cond.code ({ cls := "java/lang/Math", name := "min", desc := "(II)I" } : Jvm.MethodName) jdk_29_method_69_code (2 : Nat) (Option.some Jvm.ClassFile.FieldType.int)).before args0 about1 = true := code_word (m := ⟨22, 2⟩) (meth := k22m2) (c := k22c2) (by decide +kernel) rfl rfl rfl (by decide +kernel)
set_option maxRecDepth 65536 in
theorem w_c45 : (Jvm.Cond.code ({ cls := "java/lang/String", name := "indexOf", desc := "(I)I" } : Jvm.MethodName) jdk_42_method_79_code (2 : Nat) (Option.some Jvm.ClassFile.FieldType.int)).before args0 about1 = true := code_word (m := ⟨7, 7⟩) (meth := k7m7) (c := k7c7) (by decide +kernel) rfl rfl rfl (by decide +kernel)
set_option maxRecDepth 65536 in
theorem w_c46 : (Jvm.Cond.code ({ cls := "java/lang/String", name := "indexOf", desc := "(II)I" } : Jvm.MethodName) jdk_42_method_80_code (3 : Nat) (Option.some Jvm.ClassFile.FieldType.int)).before args0 about1 = true := code_word (m := ⟨7, 8⟩) (meth := k7m8) (c := k7c8) (by decide +kernel) rfl rfl rfl (by decide +kernel)
set_option maxRecDepth 65536 in
theorem w_c47 : (Jvm.Cond.code ({ cls := "java/lang/StringLatin1", name := "indexOf", desc := "([BIII)I" } : Jvm.MethodName) jdk_43_method_22_code (4 : Nat) (Option.some Jvm.ClassFile.FieldType.int)).before args0 about1 = true := code_word (m := ⟨15, 4⟩) (meth := k15m4) (c := k15c4) (by decide +kernel) rfl rfl rfl (by decide +kernel)
set_option maxRecDepth 65536 in
theorem w_c48 : (Jvm.Cond.code ({ cls := "java/lang/StringLatin1", name := "canEncode", desc := "(I)Z" } : Jvm.MethodName) jdk_43_method_4_code (1 : Nat) (Option.some Jvm.ClassFile.FieldType.boolean)).before args0 about1 = true := code_word (m := ⟨15, 2⟩) (meth := k15m2) (c := k15c2) (by decide +kernel) rfl rfl rfl (by decide +kernel)
set_option maxRecDepth 65536 in
theorem w_c49 : (Jvm.Cond.code ({ cls := "java/lang/Math", name := "max", desc := "(II)I" } : Jvm.MethodName) jdk_29_method_65_code (2 : Nat) (Option.some Jvm.ClassFile.FieldType.int)).before args0 about1 = true := code_word (m := ⟨22, 1⟩) (meth := k22m1) (c := k22c1) (by decide +kernel) rfl rfl rfl (by decide +kernel)
set_option maxRecDepth 65536 in
theorem w_c50 : (Jvm.Cond.code ({ cls := "java/lang/StringLatin1", name := "indexOfChar", desc := "([BIII)I" } : Jvm.MethodName) jdk_43_method_23_code (6 : Nat) (Option.some Jvm.ClassFile.FieldType.int)).before args0 about1 = true := code_word (m := ⟨15, 5⟩) (meth := k15m5) (c := k15c5) (by decide +kernel) rfl rfl rfl (by decide +kernel)
def codes1 : List Jvm.Cond := [Jvm.Cond.code x code maxLocals ret, Jvm.Cond.code ({ cls := "com/example/gentle_hub/gentlehub/server/ChannelLocationPathPinLaw", name := "allowed", desc := "(I)C" } : Jvm.MethodName) method_2_code (2 : Nat) (Option.some Jvm.ClassFile.FieldType.char), Jvm.Cond.code ({ cls := "com/example/gentle_hub/gentlehub/server/ChannelLocationPathPinLaw", name := "draw", desc := "(ICCCC)Ljava/lang/String;" } : Jvm.MethodName) method_3_code (5 : Nat) (Option.some (Jvm.ClassFile.FieldType.object "java/lang/String")), Jvm.Cond.code ({ cls := "java/lang/String", name := "<init>", desc := "([C)V" } : Jvm.MethodName) jdk_42_method_3_code (2 : Nat) (Option.none : Option Jvm.ClassFile.FieldType), Jvm.Cond.code ({ cls := "java/lang/String", name := "<init>", desc := "([CIILjava/lang/Void;)V" } : Jvm.MethodName) jdk_42_method_149_code (6 : Nat) (Option.none : Option Jvm.ClassFile.FieldType), Jvm.Cond.code ({ cls := "java/lang/Object", name := "<init>", desc := "()V" } : Jvm.MethodName) object_method_1_code (1 : Nat) (Option.none : Option Jvm.ClassFile.FieldType), Jvm.Cond.code ({ cls := "java/lang/StringUTF16", name := "compress", desc := "([CII)[B" } : Jvm.MethodName) jdk_52_method_16_code (6 : Nat) (Option.some (Jvm.ClassFile.FieldType.array Jvm.ClassFile.FieldType.byte)), Jvm.Cond.code ({ cls := "java/lang/StringUTF16", name := "compress", desc := "([CI[BII)I" } : Jvm.MethodName) jdk_52_method_21_code (7 : Nat) (Option.some Jvm.ClassFile.FieldType.int), Jvm.Cond.code ({ cls := "java/lang/StringUTF16", name := "coderFromArrayLen", desc := "([BI)B" } : Jvm.MethodName) jdk_52_method_15_code (2 : Nat) (Option.some Jvm.ClassFile.FieldType.byte), Jvm.Cond.code ({ cls := "com/example/gentle_hub/gentlehub/core/ChannelName", name := "<init>", desc := "(Ljava/lang/String;)V" } : Jvm.MethodName) prog_1_method_1_code (3 : Nat) (Option.none : Option Jvm.ClassFile.FieldType), Jvm.Cond.code ({ cls := "java/lang/Record", name := "<init>", desc := "()V" } : Jvm.MethodName) jdk_30_method_1_code (1 : Nat) (Option.none : Option Jvm.ClassFile.FieldType), Jvm.Cond.code ({ cls := "java/util/Objects", name := "requireNonNull", desc := "(Ljava/lang/Object;Ljava/lang/String;)Ljava/lang/Object;" } : Jvm.MethodName) jdk_31_method_11_code (2 : Nat) (Option.some (Jvm.ClassFile.FieldType.object "java/lang/Object")), Jvm.Cond.code ({ cls := "java/lang/String", name := "isEmpty", desc := "()Z" } : Jvm.MethodName) jdk_42_method_55_code (1 : Nat) (Option.some Jvm.ClassFile.FieldType.boolean), Jvm.Cond.code ({ cls := "java/lang/String", name := "length", desc := "()I" } : Jvm.MethodName) jdk_42_method_54_code (1 : Nat) (Option.some Jvm.ClassFile.FieldType.int), Jvm.Cond.code ({ cls := "java/lang/String", name := "coder", desc := "()B" } : Jvm.MethodName) jdk_42_method_152_code (1 : Nat) (Option.some Jvm.ClassFile.FieldType.byte), Jvm.Cond.code ({ cls := "java/lang/String", name := "charAt", desc := "(I)C" } : Jvm.MethodName) jdk_42_method_56_code (2 : Nat) (Option.some Jvm.ClassFile.FieldType.char), Jvm.Cond.code ({ cls := "java/lang/String", name := "isLatin1", desc := "()Z" } : Jvm.MethodName) jdk_42_method_154_code (1 : Nat) (Option.some Jvm.ClassFile.FieldType.boolean), Jvm.Cond.code ({ cls := "java/lang/StringLatin1", name := "charAt", desc := "([BI)C" } : Jvm.MethodName) jdk_43_method_2_code (2 : Nat) (Option.some Jvm.ClassFile.FieldType.char), Jvm.Cond.code ({ cls := "java/lang/String", name := "checkIndex", desc := "(II)V" } : Jvm.MethodName) jdk_42_method_155_code (2 : Nat) (Option.none : Option Jvm.ClassFile.FieldType), Jvm.Cond.code ({ cls := "jdk/internal/util/Preconditions", name := "checkIndex", desc := "(IILjava/util/function/BiFunction;)I" } : Jvm.MethodName) jdk_41_method_11_code (3 : Nat) (Option.some Jvm.ClassFile.FieldType.int), Jvm.Cond.code ({ cls := "com/example/gentle_hub/gentlehub/core/ChannelName", name := "isAllowed", desc := "(C)Z" } : Jvm.MethodName) prog_1_method_2_code (1 : Nat) (Option.some Jvm.ClassFile.FieldType.boolean), Jvm.Cond.code ({ cls := "java/lang/String", name := "equals", desc := "(Ljava/lang/Object;)Z" } : Jvm.MethodName) jdk_42_method_66_code (3 : Nat) (Option.some Jvm.ClassFile.FieldType.boolean), Jvm.Cond.code ({ cls := "java/lang/StringLatin1", name := "equals", desc := "([B[B)Z" } : Jvm.MethodName) jdk_43_method_13_code (3 : Nat) (Option.some Jvm.ClassFile.FieldType.boolean), Jvm.Cond.code ({ cls := "com/example/gentle_hub/gentlehub/server/ChannelLocation", name := "<init>", desc := "(Lcom/example/gentle_hub/gentlehub/server/ChannelLocation$Role;Lcom/example/gentle_hub/gentlehub/core/ChannelName;)V" } : Jvm.MethodName) prog_15_method_1_code (3 : Nat) (Option.none : Option Jvm.ClassFile.FieldType), Jvm.Cond.code ({ cls := "com/example/gentle_hub/gentlehub/server/ChannelLocation", name := "path", desc := "()Ljava/lang/String;" } : Jvm.MethodName) prog_15_method_2_code (1 : Nat) (Option.some (Jvm.ClassFile.FieldType.object "java/lang/String")), Jvm.Cond.code ({ cls := "java/lang/StringBuilder", name := "<init>", desc := "()V" } : Jvm.MethodName) jdk_67_method_1_code (1 : Nat) (Option.none : Option Jvm.ClassFile.FieldType), Jvm.Cond.code ({ cls := "java/lang/AbstractStringBuilder", name := "<init>", desc := "(I)V" } : Jvm.MethodName) jdk_68_method_2_code (2 : Nat) (Option.none : Option Jvm.ClassFile.FieldType), Jvm.Cond.code ({ cls := "java/lang/StringBuilder", name := "append", desc := "(Ljava/lang/String;)Ljava/lang/StringBuilder;" } : Jvm.MethodName) jdk_67_method_7_code (2 : Nat) (Option.some (Jvm.ClassFile.FieldType.object "java/lang/StringBuilder")), Jvm.Cond.code ({ cls := "java/lang/AbstractStringBuilder", name := "append", desc := "(Ljava/lang/String;)Ljava/lang/AbstractStringBuilder;" } : Jvm.MethodName) jdk_68_method_22_code (3 : Nat) (Option.some (Jvm.ClassFile.FieldType.object "java/lang/AbstractStringBuilder")), Jvm.Cond.code ({ cls := "java/lang/AbstractStringBuilder", name := "ensureCapacityInternal", desc := "(I)V" } : Jvm.MethodName) jdk_68_method_9_code (3 : Nat) (Option.none : Option Jvm.ClassFile.FieldType), Jvm.Cond.code ({ cls := "java/lang/AbstractStringBuilder", name := "putStringAt", desc := "(ILjava/lang/String;)V" } : Jvm.MethodName) jdk_68_method_73_code (3 : Nat) (Option.none : Option Jvm.ClassFile.FieldType), Jvm.Cond.code ({ cls := "java/lang/AbstractStringBuilder", name := "inflateIfNeededFor", desc := "(Ljava/lang/String;)V" } : Jvm.MethodName) jdk_68_method_71_code (2 : Nat) (Option.none : Option Jvm.ClassFile.FieldType), Jvm.Cond.code ({ cls := "java/lang/String", name := "getBytes", desc := "([BIB)V" } : Jvm.MethodName) jdk_42_method_147_code (4 : Nat) (Option.none : Option Jvm.ClassFile.FieldType), Jvm.Cond.code ({ cls := "com/example/gentle_hub/gentlehub/core/ChannelName", name := "value", desc := "()Ljava/lang/String;" } : Jvm.MethodName) prog_1_method_6_code (1 : Nat) (Option.some (Jvm.ClassFile.FieldType.object "java/lang/String")), Jvm.Cond.code ({ cls := "java/lang/StringBuilder", name := "toString", desc := "()Ljava/lang/String;" } : Jvm.MethodName) jdk_67_method_42_code (1 : Nat) (Option.some (Jvm.ClassFile.FieldType.object "java/lang/String")), Jvm.Cond.code ({ cls := "java/lang/String", name := "<init>", desc := "(Ljava/lang/StringBuilder;)V" } : Jvm.MethodName) jdk_42_method_53_code (2 : Nat) (Option.none : Option Jvm.ClassFile.FieldType), Jvm.Cond.code ({ cls := "java/lang/String", name := "<init>", desc := "(Ljava/lang/AbstractStringBuilder;Ljava/lang/Void;)V" } : Jvm.MethodName) jdk_42_method_150_code (5 : Nat) (Option.none : Option Jvm.ClassFile.FieldType), Jvm.Cond.code ({ cls := "java/lang/AbstractStringBuilder", name := "getValue", desc := "()[B" } : Jvm.MethodName) jdk_68_method_64_code (1 : Nat) (Option.some (Jvm.ClassFile.FieldType.array Jvm.ClassFile.FieldType.byte)), Jvm.Cond.code ({ cls := "java/lang/StringBuilder", name := "length", desc := "()I" } : Jvm.MethodName) jdk_67_method_93_code (1 : Nat) (Option.some Jvm.ClassFile.FieldType.int), Jvm.Cond.code ({ cls := "java/lang/AbstractStringBuilder", name := "length", desc := "()I" } : Jvm.MethodName) jdk_68_method_6_code (1 : Nat) (Option.some Jvm.ClassFile.FieldType.int), Jvm.Cond.code ({ cls := "java/lang/AbstractStringBuilder", name := "isLatin1", desc := "()Z" } : Jvm.MethodName) jdk_68_method_68_code (1 : Nat) (Option.some Jvm.ClassFile.FieldType.boolean), Jvm.Cond.code ({ cls := "java/util/Arrays", name := "copyOfRange", desc := "([BII)[B" } : Jvm.MethodName) jdk_65_method_132_code (3 : Nat) (Option.some (Jvm.ClassFile.FieldType.array Jvm.ClassFile.FieldType.byte)), Jvm.Cond.code ({ cls := "java/util/Arrays", name := "copyOfRangeByte", desc := "([BII)[B" } : Jvm.MethodName) jdk_65_method_133_code (5 : Nat) (Option.some (Jvm.ClassFile.FieldType.array Jvm.ClassFile.FieldType.byte)), Jvm.Cond.code ({ cls := "java/util/Arrays", name := "checkLength", desc := "(II)V" } : Jvm.MethodName) jdk_65_method_131_code (2 : Nat) (Option.none : Option Jvm.ClassFile.FieldType), Jvm.Cond.code ({ cls := "java/lang/Math", name := "min", desc := "(II)I" } : Jvm.MethodName) jdk_29_method_69_code (2 : Nat) (Option.some Jvm.ClassFile.FieldType.int), Jvm.Cond.code ({ cls := "java/lang/String", name := "indexOf", desc := "(I)I" } : Jvm.MethodName) jdk_42_method_79_code (2 : Nat) (Option.some Jvm.ClassFile.FieldType.int), Jvm.Cond.code ({ cls := "java/lang/String", name := "indexOf", desc := "(II)I" } : Jvm.MethodName) jdk_42_method_80_code (3 : Nat) (Option.some Jvm.ClassFile.FieldType.int), Jvm.Cond.code ({ cls := "java/lang/StringLatin1", name := "indexOf", desc := "([BIII)I" } : Jvm.MethodName) jdk_43_method_22_code (4 : Nat) (Option.some Jvm.ClassFile.FieldType.int), Jvm.Cond.code ({ cls := "java/lang/StringLatin1", name := "canEncode", desc := "(I)Z" } : Jvm.MethodName) jdk_43_method_4_code (1 : Nat) (Option.some Jvm.ClassFile.FieldType.boolean), Jvm.Cond.code ({ cls := "java/lang/Math", name := "max", desc := "(II)I" } : Jvm.MethodName) jdk_29_method_65_code (2 : Nat) (Option.some Jvm.ClassFile.FieldType.int), Jvm.Cond.code ({ cls := "java/lang/StringLatin1", name := "indexOfChar", desc := "([BIII)I" } : Jvm.MethodName) jdk_43_method_23_code (6 : Nat) (Option.some Jvm.ClassFile.FieldType.int)]
set_option maxRecDepth 65536 in
theorem codes_eq : words1.filter isCode = codes1 := rfl
theorem w_codes : ∀ c ∈ words1.filter isCode, c.before args0 about1 = true := by
  rw [codes_eq]
  intro c hc
  simp only [codes1, List.mem_cons, List.not_mem_nil, or_false] at hc
  rcases hc with rfl | rfl | rfl | rfl | rfl | rfl | rfl | rfl | rfl | rfl | rfl | rfl | rfl | rfl | rfl | rfl | rfl | rfl | rfl | rfl | rfl | rfl | rfl | rfl | rfl | rfl | rfl | rfl | rfl | rfl | rfl | rfl | rfl | rfl | rfl | rfl | rfl | rfl | rfl | rfl | rfl | rfl | rfl | rfl | rfl | rfl | rfl | rfl | rfl | rfl | rfl
  · exact w_c0
  · exact w_c1
  · exact w_c2
  · exact w_c3
  · exact w_c4
  · exact w_c5
  · exact w_c6
  · exact w_c7
  · exact w_c8
  · exact w_c9
  · exact w_c10
  · exact w_c11
  · exact w_c12
  · exact w_c13
  · exact w_c14
  · exact w_c15
  · exact w_c16
  · exact w_c17
  · exact w_c18
  · exact w_c19
  · exact w_c20
  · exact w_c21
  · exact w_c22
  · exact w_c23
  · exact w_c24
  · exact w_c25
  · exact w_c26
  · exact w_c27
  · exact w_c28
  · exact w_c29
  · exact w_c30
  · exact w_c31
  · exact w_c32
  · exact w_c33
  · exact w_c34
  · exact w_c35
  · exact w_c36
  · exact w_c37
  · exact w_c38
  · exact w_c39
  · exact w_c40
  · exact w_c41
  · exact w_c42
  · exact w_c43
  · exact w_c44
  · exact w_c45
  · exact w_c46
  · exact w_c47
  · exact w_c48
  · exact w_c49
  · exact w_c50
set_option maxRecDepth 65536 in
theorem w_t1 : (words1.take 24).all (fun c => isCode c || c.before args0 about1) = true := by decide +kernel
set_option maxRecDepth 65536 in
theorem w_t2 : ((words1.drop 24).take 24).all (fun c => isCode c || c.before args0 about1) = true := by decide +kernel
set_option maxRecDepth 65536 in
theorem w_t3 : (((words1.drop 24).drop 24).take 24).all (fun c => isCode c || c.before args0 about1) = true := by decide +kernel
set_option maxRecDepth 65536 in
theorem w_t4 : ((((words1.drop 24).drop 24).drop 24).take 24).all (fun c => isCode c || c.before args0 about1) = true := by decide +kernel
set_option maxRecDepth 65536 in
theorem w_t5 : (((((words1.drop 24).drop 24).drop 24).drop 24).take 24).all (fun c => isCode c || c.before args0 about1) = true := by decide +kernel
set_option maxRecDepth 65536 in
theorem w_t6 : ((((((words1.drop 24).drop 24).drop 24).drop 24).drop 24).take 24).all (fun c => isCode c || c.before args0 about1) = true := by decide +kernel
set_option maxRecDepth 65536 in
theorem w_t7 : (((((((words1.drop 24).drop 24).drop 24).drop 24).drop 24).drop 24).take 24).all (fun c => isCode c || c.before args0 about1) = true := by decide +kernel
set_option maxRecDepth 65536 in
theorem w_t8 : ((((((((words1.drop 24).drop 24).drop 24).drop 24).drop 24).drop 24).drop 24).take 24).all (fun c => isCode c || c.before args0 about1) = true := by decide +kernel
set_option maxRecDepth 65536 in
theorem w_t9 : (((((((((words1.drop 24).drop 24).drop 24).drop 24).drop 24).drop 24).drop 24).drop 24).take 24).all (fun c => isCode c || c.before args0 about1) = true := by decide +kernel
set_option maxRecDepth 65536 in
theorem w_t10 : ((((((((((words1.drop 24).drop 24).drop 24).drop 24).drop 24).drop 24).drop 24).drop 24).drop 24).take 24).all (fun c => isCode c || c.before args0 about1) = true := by decide +kernel
set_option maxRecDepth 65536 in
theorem w_t11 : (((((((((((words1.drop 24).drop 24).drop 24).drop 24).drop 24).drop 24).drop 24).drop 24).drop 24).drop 24).take 24).all (fun c => isCode c || c.before args0 about1) = true := by decide +kernel
set_option maxRecDepth 65536 in
theorem w_t12 : (((((((((((words1.drop 24).drop 24).drop 24).drop 24).drop 24).drop 24).drop 24).drop 24).drop 24).drop 24).drop 24).all (fun c => isCode c || c.before args0 about1) = true := by decide +kernel
theorem w_tables : (allAtoms (Jvm.Cond.code x code maxLocals ret :: tables_1)).before args0 about1 = true := by
  rw [allAtoms_all]
  show words1.all (fun c => c.before args0 about1) = true
  refine all_split ?_ w_codes
  rw [← List.take_append_drop 24 words1, List.all_append, w_t1, ← List.take_append_drop 24 (words1.drop 24), List.all_append, w_t2, ← List.take_append_drop 24 ((words1.drop 24).drop 24), List.all_append, w_t3, ← List.take_append_drop 24 (((words1.drop 24).drop 24).drop 24), List.all_append, w_t4, ← List.take_append_drop 24 ((((words1.drop 24).drop 24).drop 24).drop 24), List.all_append, w_t5, ← List.take_append_drop 24 (((((words1.drop 24).drop 24).drop 24).drop 24).drop 24), List.all_append, w_t6, ← List.take_append_drop 24 ((((((words1.drop 24).drop 24).drop 24).drop 24).drop 24).drop 24), List.all_append, w_t7, ← List.take_append_drop 24 (((((((words1.drop 24).drop 24).drop 24).drop 24).drop 24).drop 24).drop 24), List.all_append, w_t8, ← List.take_append_drop 24 ((((((((words1.drop 24).drop 24).drop 24).drop 24).drop 24).drop 24).drop 24).drop 24), List.all_append, w_t9, ← List.take_append_drop 24 (((((((((words1.drop 24).drop 24).drop 24).drop 24).drop 24).drop 24).drop 24).drop 24).drop 24), List.all_append, w_t10, ← List.take_append_drop 24 ((((((((((words1.drop 24).drop 24).drop 24).drop 24).drop 24).drop 24).drop 24).drop 24).drop 24).drop 24), List.all_append, w_t11, w_t12]
  rfl
set_option maxRecDepth 65536 in
theorem w_rest : rest_1_c.before args0 about1 = true := by decide +kernel
set_option maxRecDepth 65536 in
theorem w_case : (Jvm.Cond.and given_1 narrow_1).before args0 about1 = true := by decide +kernel
set_option maxRecDepth 65536 in
theorem w_consts : constsHeld consts_1 about1 := Jvm.Lit.constsHeldB_iff.mp (by decide +kernel)
theorem w_applies : (headSpec (Jvm.Cond.code x code maxLocals ret :: tables_1) room_1).applies x e0.platform about1 = true :=
  (Spec.applies_iff w_frames).mpr ⟨w_running, w_runnable, w_alone, w_named, w_hears, w_ripe, w_room, w_tables⟩
theorem atStart : AtStart classFile x code maxLocals ret World_1 tables_1 room_1 Calls_1 rest_1 Pre_1 launch0 p0 e0 about1 theMethod args0 below0 :=
  ⟨lists_1, trivial, launch0.admits_env _ _ _, launch0.least_env, fairChoices_fair.cas, fairChoices_fair.clock, w_frames, w_args, w_heap, w_applies, ⟨w_consts, trivial⟩, w_rest, w_case⟩
end start1
theorem witness_1 : WitnessClaimed_1 := ⟨start1.p0, start1.e0, start1.about1, start1.theMethod, start1.args0, start1.below0, start1.atStart⟩
end Jvm.Pilot.@@N@@
