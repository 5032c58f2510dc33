import JvmDerived
import JvmDerived.Pilot.@@N@@Statement
import JvmDerived.Pilot.@@N@@Code
set_option linter.unusedVariables false
set_option linter.unusedSimpArgs false
namespace Jvm.OwnK
open Jvm Sem ClassFile Op Lib Jvm.Stand Jvm.Free Jvm.LawKit Jvm.RoadKit Bundle
section Base
abbrev sI (x : Int32) : Slot := .val (.int x)
abbrev sR (a : Addr) : Slot := .val (.ref a)
abbrev sU : Slot := .unset
variable {p : Program} {l : Launch} {e : Env} {R : Room} {s : State} {m : MethodId} {args : Array Value} {below : List Frame} {meth : Method} {c : Code} {Z : State} {a0 : Array Value} {EL : List (String × Nat)} {nb : Bool} {own : String} {code : ByteArray} {ml : Nat} {ret : Option FieldType} {nm : String} {vm : Vm} {T : State} {locs : List Loc} {ce sl : Nat} {h : Heap} {Q : Option Value → Vm → Heap → Prop} {ck sk : Nat}
theorem lb {n m : Nat} (h : Nat.ble n m = true) : n ≤ m := Nat.le_of_ble_eq_true h
/-- where a walk stands: the method's own facts; the Stand over the start with the tables at hand; what the heap is; what is booked -/
def OW (p : Program) (l : Launch) (e : Env) (R : Room) (s : State) (m : MethodId) (args : Array Value) (below : List Frame) (meth : Method) (c : Code) (Z : State) (a0 : Array Value) (EL : List (String × Nat)) (nb : Bool) (own : String) (code : ByteArray) (ml : Nat) (ret : Option FieldType) (nm : String)
    (vm : Vm) (T : State) (locs : List Loc) (ce sl : Nat) (h : Heap) : Prop :=
  (p.tables.exec = Jvm.exec ∧ c.code = code ∧ c.maxLocals = ml ∧ meth.sig.returnType = ret ∧ meth.locks = false ∧ meth.name = nm) ∧
  Stand p l e R (s.setVm vm) m args below meth c T locs ce sl ∧ T.heap = h ∧ (∃ k0, s.Since vm k0 ∧ k0 ≤ h.size) ∧ Z.Warmed39 vm ∧ vm.findClass own = some m.cls ∧
  CHr Z EL s.vm s.heap vm h ∧ Fr Z.heap.size locs ∧ Ext Z.heap h ∧ (nb = true → s.WarmedH vm) ∧ EW Z a0 EL
/-- the body comes to its end from here -/
def OG (p : Program) (e : Env) (below : List Frame) (s : State) (Z : State) (EL : List (String × Nat)) (nb : Bool) (Q : Option Value → Vm → Heap → Prop) (ck sk : Nat) (T : State) (g : JFrame) : Prop :=
  ∃ s₂ o, Steps p.tables e below (T.setTop g) s₂ ∧ s₂.status = .running ∧ Ended s₂ below o ∧ ∃ v L, o = .returned v ∧ (Q v s₂.vm s₂.heap ∧ Fr Z.heap.size L ∧ Ext Z.heap s₂.heap) ∧ (nb = true → s.WarmedH s₂.vm) ∧ CHr Z EL s.vm s.heap s₂.vm s₂.heap ∧ ReturnedEndW s o s₂ L ck sk
/-- a method's contract -/
def OC (l : Launch) (Z : State) (EL : List (String × Nat)) (nb : Bool) (ws : List Jvm.Cond) (y : MethodName) (bytes : ByteArray) (ml : Nat) (ret : Option FieldType) (rm : Room) (as' : Array Value) (h : Heap) (sf : List Addr) (Q : Option Value → Vm → Heap → Prop) : Prop :=
  MetFree l y (head1 (Jvm.Cond.code y bytes ml ret :: ws) rm) (fun a U => a = as' ∧ Z.Warmed39 U.vm ∧ U.heap = h ∧ CHv Z EL U.vm h ∧ Ext Z.heap h ∧ ∀ x ∈ sf, Safe Z EL U.vm h x) (fun _ _ _ _ _ => True)
    (fun _ U o U' => ∃ v L, o = .returned v ∧ (Q v U'.vm U'.heap ∧ Fr Z.heap.size L ∧ Ext Z.heap U'.heap) ∧ (nb = true → U.WarmedH U'.vm) ∧ CHr Z EL U.vm U.heap U'.vm U'.heap ∧ ReturnedEndW U o U' L rm.cells rm.slots)
/-- one step of the walk -/
abbrev Lt (p : Program) (e : Env) (below : List Frame) (T : State) (g : JFrame) (T' : State) (g' : JFrame) : Prop := ∀ t, Steps p.tables e below (T'.setTop g') t → Steps p.tables e below (T.setTop g) t
theorem oLift {g g' : JFrame} {T' : State} (st : Lt p e below T g T' g') (k : OG p e below s Z EL nb Q ck sk T' g') : OG p e below s Z EL nb Q ck sk T g := by
  obtain ⟨s₂, o, h1, r⟩ := k
  exact ⟨s₂, o, st _ h1, r⟩
theorem oEq {g g' : JFrame} (q : g = g') (k : OG p e below s Z EL nb Q ck sk T g') : OG p e below s Z EL nb Q ck sk T g := q ▸ k
theorem oEnter {ws : List Jvm.Cond} {y : MethodName} {bytes : ByteArray} {rm : Room} {as' : Array Value} {sf : List Addr} (hp : plainFor y = true) (hEW : EW Z a0 EL)
    (body : ∀ (p : Program) (e : Env) (s : State) (m : MethodId) (below : List Frame) (meth : Method) (c : Code) (T : State), OW p l e rm s m as' below meth c Z a0 EL nb y.cls bytes ml ret y.name s.vm T [] 0 0 h → (∀ x ∈ sf, Safe Z EL s.vm h x) → OG p e below s Z EL nb Q rm.cells rm.slots T (entryFrame m as' ml)) :
    OC l Z EL nb ws y bytes ml ret rm as' h sf Q := by
  refine MetFree.of_bodySF hp hisR ?_
  intro p e s m args below meth c s₁ Bd hml hP hK
  obtain ⟨rfl, hZ, hh, hC, hE, hSf⟩ := hP
  have X0 : Stand p l e rm s m _ below meth c s₁ [] 0 0 := Stand.of_body Bd
  have e0 : s₁.heap = h := by rw [← hh, Bd.state]; rfl
  obtain ⟨s₂, o, h1, h2, h3, v, L, h4, h5, h6, h7, h8⟩ := body p e s m below meth c s₁
    ⟨⟨Bd.exec, Bd.bytes, hml, Bd.returns, BodyLoose.notSynchronized Bd, (name_of_methodNamed Bd.named Bd.method).1⟩, X0, e0, ⟨0, (State.WarmedH.refl s).since _, Nat.zero_le _⟩, hZ, findClass_of_methodNamed Bd.named, by subst hh; exact CHr.refl hC, Fr.nil _, hE, fun _ => State.WarmedH.refl s, hEW⟩ hSf
  exact ⟨s₂, o, h1, h2, h3, v, L, h4, h5, h6, h7, h8⟩
/-! ### the plain steps, by evaluation -/
def oIl : Instr → Nat
  | .bipush _ => 2 | .sipush _ => 3 | .aload _ => 2 | .iload _ => 2 | .istore _ => 2 | .astore _ => 2 | .iinc _ _ => 3 | .goto _ => 3 | _ => 1
def oNx (pc : Nat) : Instr → Nat
  | .goto o => ((pc : Int) + o).toNat
  | i => pc + oIl i
def oOkG (pc : Nat) : Instr → Bool
  | .goto o => decide (0 ≤ (pc : Int) + o)
  | _ => true
def oSeg (code : ByteArray) : Nat → List Instr → Bool
  | _, [] => true
  | pc, i :: is => decide (decode code pc = .ok (i, oIl i)) && (oOkG pc i && oSeg code (oNx pc i) is)
def oOne : Slot → Bool
  | .unset => true
  | .val w => decide (w.category = 1)
  | .second => false
theorem oOne_ok {o : Slot} (h : oOne o = true) : o = .unset ∨ ∃ w, o = .val w ∧ w.category = 1 := by
  cases o with
  | unset => exact Or.inl rfl
  | second => cases h
  | val w => exact Or.inr ⟨w, rfl, of_decide_eq_true h⟩
theorem oCat {v : Value} (h : v.isRef = true) : v.category = 1 := by cases v <;> simp_all [Value.isRef, Value.category]
def oS1 (i : Instr) (ls : Array Slot) (st : List Value) : Option (Array Slot × List Value × Bool) :=
  match i with
  | .aload_n k => match ls[k.val]? with | some (.val v) => some (ls, v :: st, v.isRef) | _ => none
  | .aload k => match ls[k]? with | some (.val v) => some (ls, v :: st, v.isRef) | _ => none
  | .iload_n k => match ls[k.val]? with | some (.val (.int x)) => some (ls, .int x :: st, true) | _ => none
  | .iload k => match ls[k]? with | some (.val (.int x)) => some (ls, .int x :: st, true) | _ => none
  | .iconst i => some (ls, .int (Int32.ofInt i) :: st, true)
  | .bipush i => some (ls, .int (Int8.ofInt i).toInt32 :: st, true)
  | .sipush i => some (ls, .int (Int16.ofInt i).toInt32 :: st, true)
  | .aconst_null => some (ls, .null :: st, true)
  | .goto _ => some (ls, st, true)
  | .istore_n k => match st with | .int x :: rest => (match storeLocals ls k.val (.int x) with | some l' => some (l', rest, true) | none => none) | _ => none
  | .istore k => match st with | .int x :: rest => (match storeLocals ls k (.int x) with | some l' => some (l', rest, true) | none => none) | _ => none
  | .astore_n k => match st with | x :: rest => (match ls[k.val]? with | some o => some (ls.setIfInBounds k.val (.val x), rest, x.isRef && oOne o) | none => none) | _ => none
  | .astore k => match st with | x :: rest => (match ls[k]? with | some o => some (ls.setIfInBounds k (.val x), rest, x.isRef && oOne o) | none => none) | _ => none
  | .iinc k cst => match ls[k]? with | some (.val (.int x)) => (match storeLocals ls k (.int (x + Int32.ofInt cst)) with | some l' => some (l', st, true) | none => none) | _ => none
  | .dup => match st with | x :: rest => some (ls, x :: x :: rest, decide (x.category = 1)) | _ => none
  | .pop => match st with | x :: rest => some (ls, rest, decide (x.category = 1)) | _ => none
  | .dup_x1 => match st with | x :: y :: rest => some (ls, x :: y :: x :: rest, decide (x.category = 1) && decide (y.category = 1)) | _ => none
  | .dup2 => match st with | x :: y :: rest => some (ls, x :: y :: x :: y :: rest, decide (x.category = 1) && decide (y.category = 1)) | _ => none
  | .iadd => match st with | .int y :: .int x :: rest => some (ls, .int (x + y) :: rest, true) | _ => none
  | .isub => match st with | .int y :: .int x :: rest => some (ls, .int (x - y) :: rest, true) | _ => none
  | .imul => match st with | .int y :: .int x :: rest => some (ls, .int (x * y) :: rest, true) | _ => none
  | .idiv => match st with | .int y :: .int x :: rest => some (ls, .int (x / y) :: rest, decide (y ≠ 0)) | _ => none
  | .irem => match st with | .int y :: .int x :: rest => some (ls, .int (x % y) :: rest, decide (y ≠ 0)) | _ => none
  | .iand => match st with | .int y :: .int x :: rest => some (ls, .int (x &&& y) :: rest, true) | _ => none
  | .ior => match st with | .int y :: .int x :: rest => some (ls, .int (x ||| y) :: rest, true) | _ => none
  | .ixor => match st with | .int y :: .int x :: rest => some (ls, .int (x ^^^ y) :: rest, true) | _ => none
  | .ishl => match st with | .int y :: .int x :: rest => some (ls, .int (x <<< (y &&& 31)) :: rest, true) | _ => none
  | .ishr => match st with | .int y :: .int x :: rest => some (ls, .int (x >>> (y &&& 31)) :: rest, true) | _ => none
  | .iushr => match st with | .int y :: .int x :: rest => some (ls, .int (XT.ushr x y) :: rest, true) | _ => none
  | .ineg => match st with | .int x :: rest => some (ls, .int (-x) :: rest, true) | _ => none
  | .i2b => match st with | .int x :: rest => some (ls, .int (x.toInt8.toInt32) :: rest, true) | _ => none
  | .i2c => match st with | .int x :: rest => some (ls, .int (x.toUInt32.toUInt16.toUInt32.toInt32) :: rest, true) | _ => none
  | .i2s => match st with | .int x :: rest => some (ls, .int (x.toInt16.toInt32) :: rest, true) | _ => none
  | .i2l => match st with | .int x :: rest => some (ls, .long x.toInt64 :: rest, true) | _ => none
  | .lsub => match st with | .long y :: .long x :: rest => some (ls, .long (x - y) :: rest, true) | _ => none
  | .lcmp => match st with | .long y :: .long x :: rest => some (ls, .int (XT.cmpL x y) :: rest, true) | _ => none
  | _ => none
def oRun : List Instr → Array Slot → List Value → Option (Array Slot × List Value × Bool)
  | [], ls, st => some (ls, st, true)
  | i :: is, ls, st => match oS1 i ls st with
    | some (ls1, st1, b1) => (match oRun is ls1 st1 with | some (ls2, st2, b2) => some (ls2, st2, b1 && b2) | none => none)
    | none => none
def oNxs : Nat → List Instr → Nat
  | pc, [] => pc
  | pc, i :: is => oNxs (oNx pc i) is
theorem oS1_ok (H : At T m c below) (hx : p.tables.exec = Jvm.exec) {i : Instr} {pc : Nat} {ls ls' : Array Slot} {st st' : List Value} {b : Bool} {t : State} (hd : decode c.code pc = .ok (i, oIl i)) (hg : oOkG pc i = true) (hs : oS1 i ls st = some (ls', st', b)) (hb : b = true)
    (hr : Steps p.tables e below (T.setTop (mkF m (oNx pc i) ls' st')) t) : Steps p.tables e below (T.setTop (mkF m pc ls st)) t := by
  subst hb
  cases i
  case aload_n k =>
    simp only [oS1] at hs
    split at hs
    · rename_i v hv
      simp only [Option.some.injEq, Prod.mk.injEq] at hs
      obtain ⟨rfl, rfl, h3⟩ := hs
      exact XS.aloadN (g := mkF m pc ls _) H hx rfl hd hv h3 hr
    · cases hs
  case aload k =>
    simp only [oS1] at hs
    split at hs
    · rename_i v hv
      simp only [Option.some.injEq, Prod.mk.injEq] at hs
      obtain ⟨rfl, rfl, h3⟩ := hs
      exact XS.aload (g := mkF m pc ls _) H hx rfl hd hv h3 hr
    · cases hs
  case iload_n k =>
    simp only [oS1] at hs
    split at hs
    · rename_i x hv
      simp only [Option.some.injEq, Prod.mk.injEq] at hs
      obtain ⟨rfl, rfl, -⟩ := hs
      exact XS.iloadN (g := mkF m pc ls _) H hx rfl hd hv hr
    · cases hs
  case iload k =>
    simp only [oS1] at hs
    split at hs
    · rename_i x hv
      simp only [Option.some.injEq, Prod.mk.injEq] at hs
      obtain ⟨rfl, rfl, -⟩ := hs
      exact XS.iload (g := mkF m pc ls _) H hx rfl hd hv hr
    · cases hs
  case iconst z =>
    simp only [oS1, Option.some.injEq, Prod.mk.injEq] at hs
    obtain ⟨rfl, rfl, -⟩ := hs
    exact XS.iconst (g := mkF m pc ls _) H hx rfl hd hr
  case bipush z =>
    simp only [oS1, Option.some.injEq, Prod.mk.injEq] at hs
    obtain ⟨rfl, rfl, -⟩ := hs
    exact XS.bipush (g := mkF m pc ls _) H hx rfl hd hr
  case sipush z =>
    simp only [oS1, Option.some.injEq, Prod.mk.injEq] at hs
    obtain ⟨rfl, rfl, -⟩ := hs
    exact XS.sipush (g := mkF m pc ls _) H hx rfl hd hr
  case aconst_null =>
    simp only [oS1, Option.some.injEq, Prod.mk.injEq] at hs
    obtain ⟨rfl, rfl, -⟩ := hs
    exact XS.aconstNull (g := mkF m pc ls _) H hx rfl hd hr
  case goto o =>
    simp only [oS1, Option.some.injEq, Prod.mk.injEq] at hs
    obtain ⟨rfl, rfl, -⟩ := hs
    exact XS.goto (g := mkF m pc ls _) H hx rfl (pc0 := pc) rfl hd (of_decide_eq_true hg) rfl hr
  case astore_n k =>
    simp only [oS1] at hs
    split at hs
    · split at hs
      · rename_i o ho
        simp only [Option.some.injEq, Prod.mk.injEq] at hs
        obtain ⟨rfl, rfl, h3⟩ := hs
        rw [Bool.and_eq_true] at h3
        exact XS.astoreN (g := mkF m pc ls _) H hx rfl hd rfl h3.1 (XS.store1 ho (oOne_ok h3.2) (oCat h3.1)) hr
      · cases hs
    · cases hs
  case astore k =>
    simp only [oS1] at hs
    split at hs
    · split at hs
      · rename_i o ho
        simp only [Option.some.injEq, Prod.mk.injEq] at hs
        obtain ⟨rfl, rfl, h3⟩ := hs
        rw [Bool.and_eq_true] at h3
        exact XS.astore (g := mkF m pc ls _) H hx rfl hd rfl h3.1 (XS.store1 ho (oOne_ok h3.2) (oCat h3.1)) hr
      · cases hs
    · cases hs
  case istore_n k =>
    simp only [oS1] at hs
    split at hs
    · split at hs
      · rename_i l2 hl
        simp only [Option.some.injEq, Prod.mk.injEq] at hs
        obtain ⟨rfl, rfl, h3⟩ := hs
        exact XS.istoreN (g := mkF m pc ls _) H hx rfl hd rfl hl hr
      · cases hs
    · cases hs
  case istore k =>
    simp only [oS1] at hs
    split at hs
    · split at hs
      · rename_i l2 hl
        simp only [Option.some.injEq, Prod.mk.injEq] at hs
        obtain ⟨rfl, rfl, h3⟩ := hs
        exact XS.istore (g := mkF m pc ls _) H hx rfl hd rfl hl hr
      · cases hs
    · cases hs
  case iinc k z =>
    simp only [oS1] at hs
    split at hs
    · rename_i x hv
      split at hs
      · rename_i l2 hl
        simp only [Option.some.injEq, Prod.mk.injEq] at hs
        obtain ⟨rfl, rfl, -⟩ := hs
        exact XS.iinc (g := mkF m pc ls _) H hx rfl hd hv hl hr
      · cases hs
    · cases hs
  case dup =>
    simp only [oS1] at hs
    split at hs
    · simp only [Option.some.injEq, Prod.mk.injEq] at hs
      obtain ⟨rfl, rfl, h3⟩ := hs
      exact XS.dup (g := mkF m pc ls _) H hx rfl hd rfl (of_decide_eq_true h3) hr
    · cases hs
  case pop =>
    simp only [oS1] at hs
    split at hs
    · simp only [Option.some.injEq, Prod.mk.injEq] at hs
      obtain ⟨rfl, rfl, h3⟩ := hs
      exact XT.pop (g := mkF m pc ls _) H hx rfl hd rfl (of_decide_eq_true h3) hr
    · cases hs
  case dup_x1 =>
    simp only [oS1] at hs
    split at hs
    · simp only [Option.some.injEq, Prod.mk.injEq] at hs
      obtain ⟨rfl, rfl, h3⟩ := hs
      rw [Bool.and_eq_true] at h3
      exact XT.dupX1 (g := mkF m pc ls _) H hx rfl hd rfl (of_decide_eq_true h3.1) (of_decide_eq_true h3.2) hr
    · cases hs
  case dup2 =>
    simp only [oS1] at hs
    split at hs
    · simp only [Option.some.injEq, Prod.mk.injEq] at hs
      obtain ⟨rfl, rfl, h3⟩ := hs
      rw [Bool.and_eq_true] at h3
      exact XT.dup2 (g := mkF m pc ls _) H hx rfl hd rfl (of_decide_eq_true h3.1) (of_decide_eq_true h3.2) hr
    · cases hs
  case iadd =>
    simp only [oS1] at hs
    split at hs
    · simp only [Option.some.injEq, Prod.mk.injEq] at hs
      obtain ⟨rfl, rfl, -⟩ := hs
      exact XS.iadd (g := mkF m pc ls _) H hx rfl hd rfl hr
    · cases hs
  case isub =>
    simp only [oS1] at hs
    split at hs
    · simp only [Option.some.injEq, Prod.mk.injEq] at hs
      obtain ⟨rfl, rfl, -⟩ := hs
      exact XS.isub (g := mkF m pc ls _) H hx rfl hd rfl hr
    · cases hs
  case imul =>
    simp only [oS1] at hs
    split at hs
    · simp only [Option.some.injEq, Prod.mk.injEq] at hs
      obtain ⟨rfl, rfl, -⟩ := hs
      exact XS.imul (g := mkF m pc ls _) H hx rfl hd rfl hr
    · cases hs
  case iand =>
    simp only [oS1] at hs
    split at hs
    · simp only [Option.some.injEq, Prod.mk.injEq] at hs
      obtain ⟨rfl, rfl, -⟩ := hs
      exact XS.iand (g := mkF m pc ls _) H hx rfl hd rfl hr
    · cases hs
  case ior =>
    simp only [oS1] at hs
    split at hs
    · simp only [Option.some.injEq, Prod.mk.injEq] at hs
      obtain ⟨rfl, rfl, -⟩ := hs
      exact XT.ior (g := mkF m pc ls _) H hx rfl hd rfl hr
    · cases hs
  case ixor =>
    simp only [oS1] at hs
    split at hs
    · simp only [Option.some.injEq, Prod.mk.injEq] at hs
      obtain ⟨rfl, rfl, -⟩ := hs
      exact XT.ixor (g := mkF m pc ls _) H hx rfl hd rfl hr
    · cases hs
  case ishl =>
    simp only [oS1] at hs
    split at hs
    · simp only [Option.some.injEq, Prod.mk.injEq] at hs
      obtain ⟨rfl, rfl, -⟩ := hs
      exact XT.ishl (g := mkF m pc ls _) H hx rfl hd rfl hr
    · cases hs
  case ishr =>
    simp only [oS1] at hs
    split at hs
    · simp only [Option.some.injEq, Prod.mk.injEq] at hs
      obtain ⟨rfl, rfl, -⟩ := hs
      exact XT.ishr (g := mkF m pc ls _) H hx rfl hd rfl hr
    · cases hs
  case iushr =>
    simp only [oS1] at hs
    split at hs
    · simp only [Option.some.injEq, Prod.mk.injEq] at hs
      obtain ⟨rfl, rfl, -⟩ := hs
      exact XT.iushr (g := mkF m pc ls _) H hx rfl hd rfl hr
    · cases hs
  case ineg =>
    simp only [oS1] at hs
    split at hs
    · simp only [Option.some.injEq, Prod.mk.injEq] at hs
      obtain ⟨rfl, rfl, -⟩ := hs
      exact XS.ineg (g := mkF m pc ls _) H hx rfl hd rfl hr
    · cases hs
  case i2b =>
    simp only [oS1] at hs
    split at hs
    · simp only [Option.some.injEq, Prod.mk.injEq] at hs
      obtain ⟨rfl, rfl, -⟩ := hs
      exact XT.i2b (g := mkF m pc ls _) H hx rfl hd rfl hr
    · cases hs
  case i2c =>
    simp only [oS1] at hs
    split at hs
    · simp only [Option.some.injEq, Prod.mk.injEq] at hs
      obtain ⟨rfl, rfl, -⟩ := hs
      exact XT.i2c (g := mkF m pc ls _) H hx rfl hd rfl hr
    · cases hs
  case i2s =>
    simp only [oS1] at hs
    split at hs
    · simp only [Option.some.injEq, Prod.mk.injEq] at hs
      obtain ⟨rfl, rfl, -⟩ := hs
      exact XT.i2s (g := mkF m pc ls _) H hx rfl hd rfl hr
    · cases hs
  case i2l =>
    simp only [oS1] at hs
    split at hs
    · simp only [Option.some.injEq, Prod.mk.injEq] at hs
      obtain ⟨rfl, rfl, -⟩ := hs
      exact XT.i2l (g := mkF m pc ls _) H hx rfl hd rfl hr
    · cases hs
  case lsub =>
    simp only [oS1] at hs
    split at hs
    · simp only [Option.some.injEq, Prod.mk.injEq] at hs
      obtain ⟨rfl, rfl, -⟩ := hs
      exact XT.lsub (g := mkF m pc ls _) H hx rfl hd rfl hr
    · cases hs
  case lcmp =>
    simp only [oS1] at hs
    split at hs
    · simp only [Option.some.injEq, Prod.mk.injEq] at hs
      obtain ⟨rfl, rfl, -⟩ := hs
      exact XT.lcmp (g := mkF m pc ls _) H hx rfl hd rfl hr
    · cases hs
  case idiv =>
    simp only [oS1] at hs
    split at hs
    · simp only [Option.some.injEq, Prod.mk.injEq] at hs
      obtain ⟨rfl, rfl, h3⟩ := hs
      exact XS.idiv (g := mkF m pc ls _) H hx rfl hd rfl (of_decide_eq_true h3) hr
    · cases hs
  case irem =>
    simp only [oS1] at hs
    split at hs
    · rename_i y x rest
      simp only [Option.some.injEq, Prod.mk.injEq] at hs
      obtain ⟨rfl, rfl, h3⟩ := hs
      refine XS.irem (g := mkF m pc ls _) H hx rfl hd rfl (of_decide_eq_true h3) ?_
      rw [irem_eq_mod x y]
      exact hr
    · cases hs
  all_goals (simp [oS1] at hs)
theorem oGo (W : OW p l e R s m args below meth c Z a0 EL nb own code ml ret nm vm T locs ce sl h) : ∀ (is : List Instr) {pc : Nat} {ls ls' : Array Slot} {st st' : List Value} {b : Bool}, oSeg code pc is = true → oRun is ls st = some (ls', st', b) → b = true → ∀ {pc' : Nat}, oNxs pc is = pc' → OG p e below s Z EL nb Q ck sk T (mkF m pc' ls' st') → OG p e below s Z EL nb Q ck sk T (mkF m pc ls st)
  | [], pc, ls, ls', st, st', b, _, hr, _, pc', hp, k => by
    simp only [oRun, Option.some.injEq, Prod.mk.injEq] at hr
    obtain ⟨rfl, rfl, -⟩ := hr
    subst hp
    exact k
  | i :: is, pc, ls, ls', st, st', b, hg, hr, hb, pc', hp, k => by
    simp only [oRun] at hr
    split at hr
    · rename_i ls1 st1 b1 h1
      split at hr
      · rename_i ls2 st2 b2 h2
        simp only [Option.some.injEq, Prod.mk.injEq] at hr
        obtain ⟨rfl, rfl, rfl⟩ := hr
        rw [Bool.and_eq_true] at hb
        simp only [oSeg, Bool.and_eq_true] at hg
        have hd : decode c.code pc = .ok (i, oIl i) := by rw [W.1.2.1]; exact of_decide_eq_true hg.1
        exact oLift (fun t q => oS1_ok W.2.1.here W.1.1 hd hg.2.1 h1 hb.1 q) (oGo W is hg.2.2 h2 hb.2 hp k)
      · cases hr
    · cases hr
theorem oDec (W : OW p l e R s m args below meth c Z a0 EL nb own code ml ret nm vm T locs ce sl h) {pc : Nat} {r : Except DecodeError (Instr × Nat)} (hd : decode code pc = r) : decode c.code pc = r := by rw [W.1.2.1]; exact hd
/-! ### branches -/
theorem oIfT (W : OW p l e R s m args below meth c Z a0 EL nb own code ml ret nm vm T locs ce sl h) {cd : ClassFile.Cond} {o : Int} {x : Int32} {pc : Nat} {ls : Array Slot} {st : List Value} (hd : decode code pc = .ok (.ifCond cd o, 3)) (hc : ifCond.holds cd x = true) {pc' : Nat} (ho : 0 ≤ (pc : Int) + o) (hp : ((pc : Int) + o).toNat = pc') (k : OG p e below s Z EL nb Q ck sk T (mkF m pc' ls st)) : OG p e below s Z EL nb Q ck sk T (mkF m pc ls (.int x :: st)) :=
  oLift (fun t q => XS.ifYes (g := mkF m pc ls (.int x :: st)) W.2.1.here W.1.1 rfl (pc0 := pc) rfl (oDec W hd) rfl hc ho hp q) k
theorem oIfF (W : OW p l e R s m args below meth c Z a0 EL nb own code ml ret nm vm T locs ce sl h) {cd : ClassFile.Cond} {o : Int} {x : Int32} {pc : Nat} {ls : Array Slot} {st : List Value} (hd : decode code pc = .ok (.ifCond cd o, 3)) (hc : ifCond.holds cd x = false) {pc' : Nat} (hp : pc + 3 = pc') (k : OG p e below s Z EL nb Q ck sk T (mkF m pc' ls st)) : OG p e below s Z EL nb Q ck sk T (mkF m pc ls (.int x :: st)) := by
  subst hp
  exact oLift (fun t q => XS.ifNo (g := mkF m pc ls (.int x :: st)) W.2.1.here W.1.1 rfl (oDec W hd) rfl hc q) k
theorem oIcT (W : OW p l e R s m args below meth c Z a0 EL nb own code ml ret nm vm T locs ce sl h) {cd : ClassFile.Cond} {o : Int} {x y : Int32} {pc : Nat} {ls : Array Slot} {st : List Value} (hd : decode code pc = .ok (.if_icmp cd o, 3)) (hc : if_icmp.holds cd x y = true) {pc' : Nat} (ho : 0 ≤ (pc : Int) + o) (hp : ((pc : Int) + o).toNat = pc') (k : OG p e below s Z EL nb Q ck sk T (mkF m pc' ls st)) : OG p e below s Z EL nb Q ck sk T (mkF m pc ls (.int y :: .int x :: st)) :=
  oLift (fun t q => XS.icmpYes (g := mkF m pc ls (.int y :: .int x :: st)) W.2.1.here W.1.1 rfl (pc0 := pc) rfl (oDec W hd) rfl hc ho hp q) k
theorem oIcF (W : OW p l e R s m args below meth c Z a0 EL nb own code ml ret nm vm T locs ce sl h) {cd : ClassFile.Cond} {o : Int} {x y : Int32} {pc : Nat} {ls : Array Slot} {st : List Value} (hd : decode code pc = .ok (.if_icmp cd o, 3)) (hc : if_icmp.holds cd x y = false) {pc' : Nat} (hp : pc + 3 = pc') (k : OG p e below s Z EL nb Q ck sk T (mkF m pc' ls st)) : OG p e below s Z EL nb Q ck sk T (mkF m pc ls (.int y :: .int x :: st)) := by
  subst hp
  exact oLift (fun t q => XS.icmpNo (g := mkF m pc ls (.int y :: .int x :: st)) W.2.1.here W.1.1 rfl (oDec W hd) rfl hc q) k
theorem oNuT (W : OW p l e R s m args below meth c Z a0 EL nb own code ml ret nm vm T locs ce sl h) {o : Int} {pc : Nat} {ls : Array Slot} {st : List Value} (hd : decode code pc = .ok (.ifnull o, 3)) {pc' : Nat} (ho : 0 ≤ (pc : Int) + o) (hp : ((pc : Int) + o).toNat = pc') (k : OG p e below s Z EL nb Q ck sk T (mkF m pc' ls st)) : OG p e below s Z EL nb Q ck sk T (mkF m pc ls (.null :: st)) :=
  oLift (fun t q => XS.ifnullYes (g := mkF m pc ls (.null :: st)) W.2.1.here W.1.1 rfl (pc0 := pc) rfl (oDec W hd) rfl ho hp q) k
theorem oNuF (W : OW p l e R s m args below meth c Z a0 EL nb own code ml ret nm vm T locs ce sl h) {o : Int} {a : Addr} {pc : Nat} {ls : Array Slot} {st : List Value} (hd : decode code pc = .ok (.ifnull o, 3)) {pc' : Nat} (hp : pc + 3 = pc') (k : OG p e below s Z EL nb Q ck sk T (mkF m pc' ls st)) : OG p e below s Z EL nb Q ck sk T (mkF m pc ls (.ref a :: st)) := by
  subst hp
  exact oLift (fun t q => XS.ifnullNo (g := mkF m pc ls (.ref a :: st)) W.2.1.here W.1.1 rfl (oDec W hd) rfl q) k
theorem oNnT (W : OW p l e R s m args below meth c Z a0 EL nb own code ml ret nm vm T locs ce sl h) {o : Int} {a : Addr} {pc : Nat} {ls : Array Slot} {st : List Value} (hd : decode code pc = .ok (.ifnonnull o, 3)) {pc' : Nat} (ho : 0 ≤ (pc : Int) + o) (hp : ((pc : Int) + o).toNat = pc') (k : OG p e below s Z EL nb Q ck sk T (mkF m pc' ls st)) : OG p e below s Z EL nb Q ck sk T (mkF m pc ls (.ref a :: st)) :=
  oLift (fun t q => XT.ifnonnullYes (g := mkF m pc ls (.ref a :: st)) W.2.1.here W.1.1 rfl (pc0 := pc) rfl (oDec W hd) rfl ho hp q) k
theorem oNnF (W : OW p l e R s m args below meth c Z a0 EL nb own code ml ret nm vm T locs ce sl h) {o : Int} {pc : Nat} {ls : Array Slot} {st : List Value} (hd : decode code pc = .ok (.ifnonnull o, 3)) {pc' : Nat} (hp : pc + 3 = pc') (k : OG p e below s Z EL nb Q ck sk T (mkF m pc' ls st)) : OG p e below s Z EL nb Q ck sk T (mkF m pc ls (.null :: st)) := by
  subst hp
  exact oLift (fun t q => XT.ifnonnullNo (g := mkF m pc ls (.null :: st)) W.2.1.here W.1.1 rfl (oDec W hd) rfl q) k
theorem oAcT (W : OW p l e R s m args below meth c Z a0 EL nb own code ml ret nm vm T locs ce sl h) {cd : ACond} {o : Int} {x y : Value} {pc : Nat} {ls : Array Slot} {st : List Value} (hd : decode code pc = .ok (.if_acmp cd o, 3)) (h1 : x.isRef = true) (h2 : y.isRef = true) (hc : XT.acmp cd x y = true) {pc' : Nat} (ho : 0 ≤ (pc : Int) + o) (hp : ((pc : Int) + o).toNat = pc') (k : OG p e below s Z EL nb Q ck sk T (mkF m pc' ls st)) : OG p e below s Z EL nb Q ck sk T (mkF m pc ls (y :: x :: st)) :=
  oLift (fun t q => XT.acmpYes (g := mkF m pc ls (y :: x :: st)) W.2.1.here W.1.1 rfl (pc0 := pc) rfl (oDec W hd) rfl h1 h2 hc ho hp q) k
theorem oAcF (W : OW p l e R s m args below meth c Z a0 EL nb own code ml ret nm vm T locs ce sl h) {cd : ACond} {o : Int} {x y : Value} {pc : Nat} {ls : Array Slot} {st : List Value} (hd : decode code pc = .ok (.if_acmp cd o, 3)) (h1 : x.isRef = true) (h2 : y.isRef = true) (hc : XT.acmp cd x y = false) {pc' : Nat} (hp : pc + 3 = pc') (k : OG p e below s Z EL nb Q ck sk T (mkF m pc' ls st)) : OG p e below s Z EL nb Q ck sk T (mkF m pc ls (y :: x :: st)) := by
  subst hp
  exact oLift (fun t q => XT.acmpNo (g := mkF m pc ls (y :: x :: st)) W.2.1.here W.1.1 rfl (oDec W hd) rfl h1 h2 hc q) k
/-! ### the end -/
theorem oFin (W : OW p l e R s m args below meth c Z a0 EL nb own code ml ret nm vm T locs ce sl h) {v : Option Value} {g : JFrame} (hv : ret = none → v = none)
    (hstep : ∀ fs, (∀ (f : JFrame) (acts : List Action), f.method = m → f.locked = none → f.entered = [] → (doReturn e (T.setTop f) acts v).1 = T.setFrames fs) → Steps p.tables e below (T.setTop g) (T.setFrames fs)) (hc : ce ≤ ck) (hs : sl ≤ sk) (hq : ∀ vm', CHr Z EL vm h vm' h → Q v vm' h) : OG p e below s Z EL nb Q ck sk T g := by
  obtain ⟨⟨h1, h2, h3, h4, h5, h6⟩, X, eT, ⟨k0, hS, hk⟩, hZ, ho, hC, hF, hE, hn, hEW⟩ := W
  obtain ⟨fs, hr, hrun, hended, r1, r2, r3, r4⟩ := X.leaveW hS (by rw [eT]; exact hk) (v := v) (fun q => hv (by rw [← h4]; exact q)) h5
  refine ⟨T.setFrames fs, _, hstep fs hr, hrun, hended, v, locs, rfl, ⟨?_, hF, ?_⟩, fun q => ?_, ?_, r1, r2, r3, r4.mono hc hs⟩
  · show Q v T.vm T.heap
    rw [eT]; exact hq _ (CHv.at X hZ hEW hC.1)
  · show Ext Z.heap T.heap
    rw [eT]; exact hE
  · exact State.WarmedH.trans (t := s.setVm vm) (hn q) X.warmed
  · show CHr Z EL s.vm s.heap T.vm T.heap
    rw [eT]
    exact hC.trans (CHv.at X hZ hEW hC.1)
theorem oRet0 (W : OW p l e R s m args below meth c Z a0 EL nb own code ml none nm vm T locs ce sl h) {pc : Nat} {ls : Array Slot} (hd : decode code pc = .ok (.return_, 1)) (hc : ce ≤ ck) (hs : sl ≤ sk) (hq : ∀ vm', CHr Z EL vm h vm' h → Q none vm' h) : OG p e below s Z EL nb Q ck sk T (mkF m pc ls []) :=
  oFin W (fun _ => rfl) (fun fs hr => W.2.1.returnOut W.1.1 W.1.2.2.2.1 (oDec W hd) hr) hc hs hq
theorem oRetI (W : OW p l e R s m args below meth c Z a0 EL nb own code ml (some .int) nm vm T locs ce sl h) {pc : Nat} {ls : Array Slot} {z : Int32} {rest : List Value} (hd : decode code pc = .ok (.ireturn, 1)) (hc : ce ≤ ck) (hs : sl ≤ sk) (hq : ∀ vm', CHr Z EL vm h vm' h → Q (some (.int z)) vm' h) : OG p e below s Z EL nb Q ck sk T (mkF m pc ls (.int z :: rest)) :=
  oFin W (fun q => by cases q) (fun fs hr => RoadKit.retOut W.2.1 W.1.1 W.1.2.2.2.1 rfl (Or.inl ⟨rfl, Or.inl rfl, _, rfl⟩) (oDec W hd) hr) hc hs hq
theorem oRetN {t : FieldType} (ht : t = .boolean ∨ t = .byte ∨ t = .char ∨ t = .short) (W : OW p l e R s m args below meth c Z a0 EL nb own code ml (some t) nm vm T locs ce sl h) {pc : Nat} {ls : Array Slot} {z : Int32} {rest : List Value} (hn : nar t z = z) (hd : decode code pc = .ok (.ireturn, 1)) (hc : ce ≤ ck) (hs : sl ≤ sk) (hq : ∀ vm', CHr Z EL vm h vm' h → Q (some (.int z)) vm' h) : OG p e below s Z EL nb Q ck sk T (mkF m pc ls (.int z :: rest)) :=
  oFin W (fun q => by cases q) (fun fs hr => RoadKit.retN W.2.1 W.1.1 W.1.2.2.2.1 ht (oDec W hd) (by rw [hn]; exact hr)) hc hs hq
theorem oRetA {t : FieldType} (ht : t.isReference = true) (W : OW p l e R s m args below meth c Z a0 EL nb own code ml (some t) nm vm T locs ce sl h) {pc : Nat} {ls : Array Slot} {w : Value} {rest : List Value} (hw : w.isRef = true) (hn : narrow t w = w) (hd : decode code pc = .ok (.areturn, 1)) (hc : ce ≤ ck) (hs : sl ≤ sk) (hq : ∀ vm', CHr Z EL vm h vm' h → Q (some w) vm' h) : OG p e below s Z EL nb Q ck sk T (mkF m pc ls (w :: rest)) :=
  oFin W (fun q => by cases q) (fun fs hr => RoadKit.retOut W.2.1 W.1.1 W.1.2.2.2.1 hn (Or.inr (Or.inr (Or.inr (Or.inr ⟨rfl, ht, hw⟩)))) (oDec W hd) hr) hc hs hq
end Base
end Jvm.OwnK
namespace Jvm.OwnK
open Jvm Sem ClassFile Op Lib Jvm.Stand Jvm.Free Jvm.LawKit Jvm.RoadKit Bundle
section Heaps
variable {p : Program} {l : Launch} {e : Env} {R : Room} {s : State} {m : MethodId} {args : Array Value} {below : List Frame} {meth : Method} {c : Code} {Z : State} {a0 : Array Value} {EL : List (String × Nat)} {nb : Bool} {own : String} {code : ByteArray} {ml : Nat} {ret : Option FieldType} {nm : String} {vm : Vm} {T : State} {locs : List Loc} {ce sl : Nat} {h h1 h2 : Heap} {Q : Option Value → Vm → Heap → Prop} {ck sk : Nat} {pc : Nat} {ls : Array Slot} {st : List Value}
theorem exR (h : Heap) : Ext h h := ⟨Nat.le_refl _, fun _ _ q => q⟩
theorem exT (A : Ext h h1) (B : Ext h1 h2) : Ext h h2 := ⟨Nat.le_trans A.1 B.1, fun a c q => B.2 a c (A.2 a c q)⟩
theorem exW {a : Addr} {i : Nat} {v : Value} (A : Ext h h1) (B : Wr h1 h2 a i v) (q : h.size ≤ a) : Ext h h2 := by
  have K := (Keep.refl h ([] : List Addr)).ext A |>.wr B (Or.inr q)
  exact ⟨K.1, fun x c hx => K.2.1 x c hx nin0⟩
theorem exK {ws : List Addr} (A : Ext h h1) (K : Keep h1 h2 ws) (q : ∀ x ∈ ws, h.size ≤ x) : Ext h h2 := by
  have K' := ((Keep.refl h ([] : List Addr)).ext A).trans K (fun x hx => Or.inr (q x hx))
  exact ⟨K'.1, fun x c hx => K'.2.1 x c hx nin0⟩
theorem OW.step (W : OW p l e R s m args below meth c Z a0 EL nb own code ml ret nm vm T locs ce sl h) {T' : State} {locs' : List Loc} {ce' sl' : Nat} {h' : Heap} (X' : Stand p l e R (s.setVm vm) m args below meth c T' locs' ce' sl') (eT : T'.heap = h') (hC : CHr Z EL vm h vm h') (hF : Fr Z.heap.size locs') (hE : Ext Z.heap h') :
    OW p l e R s m args below meth c Z a0 EL nb own code ml ret nm vm T' locs' ce' sl' h' := by
  obtain ⟨g1, X, e0, ⟨k0, hS, hk⟩, hZ, ho, hC0, hF0, hE0, hn, hEW⟩ := W
  exact ⟨g1, X', eT, ⟨k0, hS, Nat.le_trans hk hC.2.1⟩, hZ, ho, hC0.trans hC, hF, hE, hn, hEW⟩
theorem OW.chv (W : OW p l e R s m args below meth c Z a0 EL nb own code ml ret nm vm T locs ce sl h) : CHv Z EL vm h := W.2.2.2.2.2.2.1.1
theorem OW.ext (W : OW p l e R s m args below meth c Z a0 EL nb own code ml ret nm vm T locs ce sl h) : Ext Z.heap h := W.2.2.2.2.2.2.2.2.1
theorem OW.fr (W : OW p l e R s m args below meth c Z a0 EL nb own code ml ret nm vm T locs ce sl h) : Fr Z.heap.size locs := W.2.2.2.2.2.2.2.1
theorem OW.warm (W : OW p l e R s m args below meth c Z a0 EL nb own code ml ret nm vm T locs ce sl h) : Z.Warmed39 vm := W.2.2.2.2.1
theorem OW.owns (W : OW p l e R s m args below meth c Z a0 EL nb own code ml ret nm vm T locs ce sl h) : vm.findClass own = some m.cls := W.2.2.2.2.2.1
theorem OW.heap (W : OW p l e R s m args below meth c Z a0 EL nb own code ml ret nm vm T locs ce sl h) : T.heap = h := W.2.2.1
theorem frS {k : Nat} {L : List Loc} {a : Addr} {i : Nat} (N : Fr k L) (q : k ≤ a) : Fr k (L ++ [⟨a, i⟩]) := N.app fun y hy => by cases List.mem_singleton.mp hy; exact q
/-- new -/
theorem oNew (W : OW p l e R s m args below meth c Z a0 EL nb own code ml ret nm vm T locs ce sl h) {idx n : Nat} {C : String} (w : (Jvm.Cond.classLink own idx C).before a0 Z = true) (wi : (Jvm.Cond.instantiable C n).before a0 Z = true) (wz : (Jvm.Cond.initialized C).before a0 Z = true) (hd : decode code pc = .ok (.new idx, 3)) (hc : ce + 1 ≤ R.cells) (hl : sl + n ≤ R.slots) :
    ∃ T' h' a, OW p l e R s m args below meth c Z a0 EL nb own code ml ret nm vm T' locs (ce + 1) (sl + n) h' ∧ h.size ≤ a ∧ Ext h h' ∧ Exa Z h' a C ∧ (∀ {O nm d : String} {ty : FieldType}, Laid Z a0 C O nm d → parseFieldDescriptor d = some ty → Fld Z h' a O nm d (defaultValue ty)) ∧ Safe Z EL vm h' a ∧ CHr Z EL vm h vm h' ∧
      Lt p e below T (mkF m pc ls st) T' (mkF m (pc + 3) ls (.ref a :: st)) := by
  obtain ⟨T', h', X', eT, E, A, D, -, st'⟩ := RoadKit.newO W.2.1 W.1.1 W.warm W.owns w wi wz W.heap (g := mkF m pc ls st) rfl (oDec W hd) hc hl
  have hC : CHr Z EL vm h vm h' := CHr.ext E W.chv
  exact ⟨T', h', h.size, W.step X' eT hC W.fr (exT W.ext E), Nat.le_refl _, E, A, fun L q => D L q, (Safe.new (Nat.le_refl _)).ext E W.chv, hC, st'⟩
/-- an array with known contents -/
def OA (Z : State) (h : Heap) (a : Addr) (k : ClassId) (ty : FieldType) (vs : List Value) : Prop := ∃ n d, Arv Z h a k ty n vs d ∧ n.toNatClampNeg = vs.length
theorem OA.ext {a : Addr} {k : ClassId} {ty : FieldType} {vs : List Value} (A : OA Z h a k ty vs) (E : Ext h h1) : OA Z h1 a k ty vs := by obtain ⟨n, d, F, q⟩ := A; exact ⟨n, d, F.ext E, q⟩
theorem OA.other {a b : Addr} {k : ClassId} {ty : FieldType} {vs : List Value} {i : Nat} {v : Value} (A : OA Z h b k ty vs) (W : Wr h h1 a i v) (q : b ≠ a) : OA Z h1 b k ty vs := by obtain ⟨n, d, F, r⟩ := A; exact ⟨n, d, F.other W q, r⟩
theorem OA.keep {a : Addr} {k : ClassId} {ty : FieldType} {vs : List Value} {ws : List Addr} (A : OA Z h a k ty vs) (K : Keep h h1 ws) (q : a ∉ ws) : OA Z h1 a k ty vs := by obtain ⟨n, d, F, r⟩ := A; exact ⟨n, d, F.keep K q, r⟩
theorem OA.lt {a : Addr} {k : ClassId} {ty : FieldType} {vs : List Value} (A : OA Z h a k ty vs) : a < h.size := by obtain ⟨n, d, F, -⟩ := A; exact F.lt
theorem OA.get {a : Addr} {k : ClassId} {ty : FieldType} {vs : List Value} (A : OA Z h a k ty vs) {i : Nat} {v : Value} (hv : vs[i]? = some v) : fits ty v = true := by
  obtain ⟨n, d, ⟨cl, -, -, hs, -, -, G⟩, r⟩ := A
  have hi : i < vs.length := (List.getElem?_eq_some_iff.mp hv).1
  have := G i (by rw [hs, r]; exact hi)
  rwa [List.getD_eq_getElem?_getD, hv] at this
theorem OA.ne {a b : Addr} {k : ClassId} {ty : FieldType} {vs : List Value} {C : String} {n : Nat} (A : OA Z h b k ty vs) (E : Exa Z h a C) (w : (Jvm.Cond.instantiable C n).before a0 Z = true) : b ≠ a := by
  obtain ⟨q, d, F, -⟩ := A
  exact Ne.symm (E.neArv F w)
theorem OA.safe {vm : Vm} {a : Addr} {k : ClassId} {ty : FieldType} {vs : List Value} (A : OA Z h a k ty vs) (hal : Z.vm.Alike vm) (ht : ty ≠ .byte) : Safe Z EL vm h a := by
  obtain ⟨n, d, ⟨cl, A1, -⟩, -⟩ := A
  exact Safe.arr hal A1 ht
theorem oJn {g : JFrame} {α : Type} (P : α → Prop) (F : α → JFrame) (k : ∀ r, P r → OG p e below s Z EL nb Q ck sk T (F r)) (u : (∀ r, P r → OG p e below s Z EL nb Q ck sk T (F r)) → OG p e below s Z EL nb Q ck sk T g) : OG p e below s Z EL nb Q ck sk T g := u k
theorem oNewA (W : OW p l e R s m args below meth c Z a0 EL nb own code ml ret nm vm T locs ce sl h) {aty : ArrayType} (w : (Jvm.Cond.arrayClass (newarray.typeOf aty)).before a0 Z = true) (hd : decode code pc = .ok (.newarray aty, 2)) {n : Int32} (hn : ¬ n < 0) {cap : Nat} (hcap : n.toNatClampNeg ≤ cap) (hb : cap * 8 ≤ 536870912) (hc : ce + 1 ≤ R.cells) (hl : sl + cap ≤ R.slots) :
    ∃ T' h' a k, OW p l e R s m args below meth c Z a0 EL nb own code ml ret nm vm T' locs (ce + 1) (sl + cap) h' ∧ h.size ≤ a ∧ Ext h h' ∧ OA Z h' a k (newarray.typeOf aty) (List.replicate n.toNatClampNeg (defaultValue (newarray.typeOf aty))) ∧ Safe Z EL vm h' a ∧ CHr Z EL vm h vm h' ∧
      Lt p e below T (mkF m pc ls (.int n :: st)) T' (mkF m (pc + 2) ls (.ref a :: st)) := by
  obtain ⟨T', h', cA, X', eT, E, A, st'⟩ := RoadKit.newP W.2.1 W.1.1 W.warm w W.heap (g := mkF m pc ls (.int n :: st)) rfl (oDec W hd) rfl hn hcap hb hc hl
  have hC : CHr Z EL vm h vm h' := CHr.ext E W.chv
  have F := (Arv.new A hn).pad (vs' := [] ++ List.replicate n.toNatClampNeg (defaultValue (newarray.typeOf aty))) (pad_rep [] _ _)
  exact ⟨T', h', h.size, cA, W.step X' eT hC W.fr (exT W.ext E), Nat.le_refl _, E, ⟨n, _, F, by simp⟩, (Safe.new (Nat.le_refl _)).ext E W.chv, hC, st'⟩
/-- the array's length and its components -/
theorem oLen (W : OW p l e R s m args below meth c Z a0 EL nb own code ml ret nm vm T locs ce sl h) {a : Addr} {k : ClassId} {ty : FieldType} {vs : List Value} (A : OA Z h a k ty vs) (hd : decode code pc = .ok (.arraylength, 1)) (K : OG p e below s Z EL nb Q ck sk T (mkF m (pc + 1) ls (.int vs.length.toInt32 :: st))) : OG p e below s Z EL nb Q ck sk T (mkF m pc ls (.ref a :: st)) := by
  obtain ⟨n, d, ⟨cl, A1, -, hs, -, -, -⟩, r⟩ := A
  refine oLift (fun t q => W.2.1.arraylength W.1.1 (cell := cl) (by rw [W.heap]; exact A1.1) (State.isArrayOf_alike W.warm.alike A1.2.1) (g := mkF m pc ls (.ref a :: st)) rfl rfl (oDec W hd) t ?_) K
  rw [hs, r]; exact q
theorem oGet (W : OW p l e R s m args below meth c Z a0 EL nb own code ml ret nm vm T locs ce sl h) {a : Addr} {k : ClassId} {ty : FieldType} {vs : List Value} (A : OA Z h a k ty vs) {j : Int32} {v : Value} (hj : ¬ j < 0) (hv : vs[j.toNatClampNeg]? = some v) {i : Instr}
    (hi : (i = .caload ∧ ty = .char) ∨ (i = .baload ∧ ty = .byte) ∨ (i = .iaload ∧ ty = .int) ∨ (i = .aaload ∧ ty.isReference = true)) (hd : decode code pc = .ok (i, 1)) (K : OG p e below s Z EL nb Q ck sk T (mkF m (pc + 1) ls (v :: st))) : OG p e below s Z EL nb Q ck sk T (mkF m pc ls (.int j :: .ref a :: st)) := by
  obtain ⟨n, d, ⟨cl, A1, -, hs, -, H, -⟩, r⟩ := A
  have hlt : j.toNatClampNeg < vs.length := (List.getElem?_eq_some_iff.mp hv).1
  have hin : ¬ (j < 0 ∨ cl.slots.size ≤ j.toNatClampNeg) := fun q => q.elim hj (fun q => by rw [hs, r] at q; omega)
  have hcv : cl.slots[j.toNatClampNeg]? = some v := Has.at H hin (by rw [List.getD_eq_getElem?_getD, hv]; rfl)
  have hA : (s.setVm vm).isArrayOf cl ty := State.isArrayOf_alike W.warm.alike A1.2.1
  have hce : T.heap[a]? = some cl := by rw [W.heap]; exact A1.1
  rcases hi with ⟨rfl, rfl⟩ | ⟨rfl, rfl⟩ | ⟨rfl, rfl⟩ | ⟨rfl, ht⟩
  · exact oLift (fun t q => W.2.1.caload W.1.1 hce hA A1.2.2 hin hcv (g := mkF m pc ls (.int j :: .ref a :: st)) rfl rfl (oDec W hd) t q) K
  · exact oLift (fun t q => W.2.1.baloadBytes W.1.1 hce hA A1.2.2 hin hcv (g := mkF m pc ls (.int j :: .ref a :: st)) rfl rfl (oDec W hd) t q) K
  · exact oLift (fun t q => W.2.1.iaload W.1.1 hce hA A1.2.2 hin hcv (g := mkF m pc ls (.int j :: .ref a :: st)) rfl rfl (oDec W hd) t q) K
  · exact oLift (fun t q => W.2.1.aaload W.1.1 hce hA ht A1.2.2 hin hcv (g := mkF m pc ls (.int j :: .ref a :: st)) rfl rfl (oDec W hd) t q) K
/-- a store into a char[], a byte[], an int[] made since the law began -/
theorem oPut (W : OW p l e R s m args below meth c Z a0 EL nb own code ml ret nm vm T locs ce sl h) {a : Addr} {k : ClassId} {ty : FieldType} {vs : List Value} (A : OA Z h a k ty vs) {j x x' : Int32} (hj : ¬ j < 0) {i : Nat} (hji : j.toNatClampNeg = i) (hlt : i < vs.length) (hfr : Z.heap.size ≤ a) (hS : Safe Z EL vm h a) {ins : Instr}
    (hi : (ins = .castore ∧ ty = .char ∧ nar .char x = x') ∨ (ins = .bastore ∧ ty = .byte ∧ nar .byte x = x') ∨ (ins = .iastore ∧ ty = .int ∧ x = x')) (hd : decode code pc = .ok (ins, 1)) :
    ∃ T' h', OW p l e R s m args below meth c Z a0 EL nb own code ml ret nm vm T' (locs ++ [⟨a, i⟩]) ce sl h' ∧ Wr h h' a i (.int x') ∧ OA Z h' a k ty (vs.set i (.int x')) ∧ CHr Z EL vm h vm h' ∧ Lt p e below T (mkF m pc ls (.int x :: .int j :: .ref a :: st)) T' (mkF m (pc + 1) ls st) := by
  obtain ⟨n, d, ⟨cl, A1, hk, hs, hn, H, G⟩, r⟩ := A
  subst hji
  have hin : ¬ (j < 0 ∨ cl.slots.size ≤ j.toNatClampNeg) := fun q => q.elim hj (fun q => by rw [hs, r] at q; omega)
  have key : ∀ {T' h'}, Stand p l e R (s.setVm vm) m args below meth c T' (locs ++ [⟨a, j.toNatClampNeg⟩]) ce sl → T'.heap = h' → Wr h h' a j.toNatClampNeg (.int x') → fits ty (.int x') = true → Lt p e below T (mkF m pc ls (.int x :: .int j :: .ref a :: st)) T' (mkF m (pc + 1) ls st) →
      ∃ T' h', OW p l e R s m args below meth c Z a0 EL nb own code ml ret nm vm T' (locs ++ [⟨a, j.toNatClampNeg⟩]) ce sl h' ∧ Wr h h' a j.toNatClampNeg (.int x') ∧ OA Z h' a k ty (vs.set j.toNatClampNeg (.int x')) ∧ CHr Z EL vm h vm h' ∧ Lt p e below T (mkF m pc ls (.int x :: .int j :: .ref a :: st)) T' (mkF m (pc + 1) ls st) := by
    intro T' h' X' eT Wr' hf st'
    have hC : CHr Z EL vm h vm h' := CHr.wr Wr' hS W.chv
    exact ⟨T', h', W.step X' eT hC (frS W.fr hfr) (exW W.ext Wr' hfr), Wr', ⟨n, d, Arv.set A1 hk hs hn H G hf Wr' _ rfl hlt, by simpa using r⟩, hC, st'⟩
  rcases hi with ⟨rfl, rfl, rfl⟩ | ⟨rfl, rfl, rfl⟩ | ⟨rfl, rfl, rfl⟩
  · obtain ⟨T', h', X', eT, Wr', st'⟩ := RoadKit.stC W.2.1 W.1.1 W.warm W.heap A1 hin (g := mkF m pc ls (.int x :: .int j :: .ref a :: st)) rfl rfl (oDec W hd)
    exact key X' eT Wr' (fits_nar_char _) st'
  · obtain ⟨T', h', X', eT, Wr', st'⟩ := RoadKit.stB W.2.1 W.1.1 W.warm W.heap A1 hin (g := mkF m pc ls (.int x :: .int j :: .ref a :: st)) rfl rfl (oDec W hd)
    exact key X' eT Wr' (fits_nar_byte _) st'
  · obtain ⟨T', h', X', eT, Wr', st'⟩ := RoadKit.stI W.2.1 W.1.1 W.warm W.heap A1 hin (g := mkF m pc ls (.int x :: .int j :: .ref a :: st)) rfl rfl (oDec W hd)
    exact key X' eT Wr' rfl st'
/-- fields -/
theorem oGetF (W : OW p l e R s m args below meth c Z a0 EL nb own code ml ret nm vm T locs ce sl h) {idx : Nat} {R0 O n d : String} (w : (Jvm.Cond.fieldLink own idx R0 n d).before a0 Z = true) (via : Via Z R0 O n d) {a : Addr} {v : Value} (F : Fld Z h a O n d v) (hd : decode code pc = .ok (.getfield idx, 3)) :
    ∃ T', OW p l e R s m args below meth c Z a0 EL nb own code ml ret nm vm T' locs ce sl h ∧ Lt p e below T (mkF m pc ls (.ref a :: st)) T' (mkF m (pc + 3) ls (v :: st)) := by
  obtain ⟨T', X', eT, st'⟩ := RoadKit.getF W.2.1 W.1.1 W.warm W.owns (host := "") (Or.inl w) via W.heap F (g := mkF m pc ls (.ref a :: st)) rfl rfl (oDec W hd)
  exact ⟨T', W.step X' eT (CHr.refl W.chv) W.fr W.ext, st'⟩
theorem oGetS (W : OW p l e R s m args below meth c Z a0 EL nb own code ml ret nm vm T locs ce sl h) {idx : Nat} {R0 O n d : String} (w : (Jvm.Cond.fieldLink own idx R0 n d).before a0 Z = true) (via : Via Z R0 O n d) {v : Value} (F : Sta Z h O n d v) (hd : decode code pc = .ok (.getstatic idx, 3)) :
    ∃ T', OW p l e R s m args below meth c Z a0 EL nb own code ml ret nm vm T' locs ce sl h ∧ Lt p e below T (mkF m pc ls st) T' (mkF m (pc + 3) ls (v :: st)) := by
  obtain ⟨T', X', eT, st'⟩ := RoadKit.getS (host := "") W.2.1 W.1.1 W.warm W.owns w via W.heap F (g := mkF m pc ls st) rfl (oDec W hd)
  exact ⟨T', W.step X' eT (CHr.refl W.chv) W.fr W.ext, st'⟩
theorem oPutF (W : OW p l e R s m args below meth c Z a0 EL nb own code ml ret nm vm T locs ce sl h) {idx kk : Nat} {R0 O n d C : String} {ty : FieldType} (w : (Jvm.Cond.fieldLink own idx R0 n d).before a0 Z = true) (via : Via Z R0 O n d) {a : Addr} {v old : Value} (F : Fld Z h a O n d old) (E : Exa Z h a C)
    (L : (Jvm.Cond.lays C O n d).before a0 Z = true ∨ ((Jvm.Cond.laysFinal C O n d).before a0 Z = true ∧ own = O ∧ nm = "<init>")) (wi : (Jvm.Cond.instantiable C kk).before a0 Z = true) (hty : parseFieldDescriptor d = some ty) (hn : narrow ty v = v) (hf : fits ty v = true) (hfr : Z.heap.size ≤ a) (hS : Safe Z EL vm h a) (hd : decode code pc = .ok (.putfield idx, 3)) :
    ∃ T' h', OW p l e R s m args below meth c Z a0 EL nb own code ml ret nm vm T' (locs ++ [⟨a, RoadKit.slotOf Z O n d⟩]) ce sl h' ∧ Wr h h' a (RoadKit.slotOf Z O n d) v ∧ Fld Z h' a O n d v ∧ Exa Z h' a C ∧ CHr Z EL vm h vm h' ∧ Lt p e below T (mkF m pc ls (v :: .ref a :: st)) T' (mkF m (pc + 3) ls st) := by
  obtain ⟨T', h', X', eT, Wr', st'⟩ := RoadKit.putF W.2.1 W.1.1 W.warm W.owns (host := "") (Or.inl w) via W.heap F E (L.imp id fun q => ⟨q.1, q.2.1, W.1.2.2.2.2.2.trans q.2.2⟩) wi hty hn hf (g := mkF m pc ls (v :: .ref a :: st)) rfl rfl (oDec W hd)
  have hC : CHr Z EL vm h vm h' := CHr.wr Wr' hS W.chv
  exact ⟨T', h', W.step X' eT hC (frS W.fr hfr) (exW W.ext Wr' hfr), Wr', F.same Wr', E.wr Wr', hC, st'⟩
theorem oCast (W : OW p l e R s m args below meth c Z a0 EL nb own code ml ret nm vm T locs ce sl h) {idx : Nat} {K : String} (w : (Jvm.Cond.classLink own idx K).before a0 Z = true) {a : Addr} (F : Ins Z h a K true) (hd : decode code pc = .ok (.checkcast idx, 3)) :
    ∃ T', OW p l e R s m args below meth c Z a0 EL nb own code ml ret nm vm T' locs ce sl h ∧ Lt p e below T (mkF m pc ls (.ref a :: st)) T' (mkF m (pc + 3) ls (.ref a :: st)) := by
  obtain ⟨T', X', eT, st'⟩ := RoadKit.castY W.2.1 W.1.1 W.warm W.owns w W.heap F (g := mkF m pc ls (.ref a :: st)) rfl rfl (oDec W hd)
  exact ⟨T', W.step X' eT (CHr.refl W.chv) W.fr W.ext, st'⟩
theorem oInst (W : OW p l e R s m args below meth c Z a0 EL nb own code ml ret nm vm T locs ce sl h) {idx : Nat} {K : String} (w : (Jvm.Cond.classLink own idx K).before a0 Z = true) {a : Addr} (F : Ins Z h a K true) (hd : decode code pc = .ok (.instanceof idx, 3)) :
    ∃ T', OW p l e R s m args below meth c Z a0 EL nb own code ml ret nm vm T' locs ce sl h ∧ Lt p e below T (mkF m pc ls (.ref a :: st)) T' (mkF m (pc + 3) ls (.int 1 :: st)) := by
  obtain ⟨T', X', eT, st'⟩ := RoadKit.instY W.2.1 W.1.1 W.warm W.owns w W.heap F (g := mkF m pc ls (.ref a :: st)) rfl rfl (oDec W hd)
  exact ⟨T', W.step X' eT (CHr.refl W.chv) W.fr W.ext, st'⟩
/-- Object.<init> -/
theorem oInit (W : OW p l e R s m args below meth c Z a0 EL nb own code ml ret nm vm T locs ce sl h) {idx : Nat} (w1 : (Jvm.Cond.methodLink own idx Lib.objectInit).before a0 Z = true) (w2 : (Jvm.Cond.instanceMethod Lib.objectInit).before a0 Z = true) (w3 : (Jvm.Cond.code Lib.objectInit ⟨#[0xb1]⟩ 1 none).before a0 Z = true) {a : Addr} (hsz : ls.size = ml) (hd : decode code pc = .ok (.invokespecial idx, 3))
    (hf : 1 ≤ R.frames) {V : Nat} (hW : (st.map fun v => v.category).sum ≤ V) (hl : V + 12 ≤ R.locals) :
    ∃ T', OW p l e R s m args below meth c Z a0 EL nb own code ml ret nm vm T' locs ce sl h ∧ Lt p e below T (mkF m pc ls (.ref a :: st)) T' (mkF m (pc + 3) ls st) := by
  obtain ⟨T', X', eT, st'⟩ := RoadKit.initO W.2.1 W.1.1 W.warm W.owns w1 w2 w3 W.heap (g := mkF m pc ls (.ref a :: st)) rfl (hsz.trans W.1.2.2.1.symm) rfl (oDec W hd) hf (W := V) (by show 2 * 0 + _ ≤ _; omega) hl
  exact ⟨T', W.step X' eT (CHr.refl W.chv) W.fr W.ext, st'⟩
/-- clone() of an array -/
theorem oClone (W : OW p l e R s m args below meth c Z a0 EL nb own code ml ret nm vm T locs ce sl h) {idx : Nat} {ad : String} (w1 : (Jvm.Cond.methodLink own idx ⟨ad, "clone", "()Ljava/lang/Object;"⟩).before a0 Z = true) (w2 : (Jvm.Cond.sameMethod ad "java/lang/Object" "clone" "()Ljava/lang/Object;").before a0 Z = true) (w3 : (Jvm.Cond.native ⟨"java/lang/Object", "clone", "()Ljava/lang/Object;"⟩).before a0 Z = true)
    (w4 : (Jvm.Cond.instanceMethod ⟨"java/lang/Object", "clone", "()Ljava/lang/Object;"⟩).before a0 Z = true) (w5 : (Jvm.Cond.selects ad ⟨ad, "clone", "()Ljava/lang/Object;"⟩ ⟨"java/lang/Object", "clone", "()Ljava/lang/Object;"⟩).before a0 Z = true) (w6 : (Jvm.Cond.castable ad "java/lang/Cloneable").before a0 Z = true)
    {a : Addr} {k : ClassId} {ty : FieldType} {vs : List Value} (A : OA Z h a k ty vs) (E : Exa Z h a ad) (hsz : ls.size = ml) (hd : decode code pc = .ok (.invokevirtual idx, 3)) (hf : 1 ≤ R.frames) {V cap : Nat} (hV : (st.map fun v => v.category).sum ≤ V) (hl : V + 14 ≤ R.locals) (hcap : vs.length ≤ cap) (hc : ce + 1 ≤ R.cells) (hs : sl + cap ≤ R.slots) :
    ∃ T' h' b, OW p l e R s m args below meth c Z a0 EL nb own code ml ret nm vm T' locs (ce + 1) (sl + cap) h' ∧ h.size ≤ b ∧ Ext h h' ∧ OA Z h' b k ty vs ∧ Exa Z h' b ad ∧ CHr Z EL vm h vm h' ∧ Lt p e below T (mkF m pc ls (.ref a :: st)) T' (mkF m (pc + 3) ls (.ref b :: st)) := by
  obtain ⟨n, d, F, r⟩ := A
  obtain ⟨T', h', X', eT, Ex, A', E', st'⟩ := RoadKit.cloneH W.2.1 W.1.1 W.warm W.owns w1 w2 w3 w4 w5 w6 W.heap F.arh E (g := mkF m pc ls (.ref a :: st)) rfl (hsz.trans W.1.2.2.1.symm) rfl (oDec W hd) hf (W := V) (by show 2 * 0 + _ ≤ _; omega) hl (cap := cap) (by rw [r]; exact hcap) hc hs
  have hC : CHr Z EL vm h vm h' := CHr.ext Ex W.chv
  exact ⟨T', h', h.size, W.step X' eT hC W.fr (exT W.ext Ex), Nat.le_refl _, Ex, ⟨n, d, A', r⟩, E', hC, st'⟩
/-- checkcast of null -/
theorem oCastN (W : OW p l e R s m args below meth c Z a0 EL nb own code ml ret nm vm T locs ce sl h) {idx : Nat} (hd : decode code pc = .ok (.checkcast idx, 3)) (K : OG p e below s Z EL nb Q ck sk T (mkF m (pc + 3) ls (.null :: st))) : OG p e below s Z EL nb Q ck sk T (mkF m pc ls (.null :: st)) :=
  oLift (fun t q => W.2.1.checkcastNull W.1.1 (g := mkF m pc ls (.null :: st)) rfl rfl (oDec W hd) t q) K
/-- a component of an array of references, the cell at hand -/
theorem oGetC (W : OW p l e R s m args below meth c Z a0 EL nb own code ml ret nm vm T locs ce sl h) {a : Addr} {cl : Cell} {ty : FieldType} (A : Arr Z h a cl ty) {j : Int32} {v : Value} (hin : ¬ (j < 0 ∨ cl.slots.size ≤ j.toNatClampNeg)) (hv : cl.slots[j.toNatClampNeg]? = some v) (ht : ty.isReference = true) (hd : decode code pc = .ok (.aaload, 1)) (K : OG p e below s Z EL nb Q ck sk T (mkF m (pc + 1) ls (v :: st))) : OG p e below s Z EL nb Q ck sk T (mkF m pc ls (.int j :: .ref a :: st)) :=
  oLift (fun t q => W.2.1.aaload W.1.1 (by rw [W.heap]; exact A.1) (State.isArrayOf_alike W.warm.alike A.2.1) ht A.2.2 hin hv (g := mkF m pc ls (.int j :: .ref a :: st)) rfl rfl (oDec W hd) t q) K
/-- an int constant -/
theorem oLdcI (W : OW p l e R s m args below meth c Z a0 EL nb own code ml ret nm vm T locs ce sl h) {idx : Nat} {v : Int32} (w : (Jvm.Cond.constant own idx v).before a0 Z = true) (hd : decode code pc = .ok (.ldc idx, 2)) (K : OG p e below s Z EL nb Q ck sk T (mkF m (pc + 2) ls (.int v :: st))) : OG p e below s Z EL nb Q ck sk T (mkF m pc ls st) :=
  oLift (fun t q => W.2.1.ldcInt W.1.1 W.owns (mvT W.warm w) (g := mkF m pc ls st) rfl (oDec W hd) t q) K
/-- a String constant, opaque -/
theorem oLdc (W : OW p l e R s m args below meth c Z a0 EL false own code ml ret nm vm T locs ce sl h) {idx : Nat} {text : String} (w : (Jvm.Cond.stringLink own idx text).before a0 Z = true) (wS : ∀ a ∈ Bundle.stringAtoms, a.before a0 Z = true) (hd : decode code pc = .ok (.ldc idx, 2)) {n : Nat} (hn : 4 * text.toList.length ≤ n) (hbig : n ≤ 536870912) (hc : ce + 2 ≤ R.cells) (hl : sl + (n + 4) ≤ R.slots) :
    ∃ a T' h' vm', OW p l e R s m args below meth c Z a0 EL false own code ml ret nm vm' T' locs (ce + 2) (sl + (n + 4)) h' ∧ Ext h h' ∧ CHr Z EL vm h vm' h' ∧ Lt p e below T (mkF m pc ls st) T' (mkF m (pc + 2) ls (.ref a :: st)) := by
  obtain ⟨g1, X, e0, ⟨k0, hS, hk⟩, hZ, ho, hC0, hF0, hE0, hn0, hEW⟩ := id W
  obtain ⟨a, T', h', k1, X', eT, E, hS', hk', hZ', ho', hC, -, st'⟩ := RoadKit.ldcOH X W.1.1 hZ ho w wS e0 hS hk hEW W.chv (g := mkF m pc ls st) rfl (oDec W hd) hn hbig hc hl
  exact ⟨a, T', h', T'.vm, ⟨g1, X', eT, ⟨k1, hS', hk'⟩, hZ', ho', hC0.trans hC, hF0, exT hE0 E, (fun q => by cases q), hEW⟩, E, hC, st'⟩
/-- a String constant of EL, read -/
theorem oLdcC (W : OW p l e R s m args below meth c Z a0 EL false own code ml ret nm vm T locs ce sl h) {idx : Nat} {text : String} (w : (Jvm.Cond.stringLink own idx text).before a0 Z = true) (wS : ∀ a ∈ Bundle.stringAtoms, a.before a0 Z = true) (hm : (own, idx) ∈ EL) {vs : List Value} {z : Int32} (ht : (∀ c ∈ text.toList, c.toNat < 256) ∧ text.toList.map (fun c => Value.int (Jvm.Lit.byteI c.toNat.toUInt16)) = vs) (hz : ¬ z < 0) (hzl : z.toNatClampNeg = vs.length)
    (hd : decode code pc = .ok (.ldc idx, 2)) {n : Nat} (hn : 4 * text.toList.length ≤ n) (hbig : n ≤ 536870912) (hc : ce + 2 ≤ R.cells) (hl : sl + (n + 4) ≤ R.slots) :
    ∃ a b k T' h' vm', OW p l e R s m args below meth c Z a0 EL false own code ml ret nm vm' T' locs (ce + 2) (sl + (n + 4)) h' ∧ Ext h h' ∧ CHr Z EL vm h vm' h' ∧ Exa Z h' a "java/lang/String" ∧ Fld Z h' a "java/lang/String" "coder" "B" (.int 0) ∧ Fld Z h' a "java/lang/String" "value" "[B" (.ref b) ∧ OA Z h' b k .byte vs ∧
      Lt p e below T (mkF m pc ls st) T' (mkF m (pc + 2) ls (.ref a :: st)) := by
  obtain ⟨g1, X, e0, ⟨k0, hS, hk⟩, hZ, ho, hC0, hF0, hE0, hn0, hEW⟩ := id W
  obtain ⟨a, T', h', k1, b, k, X', eT, E, hS', hk', hZ', ho', q1, q2, q3, q4, -, -, hC, -, -, st'⟩ := RoadKit.ldcCH X W.1.1 hZ ho w wS e0 hS hk hEW hm W.chv ht hz hzl (g := mkF m pc ls st) rfl (oDec W hd) hn hbig hc hl
  exact ⟨a, b, k, T', h', T'.vm, ⟨g1, X', eT, ⟨k1, hS', hk'⟩, hZ', ho', hC0.trans hC, hF0, exT hE0 E, (fun q => by cases q), hEW⟩, E, hC, q1, q2, q3, ⟨z, _, q4, hzl⟩, st'⟩
end Heaps
section Calls
variable {p : Program} {l : Launch} {e : Env} {R : Room} {s : State} {m : MethodId} {args : Array Value} {below : List Frame} {meth : Method} {c : Code} {Z : State} {a0 : Array Value} {EL : List (String × Nat)} {nb : Bool} {own : String} {code : ByteArray} {ml : Nat} {ret : Option FieldType} {nm : String} {vm : Vm} {T : State} {locs : List Loc} {ce sl : Nat} {h : Heap} {pc : Nat} {ls : Array Slot} {st : List Value}
  {y : MethodName} {bytes : ByteArray} {maxL : Nat} {ret' : Option FieldType} {rm : Room} {as' : Array Value} {sf : List Addr} {Q' : Option Value → Vm → Heap → Prop}
theorem oBack (W : OW p l e R s m args below meth c Z a0 EL nb own code ml ret nm vm T locs ce sl h) (hM : OC l Z EL nb [] y bytes maxL ret' rm as' h sf Q') (hsf : ∀ x ∈ sf, x < h.size ∧ Safe Z EL vm h x) (wc : (Jvm.Cond.code y bytes maxL ret').before a0 Z = true) (wz : (Jvm.Cond.initialized y.cls).before a0 Z = true) {len V : Nat} (hf : rm.frames + 1 ≤ R.frames) (hl : V + (maxL + 11) + rm.locals ≤ R.locals) :
    BackS l R p e below (s.setVm vm) args y len V (fun A a => a = as' ∧ A.U.heap = h ∧ A.cells + rm.cells ≤ R.cells ∧ A.slots + rm.slots ≤ R.slots)
      (fun A _ v B => ∃ L, (Q' v B.U.vm B.U.heap ∧ Fr Z.heap.size L ∧ Ext Z.heap B.U.heap) ∧ B.locs = A.locs ++ L ∧ B.cells = A.cells + rm.cells ∧ B.slots = A.slots + rm.slots ∧ CHr Z EL vm h B.U.vm B.U.heap ∧ (nb = true → A.U.WarmedH B.U.vm)) :=
  have hZ := W.warm
  have hEL : EW Z a0 EL := W.2.2.2.2.2.2.2.2.2.2
  have H := W.chv
  BackS.of_freeW (bytes := bytes) (maxL := maxL) (ret := ret') (E := fun _ first o t L k n => k = rm.cells ∧ n = rm.slots ∧ (∃ v, o = .returned v ∧ (Q' v t.vm t.heap ∧ Fr Z.heap.size L ∧ Ext Z.heap t.heap)) ∧ CHr Z EL first.vm first.heap t.vm t.heap ∧ (nb = true → first.WarmedH t.vm)) hM hf hl
    (fun m meth c A a Y hp => have hU : Z.Warmed39 A.U.vm := wtrans (s := s.setVm vm) hZ Y.warmed
      ⟨by show (Jvm.Cond.and _ .tt).before a A.U = true; rw [Cond.before_and, mv hU wc]; rfl, mv hU wc, mv hU wz, hp.2.2.1, hp.2.2.2⟩)
    (fun m meth c A a g mk Y hp => ⟨hp.1, wtrans (s := s.setVm vm) hZ Y.warmed, hp.2.1, (CHv.at Y hZ hEL H).1, W.ext, fun x hx => (CHv.at Y hZ hEL H).safe (hsf x hx).1 (hsf x hx).2⟩) (fun _ _ _ _ _ _ _ _ _ => trivial)
    (fun _ _ _ _ ⟨v, L, h1, h2, h2', h3, h4⟩ => ⟨L, _, _, h4, rfl, rfl, ⟨v, h1, h2⟩, h3, h2'⟩)
    (fun m meth c A a g mk v t L k n Y hp _ _ ⟨e1, e2, ⟨v', e3, e4⟩, e5, e6⟩ => by
      cases e3; subst e1 e2
      refine ⟨L, e4, rfl, rfl, rfl, (CHv.at Y hZ hEL H).trans ?_, e6⟩
      rw [← hp.2.1]; exact e5)
theorem oCalled (W : OW p l e R s m args below meth c Z a0 EL nb own code ml ret nm vm T locs ce sl h) {vm₁ : Vm} {B : Pt} {v : Option Value} {g g' : JFrame} (hW : (s.setVm vm).WarmedH vm₁) (X' : Stand p l e R ((s.setVm vm).setVm B.U.vm) m args below meth c B.U B.locs B.cells B.slots) (hS : (s.setVm vm).Since B.U.vm B.U.heap.size)
    (hP : ∃ L, (Q' v B.U.vm B.U.heap ∧ Fr Z.heap.size L ∧ Ext Z.heap B.U.heap) ∧ B.locs = locs ++ L ∧ B.cells = ce + rm.cells ∧ B.slots = sl + rm.slots ∧ CHr Z EL vm h B.U.vm B.U.heap ∧ (nb = true → (T.setVm vm₁).WarmedH B.U.vm)) (st' : Steps p.tables e below (T.setTop g) (B.U.setTop g')) :
    ∃ T' L h' vm', OW p l e R s m args below meth c Z a0 EL nb own code ml ret nm vm' T' (locs ++ L) (ce + rm.cells) (sl + rm.slots) h' ∧ Q' v vm' h' ∧ CHr Z EL vm h vm' h' ∧ Lt p e below T g T' g' := by
  obtain ⟨U, Lc, cc, ss⟩ := B
  obtain ⟨L, ⟨q1, q2, q3⟩, q4, q5, q6, q7, q8⟩ := hP
  dsimp only [Pt.U, Pt.locs, Pt.cells, Pt.slots] at *
  subst q4 q5 q6
  obtain ⟨g1, X, e0, ⟨k0, hS0, hk⟩, hZ, ho, hC0, hF0, hE0, hn0, hEW⟩ := W
  refine ⟨U, L, U.heap, U.vm, ⟨g1, X', rfl, ⟨_, hS0.trans hS (Nat.le_trans hk q7.2.1), Nat.le_refl _⟩, State.Warmed39.trans (t := s.setVm vm) hZ hS.1, (hS.1.alike.findClass _ _).trans ho, hC0.trans q7, hF0.app q2, q3, fun q => ?_, hEW⟩, q1, q7, fun t k => st'.trans k⟩
  exact State.WarmedH.trans (t := T.setVm vm₁) (State.WarmedH.trans (t := s.setVm vm) (hn0 q) hW) (q8 q)
/-- a static method by its contract -/
theorem oCallS (W : OW p l e R s m args below meth c Z a0 EL nb own code ml ret nm vm T locs ce sl h) {idx : Nat} {argsL : List Value} (hM : OC l Z EL nb [] y bytes maxL ret' rm argsL.toArray h sf Q') (hsf : ∀ x ∈ sf, x < h.size ∧ Safe Z EL vm h x) (w1 : (Jvm.Cond.methodLink own idx y).before a0 Z = true) (w2 : (Jvm.Cond.static y).before a0 Z = true) (wz : (Jvm.Cond.initialized y.cls).before a0 Z = true) (wc : (Jvm.Cond.code y bytes maxL ret').before a0 Z = true)
    (hy : y.cls ≠ "java/lang/invoke/MethodHandle" ∧ y.cls ≠ "java/lang/invoke/VarHandle") {na : Nat} (hna : argsL.length = na) (har : XT.arity y.desc = some na) (hsz : ls.size = ml) {stk : List Value} (hst : stk = argsL.reverse ++ st) (hd : decode code pc = .ok (.invokestatic idx, 3))
    {V : Nat} (hV : (st.map fun v => v.category).sum ≤ V) (hf : rm.frames + 1 ≤ R.frames) (hl : V + (maxL + 11) + rm.locals ≤ R.locals) (hc : ce + rm.cells ≤ R.cells) (hs : sl + rm.slots ≤ R.slots) :
    ∃ v T' L h' vm', OW p l e R s m args below meth c Z a0 EL nb own code ml ret nm vm' T' (locs ++ L) (ce + rm.cells) (sl + rm.slots) h' ∧ Q' v vm' h' ∧ CHr Z EL vm h vm' h' ∧ Lt p e below T (mkF m pc ls stk) T' (mkF m (pc + 3) ls (v.toList ++ st)) := by
  obtain ⟨v, vm₁, B, hW, X', hS, hgr, hP, st'⟩ := RoadKit.callSS W.2.1 W.1.1 (y := y) W.owns (mvT W.warm w1) (mvT W.warm w2) (mvT W.warm wz) (mvT W.warm wc) hy (oBack W hM hsf wc wz hf hl) (g := mkF m pc ls stk) rfl (hsz.trans W.1.2.2.1.symm) (argsL := argsL) (rest := st) (XT.arity_len har hna) hst (by show 2 * 0 + _ ≤ _; omega) (oDec W hd) (fun _ _ => ⟨rfl, W.heap, hc, hs⟩)
  exact ⟨v, oCalled W hW X' hS hP st'⟩
/-- a constructor by its contract -/
theorem oCallN (W : OW p l e R s m args below meth c Z a0 EL nb own code ml ret nm vm T locs ce sl h) {idx : Nat} {argsL : List Value} {a : Addr} (hM : OC l Z EL nb [] y bytes maxL none rm (.ref a :: argsL).toArray h sf Q') (hsf : ∀ x ∈ sf, x < h.size ∧ Safe Z EL vm h x) (hy1 : y.name = "<init>") (w1 : (Jvm.Cond.methodLink own idx y).before a0 Z = true) (w2 : (Jvm.Cond.instanceMethod y).before a0 Z = true) (wz : (Jvm.Cond.initialized y.cls).before a0 Z = true) (wc : (Jvm.Cond.code y bytes maxL none).before a0 Z = true)
    (hy : y.cls ≠ "java/lang/invoke/MethodHandle" ∧ y.cls ≠ "java/lang/invoke/VarHandle") {na : Nat} (hna : argsL.length = na) (har : XT.arity y.desc = some na) (hsz : ls.size = ml) {stk : List Value} (hst : stk = argsL.reverse ++ .ref a :: st) (hd : decode code pc = .ok (.invokespecial idx, 3))
    {V : Nat} (hV : (st.map fun v => v.category).sum ≤ V) (hf : rm.frames + 1 ≤ R.frames) (hl : V + (maxL + 11) + rm.locals ≤ R.locals) (hc : ce + rm.cells ≤ R.cells) (hs : sl + rm.slots ≤ R.slots) :
    ∃ v T' L h' vm', OW p l e R s m args below meth c Z a0 EL nb own code ml ret nm vm' T' (locs ++ L) (ce + rm.cells) (sl + rm.slots) h' ∧ Q' v vm' h' ∧ CHr Z EL vm h vm' h' ∧ Lt p e below T (mkF m pc ls stk) T' (mkF m (pc + 3) ls (v.toList ++ st)) := by
  obtain ⟨v, vm₁, B, hW, X', hS, hgr, hP, st'⟩ := W.2.1.specialBackS W.1.1 (y := y) hy1 W.owns (mvT W.warm w1) (mvT W.warm w2) (mvT W.warm wc) hy (oBack W hM hsf wc wz hf hl) (g := mkF m pc ls stk) rfl (hsz.trans W.1.2.2.1.symm) (Steps.refl _) (a := a) (argsL := argsL) (rest := st) (XT.arity_len har hna) hst (by show 2 * 0 + _ ≤ _; omega) (oDec W hd) (fun _ _ => ⟨rfl, W.heap, hc, hs⟩)
  exact ⟨v, oCalled W hW X' hS hP st'⟩
/-- an instance method by its contract -/
theorem oCallV (W : OW p l e R s m args below meth c Z a0 EL nb own code ml ret nm vm T locs ce sl h) {idx : Nat} {x : MethodName} {C : String} {argsL : List Value} {a : Addr} (E : Exa Z h a C) (hM : OC l Z EL nb [] y bytes maxL ret' rm (.ref a :: argsL).toArray h sf Q') (hsf : ∀ x ∈ sf, x < h.size ∧ Safe Z EL vm h x) (w1 : (Jvm.Cond.methodLink own idx x).before a0 Z = true) (w2 : (Jvm.Cond.declares x).before a0 Z = true) (nf : NotFace (s.setVm vm) x) (w3 : (Jvm.Cond.selects C x y).before a0 Z = true) (w4 : (Jvm.Cond.instanceMethod y).before a0 Z = true) (wz : (Jvm.Cond.initialized y.cls).before a0 Z = true) (wc : (Jvm.Cond.code y bytes maxL ret').before a0 Z = true)
    (hy : x.cls ≠ "java/lang/invoke/MethodHandle" ∧ x.cls ≠ "java/lang/invoke/VarHandle") {na : Nat} (hna : argsL.length = na) (har : XT.arity x.desc = some na) (hsz : ls.size = ml) {stk : List Value} (hst : stk = argsL.reverse ++ .ref a :: st) (hd : decode code pc = .ok (.invokevirtual idx, 3))
    {V : Nat} (hV : (st.map fun v => v.category).sum ≤ V) (hf : rm.frames + 1 ≤ R.frames) (hl : V + (maxL + 11) + rm.locals ≤ R.locals) (hc : ce + rm.cells ≤ R.cells) (hs : sl + rm.slots ≤ R.slots) :
    ∃ v T' L h' vm', OW p l e R s m args below meth c Z a0 EL nb own code ml ret nm vm' T' (locs ++ L) (ce + rm.cells) (sl + rm.slots) h' ∧ Q' v vm' h' ∧ CHr Z EL vm h vm' h' ∧ Lt p e below T (mkF m pc ls stk) T' (mkF m (pc + 3) ls (v.toList ++ st)) := by
  obtain ⟨cB, kB, i1, i2, i3⟩ := isOf (s := s.setVm vm) (T := T) W.warm W.heap E
  obtain ⟨v, vm₁, B, hW, X', hS, hgr, hP, st'⟩ := W.2.1.virtualBackS W.1.1 (y := x) (z := y) W.owns (mvT W.warm w1) (mvT W.warm w2) nf (mvT W.warm w3) (mvT W.warm w4) hy (oBack W hM hsf wc wz hf hl) i1 i3 (g := mkF m pc ls stk) rfl (hsz.trans W.1.2.2.1.symm) (Steps.refl _) (argsL := argsL) (rest := st) (XT.arity_len har hna) hst (by show 2 * 0 + _ ≤ _; omega) (oDec W hd) (fun _ _ => ⟨rfl, W.heap, hc, hs⟩)
  exact ⟨v, oCalled W hW X' hS hP st'⟩
end Calls
end Jvm.OwnK
namespace Jvm.OwnK
open Jvm Sem ClassFile Op Lib Jvm.Stand Jvm.Free Jvm.LawKit Jvm.RoadKit Bundle
theorem n_lt {a b : Nat} (ha : a < 2147483648) (hb : b < 2147483648) : Int32.ofNat a < Int32.ofNat b ↔ a < b := by
  rw [Int32.lt_iff_toInt_lt, Int32.toInt_ofNat_small ha, Int32.toInt_ofNat_small hb]; omega
theorem n_nn {a : Nat} (ha : a < 2147483648) : ¬ Int32.ofNat a < 0 := by
  rw [Int32.lt_iff_toInt_lt, Int32.toInt_ofNat_small ha]
  show ¬ ((a : Int) < 0)
  omega
theorem n_cl {a : Nat} (ha : a < 2147483648) : (Int32.ofNat a).toNatClampNeg = a := by
  rw [← Int32.toNat_toInt, Int32.toInt_ofNat_small ha]; rfl
theorem n_in (a : Nat) : Int32.ofNat a + 1 = Int32.ofNat (a + 1) := by rw [Int32.ofNat_add]; rfl
theorem nar_b (x : Int32) : nar .byte x.toInt8.toInt32 = x.toInt8.toInt32 := by
  show x.toInt8.toInt32.toInt8.toInt32 = _
  rw [Int8.toInt8_toInt32]
theorem nar_c (x : Int32) : nar .char x.toUInt32.toUInt16.toUInt32.toInt32 = x.toUInt32.toUInt16.toUInt32.toInt32 := by
  show x.toUInt32.toUInt16.toUInt32.toInt32.toUInt32.toUInt16.toUInt32.toInt32 = _
  rw [UInt32.toUInt32_toInt32, UInt16.toUInt16_toUInt32]
theorem nar_z {x : Int32} (h : x = 0 ∨ x = 1) : nar .boolean x = x := by rcases h with rfl | rfl <;> rfl
/-- a char of 0 to 255 is what i2c makes of it -/
theorem i2c_255 (x : Int32) : (x &&& 255).toUInt32.toUInt16.toUInt32.toInt32 = x &&& 255 := i2c_mask x
theorem m255 (x : Int32) : ¬ (x &&& 255) < 0 ∧ ¬ (255 : Int32) < (x &&& 255) := by
  have h := c_and x 255 (by decide)
  constructor
  · rw [Int32.lt_iff_toInt_lt]; exact Int.not_lt.mpr h.1
  · rw [Int32.lt_iff_toInt_lt]; exact Int.not_lt.mpr h.2
theorem own_nar255 (x : Int32) : nar .char (x &&& 255) = x &&& 255 := i2c_mask x
theorem own_all1 {P : Int32 → Prop} {a : Int32} (ha : P a) : ∀ c ∈ [a], P c := fun c hc => by cases List.mem_singleton.mp hc; exact ha
theorem own_all2 {P : Int32 → Prop} {a b : Int32} (ha : P a) (hb : P b) : ∀ c ∈ [a, b], P c := fun c hc => by
  rcases List.mem_cons.mp hc with rfl | hc
  · exact ha
  · exact own_all1 hb c hc
theorem own_all3 {P : Int32 → Prop} {a b c : Int32} (ha : P a) (hb : P b) (hc : P c) : ∀ x ∈ [a, b, c], P x := fun x hx => by
  rcases List.mem_cons.mp hx with rfl | hx
  · exact ha
  · exact own_all2 hb hc x hx
theorem own_all4 {P : Int32 → Prop} {a b c d : Int32} (ha : P a) (hb : P b) (hc : P c) (hd : P d) : ∀ x ∈ [a, b, c, d], P x := fun x hx => by
  rcases List.mem_cons.mp hx with rfl | hx
  · exact ha
  · exact own_all3 hb hc hd x hx
theorem narC {c : Int32} (h : ¬ c < 0 ∧ ¬ (255 : Int32) < c) : nar .char c = c := by
  have e := c_i2c c
  simp only [Int32.lt_iff_toInt_lt] at h
  have k0 : (0 : Int32).toInt = 0 := rfl
  have k1 : (255 : Int32).toInt = 255 := rfl
  rw [k0, k1] at h
  apply Int32.toInt_inj.mp
  show (c.toUInt32.toUInt16.toUInt32.toInt32).toInt = c.toInt
  omega
theorem shr0 (x : Int32) : x >>> ((0 : Int32) &&& 31) = x := by
  apply Int32.toInt_inj.mp
  rw [c_ishr x 0 0 (by decide)]
  simp
theorem own_len0 {cs : List Int32} (hl : cs.length ≤ 4000) (h : Int32.ofNat cs.length = 0) : cs = [] := by
  have := congrArg Int32.toNatClampNeg h
  rw [n_cl (by omega)] at this
  exact List.length_eq_zero_iff.mp (by simpa using this)
theorem own_ltn {i : Int32} (hi : ¬ i < 0) {n : Nat} (hl : n ≤ 4000) (h : i.toNatClampNeg < n) : i < Int32.ofNat n := by
  have e := (back32 hi).1
  rw [← e]
  exact (n_lt (by omega) (by omega)).mpr h
/-- a byte read back as a char -/
theorem own_lo8c {c : Int32} (h : ¬ c < 0 ∧ ¬ (255 : Int32) < c) : (c.toInt8.toInt32 &&& (255 : Int32)).toUInt32.toUInt16.toUInt32.toInt32 = c := by
  rw [i2c_mask]
  have e := c_i2b c
  have m := c_mask c.toInt8.toInt32 255 8 (by decide) (by decide)
  simp only [Int32.lt_iff_toInt_lt] at h
  have k0 : (0 : Int32).toInt = 0 := rfl
  have k1 : (255 : Int32).toInt = 255 := rfl
  rw [k0, k1] at h
  apply Int32.toInt_inj.mp
  rw [m]
  have k2 : ((2 ^ 8 : Nat) : Int) = 256 := by decide
  rw [k2]
  omega
theorem refNarA {v : Value} (h : v.isRef = true) (t : FieldType) : narrow (.array t) v = v := by cases v <;> simp_all [Value.isRef] <;> rfl
theorem refFitsA {v : Value} (h : v.isRef = true) (t : FieldType) : fits (.array t) v = true := by cases v <;> simp_all [Value.isRef] <;> rfl
theorem refNar {v : Value} (h : v.isRef = true) (C : String) : narrow (.object C) v = v := by cases v <;> simp_all [Value.isRef] <;> rfl
theorem refFits {v : Value} (h : v.isRef = true) (C : String) : fits (.object C) v = true := by cases v <;> simp_all [Value.isRef] <;> rfl
theorem safe0 {Z : State} {vm : Vm} {h : Heap} {x : Addr} : Safe Z [] vm h x := fun ⟨p, hp, _⟩ => by cases hp
theorem refCat {v : Value} (h : v.isRef = true) : v.category = 1 := by cases v <;> simp_all [Value.isRef, Value.category]
theorem own_fold : ∀ (vs : List Value) (acc : Array Slot), (∀ v ∈ vs, v.category = 1) → vs.foldl (fun acc v => if v.category = 2 then (acc.push (.val v)).push .second else acc.push (.val v)) acc = acc ++ (vs.map Slot.val).toArray
  | [], acc, _ => by simp
  | v :: vs, acc, h => by
    have hv : ¬ v.category = 2 := by rw [h v (List.mem_cons_self ..)]; decide
    rw [List.foldl_cons, if_neg hv, own_fold vs _ (fun w hw => h w (List.mem_cons_of_mem _ hw))]
    simp
theorem own_ef {m : MethodId} {vs : List Value} {n : Nat} (h : ∀ v ∈ vs, v.category = 1) : entryFrame m vs.toArray n = mkF m 0 ((vs.map Slot.val).toArray ++ Array.replicate (n - vs.length) .unset) [] := by
  have e := own_fold vs #[] h
  simp only [entryFrame, mkF, argsToLocals, List.foldl_toArray', List.size_toArray]
  rw [e]
  simp
theorem own_isR (a : Addr) : (Value.ref a).isRef = true := rfl
theorem own_isN : Value.null.isRef = true := rfl
theorem own_caR (a : Addr) : (Value.ref a).category = 1 := rfl
theorem own_caN : Value.null.category = 1 := rfl
theorem own_caI (z : Int32) : (Value.int z).category = 1 := rfl
end Jvm.OwnK
namespace Jvm.OwnK
open Jvm Sem ClassFile Op Lib Jvm.Stand Jvm.Free Jvm.LawKit Jvm.RoadKit Bundle
section Start
variable {args : Array Value} {s : State} {a b t u : Term}
/-- what an equation of the sheet says of its first side -/
theorem eqv {y : Value} (h : (Jvm.Cond.eq a b).value args s none s [] = some true) (hb : b.eval args s none [] s = some y) (hy : y.isRef = true ∨ ∃ n, y = .int n) : a.eval args s none [] s = some y := by
  obtain ⟨x, y', h1, h2, -, -⟩ := cmp_v (Or.inl h)
  cases h2.symm.trans hb
  rw [h1]
  rcases hy with hy | ⟨n, rfl⟩
  · cases x <;> cases y <;> simp_all [Cond.value, Value.isRef]
  · cases x <;> simp_all [Cond.value]
/-- an array that stood at the start, its length and its components told by the sheet -/
theorem arrStart (hf : Fit s) {va : Addr} {ty : FieldType} (ht : t.eval args s none [] s = some (.ref va)) (h1 : (Jvm.Cond.arrayOf t ty).value args s none s [] = some true) {n : Nat} (hn : n < 2147483648) (h2 : (Jvm.Cond.eq (.length t) (.int (Int32.ofNat n))).value args s none s [] = some true)
    {vs : List Value} (hl : vs.length = n) (H : ∀ c, s.heap[va]? = some c → HasL c 0 vs) : ∃ k, OA s s.heap va k ty vs := by
  obtain ⟨c, A⟩ := Arr.start ht h1
  have hlen : (Term.length t).eval args s none [] s = some (.int (Int32.ofNat n)) := eqv h2 rfl (Or.inr ⟨_, rfl⟩)
  obtain ⟨sd, SA, hev, harrAt, -⟩ := Term.length_spec hlen
  have e0 : sd = va := by have := hev.symm.trans ht; injection this with q; injection q
  subst e0
  have h31 := SBG.length_lt hev harrAt hlen
  have hA : s.arrayAt? sd = some c := A.fin (U := s) (Vm.Alike.refl _)
  cases harrAt.symm.trans hA
  have e : (Term.length t).eval args s none [] s = some (.int c.slots.size.toInt32) := len_f hev hA h31
  have e2 : c.slots.size.toInt32 = Int32.ofNat n := by have := e.symm.trans hlen; injection this with q; injection q
  exact ⟨c.cls, Int32.ofNat n, .int 0, Arv.start hf A h31 e2 (n_nn hn) (by rw [n_cl hn, hl]) (H c A.1), by rw [n_cl hn, hl]⟩
end Start
end Jvm.OwnK
namespace Jvm.OwnK
open Jvm Sem ClassFile Op Lib Jvm.Stand Jvm.Free Jvm.LawKit Jvm.RoadKit Bundle
section Dig
theorem own_cons {P : Int32 → Prop} {a : Int32} {l : List Int32} (ha : P a) (hl : ∀ c ∈ l, P c) : ∀ c ∈ a :: l, P c := fun c hc => by
  rcases List.mem_cons.mp hc with rfl | hc
  · exact ha
  · exact hl c hc
theorem own_nil {P : Int32 → Prop} : ∀ c ∈ ([] : List Int32), P c := fun _ h => nomatch h
def Dig (c : Int32) : Prop := ¬ c < 48 ∧ ¬ (57 : Int32) < c
theorem Dig.int {c : Int32} (h : Dig c) : 48 ≤ c.toInt ∧ c.toInt ≤ 57 := by
  have h1 := h.1
  have h2 := h.2
  rw [Int32.lt_iff_toInt_lt] at h1 h2
  have k0 : (48 : Int32).toInt = 48 := rfl
  have k1 : (57 : Int32).toInt = 57 := rfl
  rw [k0] at h1; rw [k1] at h2
  omega
theorem Dig.of {c : Int32} (h : 48 ≤ c.toInt ∧ c.toInt ≤ 57) : Dig c := by
  constructor
  · rw [Int32.lt_iff_toInt_lt]; have k0 : (48 : Int32).toInt = 48 := rfl
    rw [k0]; omega
  · rw [Int32.lt_iff_toInt_lt]; have k0 : (57 : Int32).toInt = 57 := rfl
    rw [k0]; omega
theorem Dig.c255 {c : Int32} (h : Dig c) : ¬ c < 0 ∧ ¬ (255 : Int32) < c := by
  have := h.int
  have k0 : (0 : Int32).toInt = 0 := rfl
  have k1 : (255 : Int32).toInt = 255 := rfl
  constructor
  · rw [Int32.lt_iff_toInt_lt, k0]; omega
  · rw [Int32.lt_iff_toInt_lt, k1]; omega
theorem Dig.cases {c : Int32} (h : Dig c) : c = 48 ∨ c = 49 ∨ c = 50 ∨ c = 51 ∨ c = 52 ∨ c = 53 ∨ c = 54 ∨ c = 55 ∨ c = 56 ∨ c = 57 := by
  have := h.int
  have e : ∀ k : Int32, c.toInt = k.toInt → c = k := fun k q => Int32.toInt_inj.mp q
  have : c.toInt = 48 ∨ c.toInt = 49 ∨ c.toInt = 50 ∨ c.toInt = 51 ∨ c.toInt = 52 ∨ c.toInt = 53 ∨ c.toInt = 54 ∨ c.toInt = 55 ∨ c.toInt = 56 ∨ c.toInt = 57 := by omega
  rcases this with q | q | q | q | q | q | q | q | q | q
  · exact Or.inl (e 48 q)
  · exact Or.inr (Or.inl (e 49 q))
  · exact Or.inr (Or.inr (Or.inl (e 50 q)))
  · exact Or.inr (Or.inr (Or.inr (Or.inl (e 51 q))))
  · exact Or.inr (Or.inr (Or.inr (Or.inr (Or.inl (e 52 q)))))
  · exact Or.inr (Or.inr (Or.inr (Or.inr (Or.inr (Or.inl (e 53 q))))))
  · exact Or.inr (Or.inr (Or.inr (Or.inr (Or.inr (Or.inr (Or.inl (e 54 q)))))))
  · exact Or.inr (Or.inr (Or.inr (Or.inr (Or.inr (Or.inr (Or.inr (Or.inl (e 55 q))))))))
  · exact Or.inr (Or.inr (Or.inr (Or.inr (Or.inr (Or.inr (Or.inr (Or.inr (Or.inl (e 56 q)))))))))
  · exact Or.inr (Or.inr (Or.inr (Or.inr (Or.inr (Or.inr (Or.inr (Or.inr (Or.inr (e 57 q)))))))))
theorem Dig.shr {c : Int32} (h : Dig c) : XT.ushr c 8 = 0 := by
  rcases h.cases with rfl | rfl | rfl | rfl | rfl | rfl | rfl | rfl | rfl | rfl <;> rfl
theorem Dig.d {c : Int32} (h : Dig c) : ¬ (c - 48) < 0 ∧ (c - 48) < 10 := by
  rcases h.cases with rfl | rfl | rfl | rfl | rfl | rfl | rfl | rfl | rfl | rfl <;> decide
theorem Dig.sub {c : Int32} (h : Dig c) : (c - 48).toInt = c.toInt - 48 := by
  have e := c_isub c 48
  have := h.int
  have k0 : (48 : Int32).toInt = 48 := rfl
  rw [k0] at e
  have := (c - 48).le_toInt
  have := (c - 48).toInt_lt
  omega
theorem Dig.nat {c : Int32} (h : Dig c) : (c.toNatClampNeg : Int) = c.toInt := by
  have := h.int
  rw [← Int32.toNat_toInt]; omega
/-- the value of decimal digits behind a -/
def dv : List Int32 → Nat → Nat
  | [], a => a
  | c :: cs, a => dv cs (10 * a + (c.toNatClampNeg - 48))
theorem dv_le : ∀ (cs : List Int32) (a : Nat), a ≤ dv cs a
  | [], a => Nat.le_refl _
  | c :: cs, a => Nat.le_trans (by omega) (dv_le cs (10 * a + (c.toNatClampNeg - 48)))
/-- one turn of parseInt's loop, in numbers -/
theorem dv_turn {acc c : Int32} {a N : Nat} {rest : List Int32} (hc : Dig c) (hN : dv (c :: rest) a = N) (hb : N < 2147483648) (ha : acc.toInt = -(a : Int)) :
    ¬ acc < (-2147483647 : Int32) / 10 ∧ ¬ acc * 10 < (-2147483647 : Int32) + (c - 48) ∧ (acc * 10 - (c - 48)).toInt = -((10 * a + (c.toNatClampNeg - 48) : Nat) : Int) := by
  have h1 := dv_le rest (10 * a + (c.toNatClampNeg - 48))
  have h2 : dv rest (10 * a + (c.toNatClampNeg - 48)) = N := hN
  have h3 := hc.sub
  have h4 := hc.int
  have h5 := hc.nat
  have m := c_imul acc 10
  have k10 : (10 : Int32).toInt = 10 := rfl
  rw [k10, ha] at m
  have m1 := (acc * 10).le_toInt
  have m2 := (acc * 10).toInt_lt
  have hm : (acc * 10).toInt = -(10 * (a : Int)) := by omega
  have s := c_isub (acc * 10) (c - 48)
  rw [hm, h3] at s
  have s1 := (acc * 10 - (c - 48)).le_toInt
  have s2 := (acc * 10 - (c - 48)).toInt_lt
  have t := c_iadd (-2147483647) (c - 48)
  have kl : (-2147483647 : Int32).toInt = -2147483647 := rfl
  rw [kl, h3] at t
  have t1 := ((-2147483647 : Int32) + (c - 48)).le_toInt
  have t2 := ((-2147483647 : Int32) + (c - 48)).toInt_lt
  refine ⟨?_, ?_, ?_⟩
  · rw [Int32.lt_iff_toInt_lt, ha]
    have : ((-2147483647 : Int32) / 10).toInt = -214748364 := rfl
    rw [this]; omega
  · rw [Int32.lt_iff_toInt_lt, hm]; omega
  · omega
theorem dv_end {acc : Int32} {a : Nat} (hb : a < 2147483648) (ha : acc.toInt = -(a : Int)) : -acc = Int32.ofNat a := by
  apply Int32.toInt_inj.mp
  rw [Int32.toInt_ofNat_small hb]
  have e := c_ineg acc
  rw [ha] at e
  have := (-acc).le_toInt
  have := (-acc).toInt_lt
  omega
theorem own_sub0 (x : Int32) : x - 0 = x := by
  apply Int32.toInt_inj.mp
  have e := c_isub x 0
  have k0 : (0 : Int32).toInt = 0 := rfl
  rw [k0] at e
  have := (x - 0).le_toInt
  have := (x - 0).toInt_lt
  have := x.le_toInt
  have := x.toInt_lt
  omega
/-- the decimal digit of n at p, as a char -/
def dg (n p : Int32) : Int32 := 48 + n / p % 10
theorem dg_int {n p : Int32} {P : Nat} (hn : ¬ n < 0) (hp : p.toInt = P) (h1 : p ≠ -1) (hP : 0 < P) : (dg n p).toInt = 48 + n.toInt / P % 10 ∧ 0 ≤ n.toInt := by
  have hn0 : 0 ≤ n.toInt := by rw [Int32.lt_iff_toInt_lt] at hn; exact Int.not_lt.mp hn
  have e1 := (c_idiv n p P hp h1).1 hn0
  have q0 : 0 ≤ (n / p).toInt := by rw [e1]; exact Int.ediv_nonneg hn0 (by omega)
  have e2 := (c_irem (n / p) 10 10 rfl).1 q0
  have e3 := c_iadd 48 (n / p % 10)
  have k0 : (48 : Int32).toInt = 48 := rfl
  rw [k0, e2, e1] at e3
  have := (dg n p).le_toInt
  have := (dg n p).toInt_lt
  refine ⟨?_, hn0⟩
  have e4 : ((dg n p).toInt - (48 + n.toInt / P % 10)) % 4294967296 = 0 := e3
  omega
theorem dg_dig {n p : Int32} {P : Nat} (hn : ¬ n < 0) (hp : p.toInt = P) (h1 : p ≠ -1) (hP : 0 < P) : Dig (dg n p) := by
  have e := (dg_int hn hp h1 hP).1
  apply Dig.of; omega
theorem dg_i2c {n p : Int32} {P : Nat} (hn : ¬ n < 0) (hp : p.toInt = P) (h1 : p ≠ -1) (hP : 0 < P) : (48 + n / p % 10).toUInt32.toUInt16.toUInt32.toInt32 = dg n p := by
  have d := (dg_dig hn hp h1 hP).int
  have e := c_i2c (dg n p)
  apply Int32.toInt_inj.mp
  show (dg n p).toUInt32.toUInt16.toUInt32.toInt32.toInt = _
  omega
theorem dv_dg {n p : Int32} (P : Nat) (hn : ¬ n < 0) (hp : p.toInt = P) (h1 : p ≠ -1) (hP : 0 < P) (rest : List Int32) : dv (dg n p :: rest) (n.toNatClampNeg / (P * 10)) = dv rest (n.toNatClampNeg / P) := by
  obtain ⟨e, hn0⟩ := dg_int hn hp h1 hP
  have d := dg_dig hn hp h1 hP
  have d1 := d.nat
  have en : (n.toNatClampNeg : Int) = n.toInt := by rw [← Int32.toNat_toInt]; omega
  show dv rest _ = dv rest _
  have k : (n.toInt / (P : Int)) = ((n.toNatClampNeg / P : Nat) : Int) := by rw [← en]; rfl
  rw [k] at e
  rw [← Nat.div_div_eq_div_mul]
  congr 1
  omega
theorem dg_lead {n p : Int32} {P : Nat} (hn : ¬ n < 0) (hp : p.toInt = P) (h1 : p ≠ -1) (hP : 0 < P) (lo : ¬ n < p) (hi : n.toInt < 10 * (P : Int)) : ¬ dg n p = 48 := by
  obtain ⟨e, hn0⟩ := dg_int hn hp h1 hP
  intro q
  rw [q] at e
  have k0 : (48 : Int32).toInt = 48 := rfl
  rw [k0] at e
  rw [Int32.lt_iff_toInt_lt, hp] at lo
  have a1 : 1 ≤ n.toInt / (P : Int) := (Int.le_ediv_iff_mul_le (by omega)).mpr (by omega)
  have a2 : n.toInt / (P : Int) < 10 := Int.ediv_lt_of_lt_mul (by omega) (by omega)
  omega
/-- the plain decimal form of n -/
def Good (cs : List Int32) (n : Int32) : Prop := (0 < cs.length ∧ cs.length ≤ 10) ∧ (∀ c ∈ cs, Dig c) ∧ (∀ c, cs[0]? = some c → 1 < cs.length → ¬ c = 48) ∧ dv cs 0 = n.toNatClampNeg
variable {args : Array Value} {s : State} {t : Term}
theorem own_isref (h : (Jvm.Cond.isRef t).value args s none s [] = some true) : ∃ v, t.eval args s none [] s = some v ∧ v.isRef = true := by
  simp only [Jvm.Cond.value] at h
  cases q : t.eval args s none [] s with
  | none => simp [q] at h
  | some v => exact ⟨v, rfl, by cases v <;> simp_all [Value.isRef]⟩
theorem hasL_self {c : Cell} : ∀ (r : List Value) (i : Nat), c.slots.toList.drop i = r → HasL c i r
  | [], _, _ => trivial
  | v :: r, i, h => by
    refine ⟨?_, hasL_self r (i + 1) ?_⟩
    · have := congrArg (fun l => l[0]?) h
      simpa [List.getElem?_drop] using this
    · have := congrArg List.tail h
      simpa [List.tail_drop] using this
/-- an array that stood at the start, its length told; what the sheet says of a component -/
theorem arrStart2 (hf : Fit s) {va : Addr} {ty : FieldType} (ht : t.eval args s none [] s = some (.ref va)) (h1 : (Jvm.Cond.arrayOf t ty).value args s none s [] = some true) {n : Nat} (hn : n < 2147483648) (h2 : (Jvm.Cond.eq (.length t) (.int (Int32.ofNat n))).value args s none s [] = some true) :
    ∃ k vs, OA s s.heap va k ty vs ∧ vs.length = n ∧ ∀ (j : Int32) v, (Term.elem t (.int j)).eval args s none [] s = some v → vs[j.toNatClampNeg]? = some v := by
  obtain ⟨c, A⟩ := Arr.start ht h1
  have hlen : (Term.length t).eval args s none [] s = some (.int (Int32.ofNat n)) := eqv h2 rfl (Or.inr ⟨_, rfl⟩)
  obtain ⟨sd, SA, hev, harrAt, -⟩ := Term.length_spec hlen
  have e0 : sd = va := by have := hev.symm.trans ht; injection this with q; injection q
  subst e0
  have h31 := SBG.length_lt hev harrAt hlen
  have hA : s.arrayAt? sd = some c := A.fin (U := s) (Vm.Alike.refl _)
  cases harrAt.symm.trans hA
  have e : (Term.length t).eval args s none [] s = some (.int c.slots.size.toInt32) := len_f hev hA h31
  have e2 : c.slots.size.toInt32 = Int32.ofNat n := by have := e.symm.trans hlen; injection this with q; injection q
  have e3 : c.slots.size = n := by
    have := congrArg Int32.toNatClampNeg e2
    rw [n_cl hn] at this
    rw [← this]; exact (n_cl h31).symm
  obtain ⟨k, O⟩ := arrStart hf ht h1 hn h2 (vs := c.slots.toList) (by simpa using e3) (fun c' hc' => by
    have := hc'.symm.trans A.1
    cases this
    exact hasL_self _ 0 (by simp))
  refine ⟨k, _, O, by simpa using e3, fun j v hv => ?_⟩
  obtain ⟨a, j', cell, q1, q2, q3, -, q5⟩ := Term.elem_spec hv
  cases q1.symm.trans ht
  cases q3.symm.trans hA
  have : j' = j := by have q : some (Value.int j) = some (Value.int j') := q2; injection q with q; injection q with q; exact q.symm
  subst this
  simpa using q5
end Dig
end Jvm.OwnK
namespace Jvm.OwnK
open Jvm Sem ClassFile Op Lib Jvm.Stand Jvm.Free Jvm.LawKit Jvm.RoadKit Bundle
section Copy
variable {p : Program} {l : Launch} {e : Env} {R : Room} {s : State} {m : MethodId} {args : Array Value} {below : List Frame} {meth : Method} {c : Code} {Z : State} {a0 : Array Value} {EL : List (String × Nat)} {nb : Bool} {own : String} {code : ByteArray} {ml : Nat} {ret : Option FieldType} {nm : String} {vm : Vm} {T : State} {locs : List Loc} {ce sl : Nat} {h : Heap} {pc : Nat} {ls : Array Slot} {st : List Value}
abbrev acM : MethodName := ⟨"java/lang/System", "arraycopy", "(Ljava/lang/Object;ILjava/lang/Object;II)V"⟩
/-- what a copy leaves -/
def cpy (ys xs : List Value) (o q n : Nat) : List Value := ys.take q ++ ((xs.drop o).take n ++ ys.drop (q + n))
theorem cpy_len {ys xs : List Value} {o q n : Nat} (h4 : o + n ≤ xs.length) (h5 : q + n ≤ ys.length) : (cpy ys xs o q n).length = ys.length := by
  simp only [cpy, List.length_append, List.length_take, List.length_drop]; omega
theorem cpy_at {ys xs : List Value} {o q n j : Nat} (h4 : o + n ≤ xs.length) (h5 : q + n ≤ ys.length) : (cpy ys xs o q n)[j]? = if q ≤ j ∧ j < q + n then xs[o + (j - q)]? else ys[j]? := by
  have l1 : (ys.take q).length = q := by rw [List.length_take]; omega
  have l2 : ((xs.drop o).take n).length = n := by rw [List.length_take, List.length_drop]; omega
  unfold cpy
  by_cases c1 : j < q
  · rw [if_neg (by omega), List.getElem?_append_left (by omega), List.getElem?_take, if_pos c1]
  · rw [List.getElem?_append_right (by omega), l1]
    by_cases c2 : j < q + n
    · rw [if_pos ⟨by omega, c2⟩, List.getElem?_append_left (by omega), List.getElem?_take, if_pos (by omega), List.getElem?_drop]
    · rw [if_neg (by omega), List.getElem?_append_right (by omega), l2, List.getElem?_drop]
      congr 1; omega
/-- System.arraycopy between two byte arrays, the second made since the law began -/
theorem oCopy (W : OW p l e R s m args below meth c Z a0 EL nb own code ml ret nm vm T locs ce sl h) {idx : Nat} {a b : Addr} {ka kb : ClassId} {xs ys : List Value} (A : OA Z h a ka .byte xs) (B : OA Z h b kb .byte ys) {o q n : Nat} (h4 : o + n ≤ xs.length) (h5 : q + n ≤ ys.length) (hfr : Z.heap.size ≤ b) (hS : Safe Z EL vm h b)
    (w1 : (Jvm.Cond.methodLink own idx acM).before a0 Z = true) (w2 : (Jvm.Cond.native acM).before a0 Z = true) (w3 : (Jvm.Cond.static acM).before a0 Z = true) (w4 : (Jvm.Cond.initialized "java/lang/System").before a0 Z = true)
    (hsz : ls.size = ml) (hd : decode code pc = .ok (.invokestatic idx, 3)) {V : Nat} (hV : (st.map fun v => v.category).sum ≤ V) (hf : 1 ≤ R.frames) (hl : V + 40 ≤ R.locals) :
    ∃ T' h', OW p l e R s m args below meth c Z a0 EL nb own code ml ret nm vm T' (locs ++ copyLocs b q n) ce sl h' ∧ Keep h h' [b] ∧ OA Z h' b kb .byte (cpy ys xs o q n) ∧ CHr Z EL vm h vm h' ∧
      Lt p e below T (mkF m pc ls (.int (Int32.ofNat n) :: .int (Int32.ofNat q) :: .ref b :: .int (Int32.ofNat o) :: .ref a :: st)) T' (mkF m (pc + 3) ls st) := by
  obtain ⟨n1, d1, ⟨cA, A1, hk1, hs1, hn1, H1, G1⟩, r1⟩ := A
  obtain ⟨n2, d2, ⟨cB, B1, hk2, hs2, hn2, H2, G2⟩, r2⟩ := B
  have b1 : cA.slots.size < 2 ^ 31 := by rw [hs1, ← Int32.toNat_toInt]; have := n1.toInt_lt; omega
  have b2 : cB.slots.size < 2 ^ 31 := by rw [hs2, ← Int32.toNat_toInt]; have := n2.toInt_lt; omega
  have eT := W.heap
  have hZ := W.warm
  have hTv : (s.setVm vm).vm.Alike T.vm := W.2.1.warmed.alike
  have XA : XT.Arr .byte a cA T := ⟨by rw [eT]; exact A1.1, State.isArrayOf_alike (hZ.alike.trans hTv) A1.2.1, A1.2.2, b1⟩
  have XB : XT.Arr .byte b cB T := ⟨by rw [eT]; exact B1.1, State.isArrayOf_alike (hZ.alike.trans hTv) B1.2.1, B1.2.2, b2⟩
  have xl : xs.length = cA.slots.size := by rw [← r1, hs1]
  have yl : ys.length = cB.slots.size := by rw [← r2, hs2]
  have gx : ∀ j, j < cA.slots.size → cA.slots[j]? = xs[j]? := fun j hj => by
    rw [H1 j hj, List.getD_eq_getElem?_getD, List.getElem?_eq_getElem (by omega)]; rfl
  have gy : ∀ j, j < cB.slots.size → cB.slots[j]? = ys[j]? := fun j hj => by
    rw [H2 j hj, List.getD_eq_getElem?_getD, List.getElem?_eq_getElem (by omega)]; rfl
  have gd : ∀ j, j < cA.slots.size → cA.slots.getD j .null = xs.getD j d1 := fun j hj => by
    rw [Array.getD_eq_getD_getElem?, H1 j hj]; rfl
  obtain ⟨T', B', X', P, e1, e2, e3, e4, st'⟩ := W.2.1.acopy W.1.1 W.owns (index := idx) (fun w hw => by
      simp only [XT.acW, List.mem_cons, List.not_mem_nil, or_false] at hw
      rcases hw with rfl | rfl | rfl | rfl
      · exact (mvT hZ w1 : (Jvm.Cond.methodLink own idx acM).before args (s.setVm vm) = true)
      · exact (mvT hZ w2 : (Jvm.Cond.native acM).before args (s.setVm vm) = true)
      · exact (mvT hZ w3 : (Jvm.Cond.static acM).before args (s.setVm vm) = true)
      · exact mvT hZ w4) XA XB (by decide) (o := o) (q := q) (n := n) rfl rfl rfl (by omega) (by omega)
    (fun i hi => ⟨by rw [gd _ (by omega)]; exact G1 _ (by omega), fun hr => by cases hr⟩) (g := mkF m pc ls (.int (Int32.ofNat n) :: .int (Int32.ofNat q) :: .ref b :: .int (Int32.ofNat o) :: .ref a :: st)) rfl (hsz.trans W.1.2.2.1.symm) rfl (oDec W hd) (W := V) (by show 2 * 0 + _ ≤ _; omega) hf hl
  have hb : b < h.size := B1.lt
  have K : Keep h T'.heap [b] := by
    refine ⟨by rw [P.2.2, eT]; exact Nat.le_refl _, fun x c' hx hn => ?_, fun x c' hx => ?_⟩
    · rw [P.2.1 x (fun q => hn (by rw [q]; exact List.mem_singleton.mpr rfl)), eT]; exact hx
    · by_cases q : x = b
      · subst q
        cases B1.1.symm.trans hx
        exact ⟨B', P.1, e1, e2, e3⟩
      · exact ⟨c', by rw [P.2.1 x q, eT]; exact hx, rfl, rfl, rfl⟩
  have hC : CHr Z EL vm h vm T'.heap := CHr.keep K (fun x hx => by cases List.mem_singleton.mp hx; exact hS) W.chv
  refine ⟨T', T'.heap, W.step X' rfl hC (W.fr.app fun y hy => ?_) (exK W.ext K (fun x hx => by cases List.mem_singleton.mp hx; exact hfr)), K, ⟨n2, d2, ⟨B', ⟨P.1, ⟨by rw [e2]; exact B1.2.1.1, by rw [e1]; exact B1.2.1.2⟩, by rw [e2]; exact B1.2.2⟩, by rw [e1]; exact hk2, by rw [e3]; exact hs2, hn2, fun j hj => ?_, fun j hj => ?_⟩, by rw [cpy_len h4 h5]; exact r2⟩, hC, st'⟩
  · simp only [copyLocs, List.mem_map] at hy
    obtain ⟨i, -, rfl⟩ := hy
    exact hfr
  · rw [e3] at hj
    rw [List.getD_eq_getElem?_getD, cpy_at h4 h5, e4 j]
    split
    · rename_i hq
      rw [gd _ (by omega), List.getD_eq_getElem?_getD, List.getElem?_eq_getElem (by omega)]; rfl
    · rw [gy j hj, List.getElem?_eq_getElem (by omega)]; rfl
  · rw [e3] at hj
    rw [List.getD_eq_getElem?_getD, cpy_at h4 h5]
    split
    · rename_i hq
      have := G1 (o + (j - q)) (by omega)
      rw [List.getD_eq_getElem?_getD, List.getElem?_eq_getElem (by omega)] at this
      rw [List.getElem?_eq_getElem (by omega)]; exact this
    · have := G2 j hj
      rw [List.getD_eq_getElem?_getD, List.getElem?_eq_getElem (by omega)] at this
      rw [List.getElem?_eq_getElem (by omega)]; exact this
end Copy
end Jvm.OwnK
namespace Jvm.OwnK
open Jvm Sem ClassFile Op Lib Jvm.Stand Jvm.Free Jvm.LawKit Jvm.RoadKit Bundle
section Sup
variable {p : Program} {l : Launch} {e : Env} {R : Room} {s : State} {m : MethodId} {args : Array Value} {below : List Frame} {meth : Method} {c : Code} {Z : State} {a0 : Array Value} {EL : List (String × Nat)} {nb : Bool} {own : String} {code : ByteArray} {ml : Nat} {ret : Option FieldType} {nm : String} {vm : Vm} {T : State} {locs : List Loc} {ce sl : Nat} {h : Heap} {pc : Nat} {ls : Array Slot} {st : List Value}
  {y : MethodName} {bytes : ByteArray} {maxL : Nat} {ret' : Option FieldType} {rm : Room} {as' : Array Value} {sf : List Addr} {Q' : Option Value → Vm → Heap → Prop}
/-- a class that some call lands in is no interface -/
theorem own_class {C : String} {z : MethodName} (w : (Jvm.Cond.selects C z z).before a0 Z = true) : ∃ cid k, Z.vm.findClass z.cls = some cid ∧ Z.vm.classes[cid]? = some k ∧ k.isInterface = false := by
  obtain ⟨c2, r2, m2, q1, q2, q3, q4, kP, hkP, hkPi⟩ := Cond.selects_spec w
  exact ⟨_, kP, findClass_of_methodNamed q3, hkP, hkPi⟩
theorem own_same (hy : y.cls ≠ "java/lang/invoke/MethodHandle" ∧ y.cls ≠ "java/lang/invoke/VarHandle") (wd : (Jvm.Cond.declares y).before a0 Z = true) (F : ∃ cid k, Z.vm.findClass y.cls = some cid ∧ Z.vm.classes[cid]? = some k ∧ k.isInterface = false) : (Jvm.Cond.sameMethod y.cls y.cls y.name y.desc).before a0 Z = true := by
  obtain ⟨r0, r, hn, hrm, -, -⟩ := Cond.declares_spec wd
  obtain ⟨cid, k, h1, h2, h3⟩ := F
  have hf := State.methodFound?_of_named hn hy
  have hn' : Z.methodNamed? ⟨y.cls, y.name, y.desc⟩ = some r0 := hn
  simp [Jvm.Cond.before, Jvm.Cond.holds, Jvm.Cond.value, h1, hf, hn', h2, h3]
/-- NotFace of a method whose class is told so -/
theorem own_nf (F : ∃ cid k, Z.vm.findClass y.cls = some cid ∧ Z.vm.classes[cid]? = some k ∧ k.isInterface = false) : NotFace Z y := fun r0 h0 => by
  obtain ⟨cid, k, h1, h2, h3⟩ := F
  cases (findClass_of_methodNamed h0).symm.trans h1
  exact ⟨k, h2, h3⟩
/-- super.m(..) -/
theorem oCallU (W : OW p l e R s m args below meth c Z a0 EL nb own code ml ret nm vm T locs ce sl h) {idx : Nat} {K : String} {argsL : List Value} {a : Addr} (F : Ins Z h a K true) (hM : OC l Z EL nb [] y bytes maxL ret' rm (.ref a :: argsL).toArray h sf Q') (hsf : ∀ x ∈ sf, x < h.size ∧ Safe Z EL vm h x) (w1 : (Jvm.Cond.methodLink own idx y).before a0 Z = true) (w2 : (Jvm.Cond.sameMethod y.cls y.cls y.name y.desc).before a0 Z = true) (w3 : (Jvm.Cond.instanceMethod y).before a0 Z = true) (w4 : (Jvm.Cond.superclass own y.cls).before a0 Z = true) (hn : y.name ≠ "<init>") (wz : (Jvm.Cond.initialized y.cls).before a0 Z = true) (wc : (Jvm.Cond.code y bytes maxL ret').before a0 Z = true)
    {na : Nat} (hna : argsL.length = na) (har : XT.arity y.desc = some na) (hsz : ls.size = ml) {stk : List Value} (hst : stk = argsL.reverse ++ .ref a :: st) (hd : decode code pc = .ok (.invokespecial idx, 3))
    {V : Nat} (hV : (st.map fun v => v.category).sum ≤ V) (hf : rm.frames + 1 ≤ R.frames) (hl : V + (maxL + 11) + rm.locals ≤ R.locals) (hc : ce + rm.cells ≤ R.cells) (hs : sl + rm.slots ≤ R.slots) :
    ∃ v T' L h' vm', OW p l e R s m args below meth c Z a0 EL nb own code ml ret nm vm' T' (locs ++ L) (ce + rm.cells) (sl + rm.slots) h' ∧ Q' v vm' h' ∧ CHr Z EL vm h vm' h' ∧ Lt p e below T (mkF m pc ls stk) T' (mkF m (pc + 3) ls (v.toList ++ st)) := by
  obtain ⟨v, vm₁, B, hW, X', hS, hgr, hP, st'⟩ := RoadKit.superBackS W.2.1 W.1.1 W.warm (y := y) W.owns w1 w2 w3 w4 hn (oBack W hM hsf wc wz hf hl) W.heap F (g := mkF m pc ls stk) rfl (hsz.trans W.1.2.2.1.symm) wc (argsL := argsL) (rest := st) (XT.arity_len har hna) hst (by show 2 * 0 + _ ≤ _; omega) (oDec W hd) (fun _ _ => ⟨rfl, W.heap, hc, hs⟩)
  exact ⟨v, oCalled W hW X' hS hP st'⟩
end Sup
end Jvm.OwnK
namespace Jvm.OwnK
open Jvm Sem ClassFile Op Lib Jvm.Stand Jvm.Free Jvm.LawKit Jvm.RoadKit Bundle
section Lists
variable {p : Program} {l : Launch} {e : Env} {R : Room} {s : State} {m : MethodId} {args : Array Value} {below : List Frame} {meth : Method} {c : Code} {Z : State} {a0 : Array Value} {EL : List (String × Nat)} {nb : Bool} {own : String} {code : ByteArray} {ml : Nat} {ret : Option FieldType} {nm : String} {vm : Vm} {T : State} {locs : List Loc} {ce sl : Nat} {h : Heap} {pc : Nat} {ls : Array Slot} {st : List Value}
  {y : MethodName} {bytes : ByteArray} {maxL : Nat} {ret' : Option FieldType} {rm : Room} {as' : Array Value} {sf : List Addr} {Q' : Option Value → Vm → Heap → Prop}
/-- a new array of references -/
theorem oNewR (W : OW p l e R s m args below meth c Z a0 EL nb own code ml ret nm vm T locs ce sl h) {idx : Nat} {C : String} (w1 : (Jvm.Cond.classLink own idx C).before a0 Z = true) (w2 : (Jvm.Cond.arrayOver (.object C)).before a0 Z = true) (hd : decode code pc = .ok (.anewarray idx, 3)) {n : Int32} (hn : ¬ n < 0) {cap : Nat} (hcap : n.toNatClampNeg ≤ cap) (hb : cap * 8 ≤ 536870912) (hc : ce + 1 ≤ R.cells) (hl : sl + cap ≤ R.slots) :
    ∃ T' h' a k, OW p l e R s m args below meth c Z a0 EL nb own code ml ret nm vm T' locs (ce + 1) (sl + cap) h' ∧ h.size ≤ a ∧ Ext h h' ∧ OA Z h' a k (.object C) (List.replicate n.toNatClampNeg .null) ∧ Ovr Z k C ∧ CHr Z EL vm h vm h' ∧
      Lt p e below T (mkF m pc ls (.int n :: st)) T' (mkF m (pc + 3) ls (.ref a :: st)) := by
  obtain ⟨T', h', cA, X', eT, E, A, O, st'⟩ := RoadKit.newR W.2.1 W.1.1 W.warm W.owns w1 w2 W.heap (g := mkF m pc ls (.int n :: st)) rfl (oDec W hd) rfl hn hcap hb hc hl
  have hC : CHr Z EL vm h vm h' := CHr.ext E W.chv
  have F := (Arv.new A hn).pad (vs' := [] ++ List.replicate n.toNatClampNeg (defaultValue (.object C))) (pad_rep [] _ _)
  exact ⟨T', h', h.size, cA, W.step X' eT hC W.fr (exT W.ext E), Nat.le_refl _, E, ⟨n, _, F, by simp⟩, O, hC, st'⟩
/-- a store into such an array -/
theorem oPutR (W : OW p l e R s m args below meth c Z a0 EL nb own code ml ret nm vm T locs ce sl h) {a x : Addr} {k : ClassId} {C : String} {vs : List Value} (A : OA Z h a k (.object C) vs) (O : Ovr Z k C) (I : Ins Z h x C true) {j : Int32} (hj : ¬ j < 0) {i : Nat} (hji : j.toNatClampNeg = i) (hlt : i < vs.length) (hfr : Z.heap.size ≤ a) (hd : decode code pc = .ok (.aastore, 1)) :
    ∃ T' h', OW p l e R s m args below meth c Z a0 EL nb own code ml ret nm vm T' (locs ++ [⟨a, i⟩]) ce sl h' ∧ Wr h h' a i (.ref x) ∧ OA Z h' a k (.object C) (vs.set i (.ref x)) ∧ CHr Z EL vm h vm h' ∧ Lt p e below T (mkF m pc ls (.ref x :: .int j :: .ref a :: st)) T' (mkF m (pc + 1) ls st) := by
  have hS : Safe Z EL vm h a := A.safe W.warm.alike (by simp)
  obtain ⟨n, d, ⟨cl, A1, hk, hs, hn, H, G⟩, r⟩ := A
  subst hji
  have hin : ¬ (j < 0 ∨ cl.slots.size ≤ j.toNatClampNeg) := fun q => q.elim hj (fun q => by rw [hs, r] at q; omega)
  obtain ⟨T', h', X', eT, Wr', st'⟩ := RoadKit.stR W.2.1 W.1.1 W.warm W.heap A1 hin rfl (Sto.ofV A1 hk O I) (g := mkF m pc ls (.ref x :: .int j :: .ref a :: st)) rfl rfl (oDec W hd)
  have hC : CHr Z EL vm h vm h' := CHr.wr Wr' hS W.chv
  exact ⟨T', h', W.step X' eT hC (frS W.fr hfr) (exW W.ext Wr' hfr), Wr', ⟨n, d, Arv.set A1 hk hs hn H G rfl Wr' _ rfl hlt, by simpa using r⟩, hC, st'⟩
/-- a call through an interface -/
theorem oCallI (W : OW p l e R s m args below meth c Z a0 EL nb own code ml ret nm vm T locs ce sl h) {idx cnt : Nat} {x : MethodName} {C : String} {argsL : List Value} {a : Addr} (E : Exa Z h a C) (hM : OC l Z EL nb [] y bytes maxL ret' rm (.ref a :: argsL).toArray h sf Q') (hsf : ∀ x ∈ sf, x < h.size ∧ Safe Z EL vm h x) (w1 : (Jvm.Cond.methodLink own idx x).before a0 Z = true) (w2 : (Jvm.Cond.declares x).before a0 Z = true) (wf : (Jvm.Cond.interfaceMethod x.cls x.cls x.name x.desc).before a0 Z = true) (kf : ((Jvm.Cond.interfaceMethod x.cls x.cls x.name x.desc).onTables && (Jvm.Cond.interfaceMethod x.cls x.cls x.name x.desc).keepsFace) = true) (w3 : (Jvm.Cond.selects C x y).before a0 Z = true) (w4 : (Jvm.Cond.instanceMethod y).before a0 Z = true) (wp : (Jvm.Cond.publicMethod y).before a0 Z = true) (wu : (Jvm.Cond.unhidden C x.name x.desc).before a0 Z = true) (wk : (Jvm.Cond.castable C x.cls).before a0 Z = true) (wz : (Jvm.Cond.initialized y.cls).before a0 Z = true) (wc : (Jvm.Cond.code y bytes maxL ret').before a0 Z = true)
    (hy : x.cls ≠ "java/lang/invoke/MethodHandle" ∧ x.cls ≠ "java/lang/invoke/VarHandle") {na : Nat} (hna : argsL.length = na) (har : XT.arity x.desc = some na) (hsz : ls.size = ml) {stk : List Value} (hst : stk = argsL.reverse ++ .ref a :: st) (hd : decode code pc = .ok (.invokeinterface idx cnt, 5))
    {V : Nat} (hV : (st.map fun v => v.category).sum ≤ V) (hf : rm.frames + 1 ≤ R.frames) (hl : V + (maxL + 11) + rm.locals ≤ R.locals) (hc : ce + rm.cells ≤ R.cells) (hs : sl + rm.slots ≤ R.slots) :
    ∃ v T' L h' vm', OW p l e R s m args below meth c Z a0 EL nb own code ml ret nm vm' T' (locs ++ L) (ce + rm.cells) (sl + rm.slots) h' ∧ Q' v vm' h' ∧ CHr Z EL vm h vm' h' ∧ Lt p e below T (mkF m pc ls stk) T' (mkF m (pc + 5) ls (v.toList ++ st)) := by
  obtain ⟨cB, kB, i1, i2, i3⟩ := isOf (s := s.setVm vm) (T := T) W.warm W.heap E
  obtain ⟨v, vm₁, B, hW, X', hS, hgr, hP, st'⟩ := W.2.1.interfaceBackS W.1.1 (xi := x) (y := y) W.owns (mvT W.warm w1) (mvT W.warm w2) (mvT W.warm wf kf) (mvT W.warm w3) (mvT W.warm w4) (mvT W.warm wp) (mvT W.warm wu) (mvT W.warm wk) hy (oBack W hM hsf wc wz hf hl) i1 i2 i3 (g := mkF m pc ls stk) rfl (hsz.trans W.1.2.2.1.symm) (Steps.refl _) (argsL := argsL) (rest := st) (XT.arity_len har hna) hst (by show 2 * 0 + _ ≤ _; omega) (oDec W hd) (fun _ _ => ⟨rfl, W.heap, hc, hs⟩)
  exact ⟨v, oCalled W hW X' hS hP st'⟩
/-- an instance method with a body is declared -/
theorem own_decl {y : MethodName} (wi : (Jvm.Cond.instanceMethod y).before a0 Z = true) (wc : (Jvm.Cond.code y bytes maxL ret').before a0 Z = true) : (Jvm.Cond.declares y).before a0 Z = true := by
  obtain ⟨mk, me, hn, hm, hst, -⟩ := Cond.instanceMethod_spec wi
  obtain ⟨me', c', h1, -, -, -, -, -, -, h8⟩ := Cond.code_spec hn wc
  cases hm.symm.trans h1
  simp [Jvm.Cond.before, Jvm.Cond.holds, Jvm.Cond.value, hn, hm, hst, h8]
end Lists
end Jvm.OwnK
namespace Jvm.OwnK
open Jvm Sem ClassFile Op Lib Jvm.Stand Jvm.Free Jvm.LawKit Jvm.RoadKit Bundle
section Refs
variable {p : Program} {l : Launch} {e : Env} {R : Room} {s : State} {m : MethodId} {args : Array Value} {below : List Frame} {meth : Method} {c : Code} {Z : State} {a0 : Array Value} {EL : List (String × Nat)} {nb : Bool} {own : String} {code : ByteArray} {ml : Nat} {ret : Option FieldType} {nm : String} {vm : Vm} {T : State} {locs : List Loc} {ce sl : Nat} {h : Heap} {pc : Nat} {ls : Array Slot} {st : List Value}
/-- getfield of an entry that is told to be resolved already -/
theorem oGetFR (W : OW p l e R s m args below meth c Z a0 EL nb own code ml ret nm vm T locs ce sl h) {idx : Nat} {R0 O n d : String} (w : (Jvm.Cond.fieldRef own idx R0 n d).before a0 Z = true) (via : Via Z R0 O n d) {a : Addr} {v : Value} (F : Fld Z h a O n d v) (hd : decode code pc = .ok (.getfield idx, 3)) :
    ∃ T', OW p l e R s m args below meth c Z a0 EL nb own code ml ret nm vm T' locs ce sl h ∧ Lt p e below T (mkF m pc ls (.ref a :: st)) T' (mkF m (pc + 3) ls (v :: st)) := by
  obtain ⟨cell, cf, k, i, f, h1, h2, h3, h4, -, -, h7⟩ := F
  have X := W.2.1
  have hZ : Z.Warmed39 T.vm := RoadKit.wtrans (s := s.setVm vm) (U := T) W.warm X.warmed
  obtain ⟨k', hi, -⟩ := State.fieldFound?_setVm (s := Z) hZ.alike (via _ h2)
  have hcur : (Z.setVm T.vm).vm.findClass own = some m.cls := (X.warmed.alike.findClass own none).trans W.owns
  obtain ⟨c2, k2, i2, f2, hj, hr⟩ := Cond.fieldRef_spec hcur (Cond.fieldRef_warmed39 hZ w)
  cases hi.symm.trans hj
  exact ⟨T, W, fun t ht => (Stand.getfieldR X W.1.1 (g := mkF m pc ls (.ref a :: st)) rfl hr h3 rfl (by rw [W.heap]; exact h1) h4 h7 (oDec W hd) (Steps.refl _)).trans ht⟩
theorem oMono (W : OW p l e R s m args below meth c Z a0 EL nb own code ml ret nm vm T locs ce sl h) {ce' sl' : Nat} (hc : ce ≤ ce') (hs : sl ≤ sl') : OW p l e R s m args below meth c Z a0 EL nb own code ml ret nm vm T locs ce' sl' h := ⟨W.1, W.2.1.mono hc hs, W.2.2⟩
end Refs
end Jvm.OwnK
namespace Jvm.Pilot.@@N@@
open Jvm Jvm.ClassFile Sem Op Lib Jvm.Free Jvm.Stand Jvm.LawKit Jvm.RoadKit Bundle Jvm.Pilot.@@N@@.Jvm.D Jvm.OwnK
section OwnStr
abbrev mI1 : MethodName := ⟨"java/lang/String", "<init>", "([C)V"⟩
abbrev mI4 : MethodName := ⟨"java/lang/String", "<init>", "([CIILjava/lang/Void;)V"⟩
abbrev mC3 : MethodName := ⟨"java/lang/StringUTF16", "compress", "([CII)[B"⟩
abbrev mC5 : MethodName := ⟨"java/lang/StringUTF16", "compress", "([CI[BII)I"⟩
abbrev mCL : MethodName := ⟨"java/lang/StringUTF16", "coderFromArrayLen", "([BI)B"⟩
/-- the words on String's constructor -/
def sW : List Jvm.Cond := [.methodLink "java/lang/String" 27 mI4, .instanceMethod mI4, .code mI4 jdk_42_method_149_code 6 none, .methodLink "java/lang/String" 1 ⟨"java/lang/Object", "<init>", "()V"⟩, .instanceMethod ⟨"java/lang/Object", "<init>", "()V"⟩, .code ⟨"java/lang/Object", "<init>", "()V"⟩ object_method_1_code 1 none,
  .fieldLink "java/lang/String" 38 "java/lang/String" "COMPACT_STRINGS" "Z", .methodLink "java/lang/String" 177 mC3, .static mC3, .initialized "java/lang/StringUTF16", .code mC3 jdk_52_method_16_code 6 (some (.array .byte)), .arrayClass .byte,
  .methodLink "java/lang/StringUTF16" 115 mC5, .static mC5, .code mC5 jdk_52_method_21_code 7 (some .int), .methodLink "java/lang/String" 47 mCL, .static mCL, .code mCL jdk_52_method_15_code 2 (some .byte),
  .fieldLink "java/lang/String" 15 "java/lang/String" "coder" "B", .laysFinal "java/lang/String" "java/lang/String" "coder" "B", .fieldLink "java/lang/String" 9 "java/lang/String" "value" "[B", .laysFinal "java/lang/String" "java/lang/String" "value" "[B", .initialized "java/lang/String", .instantiable "java/lang/String" 4, .code mI1 jdk_42_method_3_code 2 none]
theorem sW_in : ∀ d ∈ sW, d ∈ tables_1 := by decide +kernel
/-- a String of Latin-1 chars -/
def Str (Z : State) (h : Heap) (x : Addr) (cs : List Int32) : Prop := ∃ t k, Exa Z h x "java/lang/String" ∧ Fld Z h x "java/lang/String" "coder" "B" (.int 0) ∧ Fld Z h x "java/lang/String" "value" "[B" (.ref t) ∧ OA Z h t k .byte (cs.map fun c => Value.int c.toInt8.toInt32) ∧ ∀ c ∈ cs, ¬ c < 0 ∧ ¬ (255 : Int32) < c
theorem Str.ext {Z : State} {h h' : Heap} {x : Addr} {cs : List Int32} (F : Str Z h x cs) (E : Ext h h') : Str Z h' x cs := by
  obtain ⟨t, k, h1, h2, h3, h4, h5⟩ := F
  exact ⟨t, k, h1.ext E, h2.ext E, h3.ext E, h4.ext E, h5⟩
theorem Str.exa {Z : State} {h : Heap} {x : Addr} {cs : List Int32} (F : Str Z h x cs) : Exa Z h x "java/lang/String" := by obtain ⟨t, k, h1, -⟩ := F; exact h1
variable {l : Launch} {Z : State} {a0 : Array Value} {EL : List (String × Nat)} {nb : Bool} {h0 : Heap}
/-- what every String call leans on -/
def SC (Z : State) (a0 : Array Value) (EL : List (String × Nat)) : Prop := (∀ d ∈ sW, d.before a0 Z = true) ∧ EW Z a0 EL ∧ ∃ z, Sta Z Z.heap "java/lang/String" "COMPACT_STRINGS" "Z" (.int z) ∧ ¬ z = 0
abbrev rm0 : Room := { frames := 0, cells := 0, slots := 0, locals := 0 }
theorem k_CL (hE : EW Z a0 EL) {t : Addr} {k : ClassId} {vs : List Value} {n : Int32} (A : OA Z h0 t k .byte vs) :
    OC l Z EL nb [] mCL jdk_52_method_15_code 2 (some .byte) rm0 #[.ref t, .int n] h0 [] (fun v _ h => v = some (.int (XT.ushr (n - vs.length.toInt32) (31 : Int32)).toInt8.toInt32) ∧ h = h0) := by
  refine oEnter (by decide +kernel) hE ?_
  intro p e s m below meth c T0 W0 _
  refine oEq (g' := mkF m 0 #[.val (.ref t), .val (.int n)] []) (by first | (simp [entryFrame, mkF, argsToLocals, Value.category]; done) | rfl) ?_
  refine oGo W0 [.iload_n 1, .aload_n 0] (by decide +kernel) (ls' := #[.val (.ref t), .val (.int n)]) (st' := [.ref t, .int n]) rfl rfl (pc' := 2) rfl ?_
  refine oLen W0 A (by decide +kernel) ?_
  refine oGo W0 [.isub, .bipush 31, .iushr, .i2b] (by decide +kernel) (ls' := #[.val (.ref t), .val (.int n)]) (st' := [.int (XT.ushr (n - vs.length.toInt32) (31 : Int32)).toInt8.toInt32]) rfl rfl (pc' := 8) rfl ?_
  exact oRetN (by simp) W0 (nar_b _) (by decide +kernel) (lb rfl) (lb rfl) (fun _ _ => ⟨rfl, rfl⟩)
def bigAt : List Int32 → Nat
  | [] => 0
  | c :: cs => if (255 : Int32) < c then 0 else bigAt cs + 1
theorem bigAt_all : ∀ {cs : List Int32}, (∀ c ∈ cs, ¬ (255 : Int32) < c) → bigAt cs = cs.length
  | [], _ => rfl
  | c :: cs, h => by
    rw [bigAt, if_neg (h c (List.mem_cons_self ..)), bigAt_all (fun d hd => h d (List.mem_cons_of_mem _ hd)), List.length_cons]
theorem bigAt_at : ∀ {cs : List Int32} {k : Nat} (hk : k < cs.length), (∀ c ∈ cs.take k, ¬ (255 : Int32) < c) → (255 : Int32) < cs[k] → bigAt cs = k
  | [], k, hk, _, _ => absurd hk (Nat.not_lt_zero _)
  | c :: cs, 0, hk, _, hb => by rw [bigAt, if_pos (by simpa using hb)]
  | c :: cs, k + 1, hk, h, hb => by
    rw [List.take_succ_cons] at h
    rw [bigAt, if_neg (h c (List.mem_cons_self ..)), bigAt_at (k := k) (by simpa using hk) (fun d hd => h d (List.mem_cons_of_mem _ hd)) (by simpa using hb)]
def Q5 (Z : State) (h0 : Heap) (d : Addr) (kd : ClassId) (cs : List Int32) (v : Option Value) (_ : Vm) (h : Heap) : Prop := v = some (.int (Int32.ofNat (bigAt cs))) ∧ Keep h0 h [d] ∧ (bigAt cs = cs.length → OA Z h d kd .byte (cs.map fun c => Value.int c.toInt8.toInt32))
theorem set_step {cs : List Int32} {k r : Nat} (hk : k + (r + 1) = cs.length) (hlt : k < cs.length) :
    ((cs.take k).map (fun c : Int32 => Value.int c.toInt8.toInt32) ++ List.replicate (r + 1) (Value.int 0)).set k (Value.int cs[k].toInt8.toInt32) = (cs.take (k + 1)).map (fun c : Int32 => Value.int c.toInt8.toInt32) ++ List.replicate r (Value.int 0) := by
  have e1 : ((cs.take k).map (fun c : Int32 => Value.int c.toInt8.toInt32)).length = k := by simp; omega
  rw [List.set_append_right _ _ (by omega), e1, Nat.sub_self, List.replicate_succ, List.set_cons_zero, List.take_succ_eq_append_getElem hlt, List.map_append, List.append_assoc]
  rfl
theorem k_C5_loop {p : Program} {e : Env} {R : Room} {s : State} {m : MethodId} {args : Array Value} {below : List Frame} {meth : Method} {c : Code} {nm : String} {ck sk : Nat} {b d : Addr} {kb kd : ClassId} {cs : List Int32} (hl : cs.length < 2147483648) (hbd : b ≠ d) (hdf : Z.heap.size ≤ d) :
    ∀ (r k : Nat), k + r = cs.length → ∀ {vm : Vm} {T : State} {locs : List Loc} {h : Heap} {s6 : Slot}, OW p l e R s m args below meth c Z a0 EL nb "java/lang/StringUTF16" jdk_52_method_21_code 7 (some .int) nm vm T locs 0 0 h → OA Z h b kb .char (cs.map Value.int) →
      OA Z h d kd .byte ((cs.take k).map (fun c : Int32 => Value.int c.toInt8.toInt32) ++ List.replicate r (.int 0)) → Safe Z EL vm h d → Keep h0 h [d] → (∀ c ∈ cs.take k, ¬ (255 : Int32) < c) → (s6 = .unset ∨ ∃ x, s6 = .val (.int x)) →
      OG p e below s Z EL nb (Q5 Z h0 d kd cs) ck sk T (mkF m 3 #[.val (.ref b), .val (.int (Int32.ofNat k)), .val (.ref d), .val (.int (Int32.ofNat k)), .val (.int (Int32.ofNat cs.length)), .val (.int (Int32.ofNat k)), s6] [])
  | 0, k, hk, _, T, locs, h, s6, W, A, B, S, K, hsm, h6 => by
    have hkl : k = cs.length := by omega
    subst hkl
    refine oGo W [.iload 5, .iload 4] (by decide +kernel) (ls' := #[.val (.ref b), .val (.int (Int32.ofNat cs.length)), .val (.ref d), .val (.int (Int32.ofNat cs.length)), .val (.int (Int32.ofNat cs.length)), .val (.int (Int32.ofNat cs.length)), s6]) (st' := [.int (Int32.ofNat cs.length), .int (Int32.ofNat cs.length)]) rfl rfl (pc' := 7) rfl ?_
    refine oIcT W (cd := .ge) (o := 37) (by decide +kernel) (XT.ii_ge_t (fun q => Int32.lt_irrefl q)) (pc' := 44) (by decide) (by decide) ?_
    refine oGo W [.iload 4] (by decide +kernel) (ls' := #[.val (.ref b), .val (.int (Int32.ofNat cs.length)), .val (.ref d), .val (.int (Int32.ofNat cs.length)), .val (.int (Int32.ofNat cs.length)), .val (.int (Int32.ofNat cs.length)), s6]) (st' := [.int (Int32.ofNat cs.length)]) rfl rfl (pc' := 46) rfl ?_
    rw [List.take_length] at hsm B
    have hb := bigAt_all hsm
    exact oRetI W (by decide +kernel) (Nat.zero_le _) (Nat.zero_le _) (fun _ _ => ⟨by rw [hb], K, fun _ => by simpa using B⟩)
  | r + 1, k, hk, _, T, locs, h, s6, W, A, B, S, K, hsm, h6 => by
    have hlt : k < cs.length := by omega
    refine oGo W [.iload 5, .iload 4] (by decide +kernel) (ls' := #[.val (.ref b), .val (.int (Int32.ofNat k)), .val (.ref d), .val (.int (Int32.ofNat k)), .val (.int (Int32.ofNat cs.length)), .val (.int (Int32.ofNat k)), s6]) (st' := [.int (Int32.ofNat cs.length), .int (Int32.ofNat k)]) rfl rfl (pc' := 7) rfl ?_
    refine oIcF W (cd := .ge) (o := 37) (by decide +kernel) (XT.ii_ge_f ((n_lt (by omega) hl).mpr hlt)) (pc' := 10) rfl ?_
    refine oGo W [.aload_n 0, .iload_n 1] (by decide +kernel) (ls' := #[.val (.ref b), .val (.int (Int32.ofNat k)), .val (.ref d), .val (.int (Int32.ofNat k)), .val (.int (Int32.ofNat cs.length)), .val (.int (Int32.ofNat k)), s6]) (st' := [.int (Int32.ofNat k), .ref b]) rfl rfl (pc' := 12) rfl ?_
    refine oGet W A (n_nn (by omega)) (v := .int cs[k]) (by rw [n_cl (by omega)]; simp [hlt]) (Or.inl ⟨rfl, rfl⟩) (by decide +kernel) ?_
    have go6 : OG p e below s Z EL nb (Q5 Z h0 d kd cs) ck sk T (mkF m 20 #[.val (.ref b), .val (.int (Int32.ofNat k)), .val (.ref d), .val (.int (Int32.ofNat k)), .val (.int (Int32.ofNat cs.length)), .val (.int (Int32.ofNat k)), .val (.int cs[k])] [.int (255 : Int32), .int cs[k]]) := by
      by_cases hc : (255 : Int32) < cs[k]
      · refine oIcF W (cd := .le) (o := 6) (by decide +kernel) (XT.ii_le_f hc) (pc' := 23) rfl ?_
        refine oGo W [.iload 5] (by decide +kernel) (ls' := #[.val (.ref b), .val (.int (Int32.ofNat k)), .val (.ref d), .val (.int (Int32.ofNat k)), .val (.int (Int32.ofNat cs.length)), .val (.int (Int32.ofNat k)), .val (.int cs[k])]) (st' := [.int (Int32.ofNat k)]) rfl rfl (pc' := 25) rfl ?_
        have hb := bigAt_at hlt hsm hc
        exact oRetI W (by decide +kernel) (Nat.zero_le _) (Nat.zero_le _) (fun _ _ => ⟨by rw [hb], K, fun q => absurd (hb.symm.trans q) (by omega)⟩)
      · refine oIcT W (cd := .le) (o := 6) (by decide +kernel) (XT.ii_le_t hc) (pc' := 26) (by decide) (by decide) ?_
        refine oGo W [.aload_n 2, .iload_n 3, .iload 6, .i2b] (by decide +kernel) (ls' := #[.val (.ref b), .val (.int (Int32.ofNat k)), .val (.ref d), .val (.int (Int32.ofNat k)), .val (.int (Int32.ofNat cs.length)), .val (.int (Int32.ofNat k)), .val (.int cs[k])]) (st' := [.int (cs[k].toInt8.toInt32), .int (Int32.ofNat k), .ref d]) rfl rfl (pc' := 31) rfl ?_
        obtain ⟨T1, h1, W1, Wr1, B1, C1, st1⟩ := oPut W B (j := Int32.ofNat k) (pc := 31) (ls := #[.val (.ref b), .val (.int (Int32.ofNat k)), .val (.ref d), .val (.int (Int32.ofNat k)), .val (.int (Int32.ofNat cs.length)), .val (.int (Int32.ofNat k)), .val (.int cs[k])]) (st := []) (n_nn (by omega)) (i := k) (n_cl (by omega)) (by simp; omega) hdf S (ins := .bastore) (Or.inr (Or.inl ⟨rfl, rfl, nar_b _⟩)) (by decide +kernel)
        refine oLift st1 ?_
        refine oGo W1 [.iinc 1 1, .iinc 3 1, .iinc 5 1, .goto (-38)] (by decide +kernel) (ls' := #[.val (.ref b), .val (.int (Int32.ofNat k + 1)), .val (.ref d), .val (.int (Int32.ofNat k + 1)), .val (.int (Int32.ofNat cs.length)), .val (.int (Int32.ofNat k + 1)), .val (.int cs[k])]) (st' := []) rfl rfl (pc' := 3) rfl ?_
        rw [n_in]
        rw [set_step hk hlt] at B1
        refine k_C5_loop hl hbd hdf r (k + 1) (by omega) W1 (A.other Wr1 hbd) B1 (C1.safe B.lt S) (K.wr Wr1 (Or.inl (List.mem_singleton.mpr rfl))) ?_ (Or.inr ⟨_, rfl⟩)
        intro c hcm
        rw [List.take_succ_eq_append_getElem hlt, List.mem_append, List.mem_singleton] at hcm
        rcases hcm with hcm | rfl
        · exact hsm c hcm
        · exact hc
    rcases h6 with rfl | ⟨x, rfl⟩
    · exact oGo W [.istore 6, .iload 6, .sipush 255] (by decide +kernel) (ls' := #[.val (.ref b), .val (.int (Int32.ofNat k)), .val (.ref d), .val (.int (Int32.ofNat k)), .val (.int (Int32.ofNat cs.length)), .val (.int (Int32.ofNat k)), .val (.int cs[k])]) (st' := [.int (255 : Int32), .int cs[k]]) rfl rfl (pc' := 20) rfl go6
    · exact oGo W [.istore 6, .iload 6, .sipush 255] (by decide +kernel) (ls' := #[.val (.ref b), .val (.int (Int32.ofNat k)), .val (.ref d), .val (.int (Int32.ofNat k)), .val (.int (Int32.ofNat cs.length)), .val (.int (Int32.ofNat k)), .val (.int cs[k])]) (st' := [.int (255 : Int32), .int cs[k]]) rfl rfl (pc' := 20) rfl go6
theorem k_C5 (hE : EW Z a0 EL) {b d : Addr} {kb kd : ClassId} {cs : List Int32} (hl : cs.length < 2147483648) (hbd : b ≠ d) (hdf : Z.heap.size ≤ d) (A : OA Z h0 b kb .char (cs.map Value.int)) (B : OA Z h0 d kd .byte (List.replicate cs.length (.int 0))) :
    OC l Z EL nb [] mC5 jdk_52_method_21_code 7 (some .int) rm0 #[.ref b, .int 0, .ref d, .int 0, .int (Int32.ofNat cs.length)] h0 [d] (Q5 Z h0 d kd cs) := by
  refine oEnter (by decide +kernel) hE ?_
  intro p e s m below meth c T0 W0 S0
  refine oEq (g' := mkF m 0 #[.val (.ref b), .val (.int 0), .val (.ref d), .val (.int 0), .val (.int (Int32.ofNat cs.length)), .unset, .unset] []) (by first | (simp [entryFrame, mkF, argsToLocals, Value.category]; done) | rfl) ?_
  refine oGo W0 [.iconst 0, .istore 5] (by decide +kernel) (ls' := #[.val (.ref b), .val (.int 0), .val (.ref d), .val (.int 0), .val (.int (Int32.ofNat cs.length)), .val (.int 0), .unset]) (st' := []) rfl rfl (pc' := 3) rfl ?_
  exact k_C5_loop hl hbd hdf cs.length 0 (by omega) W0 A (by simpa using B) (S0 d (List.mem_singleton.mpr rfl)) (Keep.refl _ _) (by simp) (Or.inl rfl)
abbrev rmC3 (n : Nat) : Room := { frames := 1, cells := 1, slots := n, locals := 18 }
theorem k_C3 (K : SC Z a0 EL) {b : Addr} {kb : ClassId} {cs : List Int32} (hl : cs.length ≤ 4000) (A : OA Z h0 b kb .char (cs.map Value.int)) (hsm : ∀ c ∈ cs, ¬ (255 : Int32) < c) :
    OC l Z EL nb [] mC3 jdk_52_method_16_code 6 (some (.array .byte)) (rmC3 cs.length) #[.ref b, .int 0, .int (Int32.ofNat cs.length)] h0 [] (fun v _ h => ∃ d k, v = some (.ref d) ∧ h0.size ≤ d ∧ Ext h0 h ∧ OA Z h d k .byte (cs.map fun c => Value.int c.toInt8.toInt32)) := by
  have hs := K.1
  refine oEnter (by decide +kernel) K.2.1 ?_
  intro p e s m below meth c T0 W0 _
  refine oEq (g' := mkF m 0 #[.val (.ref b), .val (.int 0), .val (.int (Int32.ofNat cs.length)), .unset, .unset, .unset] []) (by first | (simp [entryFrame, mkF, argsToLocals, Value.category]; done) | rfl) ?_
  refine oGo W0 [.iload_n 2] (by decide +kernel) (ls' := #[.val (.ref b), .val (.int 0), .val (.int (Int32.ofNat cs.length)), .unset, .unset, .unset]) (st' := [.int (Int32.ofNat cs.length)]) rfl rfl (pc' := 1) rfl ?_
  have hcl : (Int32.ofNat cs.length).toNatClampNeg = cs.length := n_cl (by omega)
  obtain ⟨T1, h1, d, kd, W1, g1, E1, B1, S1, C1, st1⟩ := oNewA W0 (aty := .byte) (pc := 1) (ls := #[.val (.ref b), .val (.int 0), .val (.int (Int32.ofNat cs.length)), .unset, .unset, .unset]) (st := []) (hs _ (List.mem_of_getElem? (i := 11) rfl)) (by decide +kernel) (n := Int32.ofNat cs.length) (n_nn (by omega)) (cap := cs.length) (by rw [hcl]; exact Nat.le_refl _) (by omega) (lb rfl) (by show 0 + cs.length ≤ cs.length; omega)
  refine oLift st1 ?_
  rw [hcl] at B1
  refine oGo W1 [.astore_n 3, .aload_n 0, .iload_n 1, .aload_n 3, .iconst 0, .iload_n 2] (by decide +kernel) (ls' := #[.val (.ref b), .val (.int 0), .val (.int (Int32.ofNat cs.length)), .val (.ref d), .unset, .unset]) (st' := [.int (Int32.ofNat cs.length), .int 0, .ref d, .int 0, .ref b]) rfl rfl (pc' := 9) rfl ?_
  have hbd : b ≠ d := Nat.ne_of_lt (Nat.lt_of_lt_of_le A.lt g1)
  obtain ⟨v2, T2, L2, h2, vm2, W2, ⟨rfl, K2, B2⟩, C2, st2⟩ := oCallS W1 (idx := 115) (pc := 9) (ls := #[.val (.ref b), .val (.int 0), .val (.int (Int32.ofNat cs.length)), .val (.ref d), .unset, .unset]) (st := []) (argsL := [.ref b, .int 0, .ref d, .int 0, .int (Int32.ofNat cs.length)]) (k_C5 (h0 := h1) K.2.1 (by omega) hbd (Nat.le_trans W0.ext.1 g1) (A.ext E1) B1)
    (fun x hx => by cases List.mem_singleton.mp hx; exact ⟨B1.lt, S1⟩) (hs _ (List.mem_of_getElem? (i := 12) rfl)) (hs _ (List.mem_of_getElem? (i := 13) rfl)) (hs _ (List.mem_of_getElem? (i := 9) rfl)) (hs _ (List.mem_of_getElem? (i := 14) rfl)) (by decide) (na := 5) rfl (by decide +kernel) rfl (stk := [.int (Int32.ofNat cs.length), .int 0, .ref d, .int 0, .ref b]) rfl (by decide +kernel) (V := 0) (lb rfl) (lb rfl) (lb rfl) (lb rfl) (by show 0 + cs.length + 0 ≤ cs.length; omega)
  refine oLift st2 ?_
  have hb := bigAt_all hsm
  rw [hb]
  refine oGo W2 [.istore 4, .iload 4, .iload_n 2] (by decide +kernel) (ls' := #[.val (.ref b), .val (.int 0), .val (.int (Int32.ofNat cs.length)), .val (.ref d), .val (.int (Int32.ofNat cs.length)), .unset]) (st' := [.int (Int32.ofNat cs.length), .int (Int32.ofNat cs.length)]) rfl rfl (pc' := 17) rfl ?_
  refine oIcT W2 (cd := .eq) (o := 40) (by decide +kernel) (XT.ii_eq_t rfl) (pc' := 57) (by decide) (by decide) ?_
  refine oGo W2 [.aload_n 3] (by decide +kernel) (ls' := #[.val (.ref b), .val (.int 0), .val (.int (Int32.ofNat cs.length)), .val (.ref d), .val (.int (Int32.ofNat cs.length)), .unset]) (st' := [.ref d]) rfl rfl (pc' := 58) rfl ?_
  exact oRetA rfl W2 rfl rfl (by decide +kernel) (lb rfl) (by show 0 + cs.length + 0 ≤ cs.length; omega) (fun _ _ => ⟨d, kd, rfl, g1, exK E1 K2 (fun x hx => by cases List.mem_singleton.mp hx; exact g1), B2 hb⟩)
theorem slots_vc (K : SC Z a0 EL) : RoadKit.slotOf Z "java/lang/String" "coder" "B" ≠ RoadKit.slotOf Z "java/lang/String" "value" "[B" :=
  slot_ne (a0 := a0) (C := "java/lang/String") (Or.inr (K.1 _ (List.mem_of_getElem? (i := 19) rfl))) (Or.inr (K.1 _ (List.mem_of_getElem? (i := 21) rfl))) (by decide) (t := .byte) (t' := .array .byte) (by decide) (by decide)
abbrev rmI4 (n : Nat) : Room := { frames := 2, cells := 1, slots := n, locals := 35 }
theorem k_I4 (K : SC Z a0 EL) {x b : Addr} {kb : ClassId} {cs : List Int32} {v0 c0 : Value} (hl : cs.length ≤ 4000) (hl0 : 0 < cs.length) (A : OA Z h0 b kb .char (cs.map Value.int)) (hsm : ∀ c ∈ cs, ¬ c < 0 ∧ ¬ (255 : Int32) < c) (hxf : Z.heap.size ≤ x) (E : Exa Z h0 x "java/lang/String") (Fc : Fld Z h0 x "java/lang/String" "coder" "B" c0) (Fv : Fld Z h0 x "java/lang/String" "value" "[B" v0) :
    OC l Z EL nb [] mI4 jdk_42_method_149_code 6 none (rmI4 cs.length) #[.ref x, .ref b, .int 0, .int (Int32.ofNat cs.length), .null] h0 [x] (fun v _ h => v = none ∧ Keep h0 h [x] ∧ Str Z h x cs) := by
  have hs := K.1
  obtain ⟨z, hz, hz0⟩ := K.2.2
  refine oEnter (by decide +kernel) K.2.1 ?_
  intro p e s m below meth c T0 W0 S0
  refine oEq (g' := mkF m 0 #[.val (.ref x), .val (.ref b), .val (.int 0), .val (.int (Int32.ofNat cs.length)), .val .null, .unset] []) (by first | (simp [entryFrame, mkF, argsToLocals, Value.category]; done) | rfl) ?_
  refine oGo W0 [.aload_n 0] (by decide +kernel) (ls' := #[.val (.ref x), .val (.ref b), .val (.int 0), .val (.int (Int32.ofNat cs.length)), .val .null, .unset]) (st' := [.ref x]) rfl rfl (pc' := 1) rfl ?_
  obtain ⟨T1, W1, st1⟩ := oInit W0 (idx := 1) (pc := 1) (ls := #[.val (.ref x), .val (.ref b), .val (.int 0), .val (.int (Int32.ofNat cs.length)), .val .null, .unset]) (st := []) (a := x) (hs _ (List.mem_of_getElem? (i := 3) rfl)) (hs _ (List.mem_of_getElem? (i := 4) rfl)) (hs _ (List.mem_of_getElem? (i := 5) rfl)) rfl (by decide +kernel) (lb rfl) (V := 0) (lb rfl) (lb rfl)
  refine oLift st1 ?_
  refine oGo W1 [.iload_n 3] (by decide +kernel) (ls' := #[.val (.ref x), .val (.ref b), .val (.int 0), .val (.int (Int32.ofNat cs.length)), .val .null, .unset]) (st' := [.int (Int32.ofNat cs.length)]) rfl rfl (pc' := 5) rfl ?_
  have hn0 : ¬ Int32.ofNat cs.length = 0 := fun q => by
    have := congrArg Int32.toNatClampNeg q
    rw [n_cl (by omega)] at this
    exact absurd this (by show ¬ cs.length = 0; omega)
  refine oIfT W1 (cd := .ne) (o := 22) (by decide +kernel) (XT.i0_ne_t hn0) (pc' := 27) (by decide) (by decide) ?_
  obtain ⟨T2, W2, st2⟩ := oGetS W1 (pc := 27) (ls := #[.val (.ref x), .val (.ref b), .val (.int 0), .val (.int (Int32.ofNat cs.length)), .val .null, .unset]) (st := []) (hs _ (List.mem_of_getElem? (i := 6) rfl)) Via.refl (hz.ext W1.ext) (by decide +kernel)
  refine oLift st2 ?_
  refine oIfF W2 (cd := .eq) (o := 28) (by decide +kernel) (XT.i0_eq_f hz0) (pc' := 33) rfl ?_
  refine oGo W2 [.aload_n 1, .iload_n 2, .iload_n 3] (by decide +kernel) (ls' := #[.val (.ref x), .val (.ref b), .val (.int 0), .val (.int (Int32.ofNat cs.length)), .val .null, .unset]) (st' := [.int (Int32.ofNat cs.length), .int 0, .ref b]) rfl rfl (pc' := 36) rfl ?_
  obtain ⟨v3, T3, L3, h3, vm3, W3, ⟨d, kd, rfl, g3, E3, B3⟩, C3, st3⟩ := oCallS W2 (idx := 177) (pc := 36) (ls := #[.val (.ref x), .val (.ref b), .val (.int 0), .val (.int (Int32.ofNat cs.length)), .val .null, .unset]) (st := []) (argsL := [.ref b, .int 0, .int (Int32.ofNat cs.length)]) (k_C3 (h0 := h0) K hl A (fun c hc => (hsm c hc).2))
    (fun x hx => nomatch hx) (hs _ (List.mem_of_getElem? (i := 7) rfl)) (hs _ (List.mem_of_getElem? (i := 8) rfl)) (hs _ (List.mem_of_getElem? (i := 9) rfl)) (hs _ (List.mem_of_getElem? (i := 10) rfl)) (by decide) (na := 3) rfl (by decide +kernel) rfl (stk := [.int (Int32.ofNat cs.length), .int 0, .ref b]) rfl (by decide +kernel) (V := 0) (lb rfl) (lb rfl) (lb rfl) (lb rfl) (by show 0 + cs.length ≤ cs.length; omega)
  refine oLift st3 ?_
  refine oGo W3 [.astore 5, .aload_n 0, .aload 5, .iload_n 3] (by decide +kernel) (ls' := #[.val (.ref x), .val (.ref b), .val (.int 0), .val (.int (Int32.ofNat cs.length)), .val .null, .val (.ref d)]) (st' := [.int (Int32.ofNat cs.length), .ref d, .ref x]) rfl rfl (pc' := 45) rfl ?_
  obtain ⟨v4, T4, L4, h4, vm4, W4, ⟨rfl, e4⟩, C4, st4⟩ := oCallS W3 (idx := 47) (pc := 45) (ls := #[.val (.ref x), .val (.ref b), .val (.int 0), .val (.int (Int32.ofNat cs.length)), .val .null, .val (.ref d)]) (st := [.ref x]) (argsL := [.ref d, .int (Int32.ofNat cs.length)]) (k_CL (h0 := h3) K.2.1 B3)
    (fun x hx => nomatch hx) (hs _ (List.mem_of_getElem? (i := 15) rfl)) (hs _ (List.mem_of_getElem? (i := 16) rfl)) (hs _ (List.mem_of_getElem? (i := 9) rfl)) (hs _ (List.mem_of_getElem? (i := 17) rfl)) (by decide) (na := 2) rfl (by decide +kernel) rfl (stk := [.int (Int32.ofNat cs.length), .ref d, .ref x]) rfl (by decide +kernel) (V := 1) (lb rfl) (lb rfl) (lb rfl) (lb rfl) (by show 0 + cs.length + 0 ≤ cs.length; omega)
  refine oLift st4 ?_
  subst e4
  have hc0 : (XT.ushr (Int32.ofNat cs.length - (cs.map fun c : Int32 => Value.int c.toInt8.toInt32).length.toInt32) (31 : Int32)).toInt8.toInt32 = 0 := by
    rw [List.length_map]
    show (XT.ushr (Int32.ofNat cs.length - Int32.ofNat cs.length) (31 : Int32)).toInt8.toInt32 = 0
    rw [Int32.sub_self]; decide
  rw [hc0]
  have S4 : Safe Z EL vm4 h4 x := C4.safe (E.ext E3).lt (C3.safe E.lt (S0 x (List.mem_singleton.mpr rfl)))
  obtain ⟨T5, h5, W5, Wr5, Fc5, E5, C5, st5⟩ := oPutF W4 (idx := 15) (pc := 48) (ls := #[.val (.ref x), .val (.ref b), .val (.int 0), .val (.int (Int32.ofNat cs.length)), .val .null, .val (.ref d)]) (st := []) (v := .int 0) (hs _ (List.mem_of_getElem? (i := 18) rfl)) Via.refl (Fc.ext E3) (E.ext E3) (Or.inr ⟨hs _ (List.mem_of_getElem? (i := 19) rfl), rfl, rfl⟩) (hs _ (List.mem_of_getElem? (i := 23) rfl)) (ty := .byte) (by decide) rfl rfl hxf S4 (by decide +kernel)
  refine oLift st5 ?_
  refine oGo W5 [.aload_n 0, .aload 5] (by decide +kernel) (ls' := #[.val (.ref x), .val (.ref b), .val (.int 0), .val (.int (Int32.ofNat cs.length)), .val .null, .val (.ref d)]) (st' := [.ref d, .ref x]) rfl rfl (pc' := 54) rfl ?_
  have hdx : d ≠ x := Nat.ne_of_gt (Nat.lt_of_lt_of_le E.lt g3)
  obtain ⟨T6, h6, W6, Wr6, Fv6, E6, C6, st6⟩ := oPutF W5 (idx := 9) (pc := 54) (ls := #[.val (.ref x), .val (.ref b), .val (.int 0), .val (.int (Int32.ofNat cs.length)), .val .null, .val (.ref d)]) (st := []) (v := .ref d) (hs _ (List.mem_of_getElem? (i := 20) rfl)) Via.refl ((Fv.ext E3).other Wr5 (Or.inr (Ne.symm (slots_vc K)))) E5 (Or.inr ⟨hs _ (List.mem_of_getElem? (i := 21) rfl), rfl, rfl⟩) (hs _ (List.mem_of_getElem? (i := 23) rfl)) (ty := .array .byte) (by decide) rfl rfl hxf (C5.safe (E.ext E3).lt S4) (by decide +kernel)
  refine oLift st6 ?_
  exact oRet0 W6 (by decide +kernel) (lb rfl) (by show 0 + cs.length + 0 ≤ cs.length; omega) (fun _ _ => ⟨rfl, (((Keep.refl h0 [x]).ext E3).wr Wr5 (Or.inl (List.mem_singleton.mpr rfl))).wr Wr6 (Or.inl (List.mem_singleton.mpr rfl)),
    d, kd, E6, Fc5.other Wr6 (Or.inr (slots_vc K)), Fv6, (B3.other Wr5 hdx).other Wr6 hdx, hsm⟩)
abbrev rmI1 (n : Nat) : Room := { frames := 3, cells := 1, slots := n, locals := 52 }
/-- new String(char[]): one to 4,000 chars of 0 to 255 -/
theorem k_I1 (K : SC Z a0 EL) {x b : Addr} {kb : ClassId} (cs : List Int32) {v0 c0 : Value} (hl : cs.length ≤ 4000) (hl0 : 0 < cs.length) (A : OA Z h0 b kb .char (cs.map Value.int)) (hsm : ∀ c ∈ cs, ¬ c < 0 ∧ ¬ (255 : Int32) < c) (hxf : Z.heap.size ≤ x) (E : Exa Z h0 x "java/lang/String") (Fc : Fld Z h0 x "java/lang/String" "coder" "B" c0) (Fv : Fld Z h0 x "java/lang/String" "value" "[B" v0) :
    OC l Z EL nb [] mI1 jdk_42_method_3_code 2 none (rmI1 cs.length) #[.ref x, .ref b] h0 [x] (fun v _ h => v = none ∧ Keep h0 h [x] ∧ Str Z h x cs) := by
  have hs := K.1
  refine oEnter (by decide +kernel) K.2.1 ?_
  intro p e s m below meth c T0 W0 S0
  refine oEq (g' := mkF m 0 #[.val (.ref x), .val (.ref b)] []) (by first | (simp [entryFrame, mkF, argsToLocals, Value.category]; done) | rfl) ?_
  refine oGo W0 [.aload_n 0, .aload_n 1, .iconst 0, .aload_n 1] (by decide +kernel) (ls' := #[.val (.ref x), .val (.ref b)]) (st' := [.ref b, .int 0, .ref b, .ref x]) rfl rfl (pc' := 4) rfl ?_
  refine oLen W0 A (by decide +kernel) ?_
  rw [List.length_map]
  refine oGo W0 [.aconst_null] (by decide +kernel) (ls' := #[.val (.ref x), .val (.ref b)]) (st' := [.null, .int (Int32.ofNat cs.length), .int 0, .ref b, .ref x]) rfl rfl (pc' := 6) rfl ?_
  obtain ⟨v1, T1, L1, h1, vm1, W1, ⟨rfl, K1, F1⟩, C1, st1⟩ := oCallN W0 (idx := 27) (pc := 6) (ls := #[.val (.ref x), .val (.ref b)]) (st := []) (a := x) (argsL := [.ref b, .int 0, .int (Int32.ofNat cs.length), .null]) (k_I4 (h0 := h0) K hl hl0 A hsm hxf E Fc Fv)
    (fun y hy => by cases List.mem_singleton.mp hy; exact ⟨E.lt, S0 x (List.mem_singleton.mpr rfl)⟩) rfl (hs _ (List.mem_of_getElem? (i := 0) rfl)) (hs _ (List.mem_of_getElem? (i := 1) rfl)) (hs _ (List.mem_of_getElem? (i := 22) rfl)) (hs _ (List.mem_of_getElem? (i := 2) rfl)) (by decide) (na := 4) rfl (by decide +kernel) rfl (stk := [.null, .int (Int32.ofNat cs.length), .int 0, .ref b, .ref x]) rfl (by decide +kernel) (V := 0) (lb rfl) (lb rfl) (lb rfl) (lb rfl) (by show 0 + cs.length ≤ cs.length; omega)
  refine oLift st1 ?_
  exact oRet0 W1 (by decide +kernel) (lb rfl) (by show 0 + cs.length ≤ cs.length; omega) (fun _ _ => ⟨rfl, K1, F1⟩)
end OwnStr
end Jvm.Pilot.@@N@@
namespace Jvm.Pilot.@@N@@
open Jvm Jvm.ClassFile Sem Op Lib Jvm.Free Jvm.Stand Jvm.LawKit Jvm.RoadKit Bundle Jvm.Pilot.@@N@@.Jvm.D Jvm.OwnK
section OwnStrE
variable {l : Launch} {Z : State} {a0 : Array Value} {EL : List (String × Nat)} {h0 : Heap}
abbrev rmI4e : Room := { frames := 1, cells := 4, slots := 8, locals := 12 }
theorem k_I4e (K : SC Z a0 EL) (hS : ∀ a ∈ Bundle.stringAtoms, a.before a0 Z = true) (wl : (Jvm.Cond.stringLink "java/lang/String" 7 "").before a0 Z = true) (hm : ("java/lang/String", 7) ∈ EL) {x b : Addr} {v0 c0 : Value} (hxf : Z.heap.size ≤ x) (E : Exa Z h0 x "java/lang/String") (Fc : Fld Z h0 x "java/lang/String" "coder" "B" c0) (Fv : Fld Z h0 x "java/lang/String" "value" "[B" v0) :
    OC l Z EL false [] mI4 jdk_42_method_149_code 6 none rmI4e #[.ref x, .ref b, .int 0, .int 0, .null] h0 [x] (fun v _ h => v = none ∧ Keep h0 h [x] ∧ Str Z h x []) := by
  have hs := K.1
  refine oEnter (by decide +kernel) K.2.1 ?_
  intro p e s m below meth c T0 W0 S0
  refine oEq (g' := mkF m 0 #[.val (.ref x), .val (.ref b), .val (.int 0), .val (.int 0), .val .null, .unset] []) (by first | (simp [entryFrame, mkF, argsToLocals, Value.category]; done) | rfl) ?_
  refine oGo W0 [.aload_n 0] (by decide +kernel) (ls' := #[.val (.ref x), .val (.ref b), .val (.int 0), .val (.int 0), .val .null, .unset]) (st' := [.ref x]) rfl rfl (pc' := 1) rfl ?_
  obtain ⟨T1, W1, st1⟩ := oInit W0 (idx := 1) (pc := 1) (ls := #[.val (.ref x), .val (.ref b), .val (.int 0), .val (.int 0), .val .null, .unset]) (st := []) (a := x) (hs _ (List.mem_of_getElem? (i := 3) rfl)) (hs _ (List.mem_of_getElem? (i := 4) rfl)) (hs _ (List.mem_of_getElem? (i := 5) rfl)) rfl (by decide +kernel) (lb rfl) (V := 0) (lb rfl) (lb rfl)
  refine oLift st1 ?_
  refine oGo W1 [.iload_n 3] (by decide +kernel) (ls' := #[.val (.ref x), .val (.ref b), .val (.int 0), .val (.int 0), .val .null, .unset]) (st' := [.int 0]) rfl rfl (pc' := 5) rfl ?_
  refine oIfF W1 (cd := .ne) (o := 22) (by decide +kernel) (by decide) (pc' := 8) rfl ?_
  refine oGo W1 [.aload_n 0] (by decide +kernel) (ls' := #[.val (.ref x), .val (.ref b), .val (.int 0), .val (.int 0), .val .null, .unset]) (st' := [.ref x]) rfl rfl (pc' := 9) rfl ?_
  obtain ⟨a2, b2, k2, T2, h2, vm2, W2, E2, C2, x2, c2, u2, A2, st2⟩ := oLdcC W1 (pc := 9) (ls := #[.val (.ref x), .val (.ref b), .val (.int 0), .val (.int 0), .val .null, .unset]) (st := [.ref x]) wl hS hm (vs := []) (z := 0) (by decide +kernel) (by decide) (by decide) (by decide +kernel) (n := 0) (lb rfl) (lb rfl) (lb rfl) (lb rfl)
  refine oLift st2 ?_
  obtain ⟨T3, W3, st3⟩ := oGetF W2 (pc := 11) (ls := #[.val (.ref x), .val (.ref b), .val (.int 0), .val (.int 0), .val .null, .unset]) (st := [.ref x]) (hs _ (List.mem_of_getElem? (i := 20) rfl)) Via.refl u2 (by decide +kernel)
  refine oLift st3 ?_
  have S2 : Safe Z EL vm2 h2 x := C2.safe E.lt (S0 x (List.mem_singleton.mpr rfl))
  obtain ⟨T4, h4, W4, Wr4, Fv4, X4, C4, st4⟩ := oPutF W3 (idx := 9) (pc := 14) (ls := #[.val (.ref x), .val (.ref b), .val (.int 0), .val (.int 0), .val .null, .unset]) (st := []) (v := .ref b2) (hs _ (List.mem_of_getElem? (i := 20) rfl)) Via.refl (Fv.ext E2) (E.ext E2) (Or.inr ⟨hs _ (List.mem_of_getElem? (i := 21) rfl), rfl, rfl⟩) (hs _ (List.mem_of_getElem? (i := 23) rfl)) (ty := .array .byte) (by decide) rfl rfl hxf S2 (by decide +kernel)
  refine oLift st4 ?_
  refine oGo W4 [.aload_n 0] (by decide +kernel) (ls' := #[.val (.ref x), .val (.ref b), .val (.int 0), .val (.int 0), .val .null, .unset]) (st' := [.ref x]) rfl rfl (pc' := 18) rfl ?_
  obtain ⟨a5, b5, k5, T5, h5, vm5, W5, E5, C5, x5, c5, u5, A5, st5⟩ := oLdcC W4 (pc := 18) (ls := #[.val (.ref x), .val (.ref b), .val (.int 0), .val (.int 0), .val .null, .unset]) (st := [.ref x]) wl hS hm (vs := []) (z := 0) (by decide +kernel) (by decide) (by decide) (by decide +kernel) (n := 0) (lb rfl) (lb rfl) (lb rfl) (lb rfl)
  refine oLift st5 ?_
  obtain ⟨T6, W6, st6⟩ := oGetF W5 (pc := 20) (ls := #[.val (.ref x), .val (.ref b), .val (.int 0), .val (.int 0), .val .null, .unset]) (st := [.ref x]) (hs _ (List.mem_of_getElem? (i := 18) rfl)) Via.refl c5 (by decide +kernel)
  refine oLift st6 ?_
  have S5 : Safe Z EL vm5 h5 x := C5.safe X4.lt (C4.safe (E.ext E2).lt S2)
  obtain ⟨T7, h7, W7, Wr7, Fc7, X7, C7, st7⟩ := oPutF W6 (idx := 15) (pc := 23) (ls := #[.val (.ref x), .val (.ref b), .val (.int 0), .val (.int 0), .val .null, .unset]) (st := []) (v := .int 0) (hs _ (List.mem_of_getElem? (i := 18) rfl)) Via.refl (((Fc.ext E2).other Wr4 (Or.inr (slots_vc K))).ext E5) (X4.ext E5) (Or.inr ⟨hs _ (List.mem_of_getElem? (i := 19) rfl), rfl, rfl⟩) (hs _ (List.mem_of_getElem? (i := 23) rfl)) (ty := .byte) (by decide) rfl rfl hxf S5 (by decide +kernel)
  refine oLift st7 ?_
  have hbx : b2 ≠ x := A2.ne (E.ext E2) (hs _ (List.mem_of_getElem? (i := 23) rfl))
  exact oRet0 W7 (by decide +kernel) (lb rfl) (lb rfl) (fun _ _ => ⟨rfl, (((((Keep.refl h0 [x]).ext E2).wr Wr4 (Or.inl (List.mem_singleton.mpr rfl))).ext E5).wr Wr7 (Or.inl (List.mem_singleton.mpr rfl))),
    b2, k2, X7, Fc7, ((Fv4.ext E5).other Wr7 (Or.inr (Ne.symm (slots_vc K)))), (((A2.other Wr4 hbx).ext E5).other Wr7 hbx), by decide⟩)
abbrev rmI1e : Room := { frames := 2, cells := 4, slots := 8, locals := 29 }
/-- new String(new char[0]) -/
theorem k_I1e (K : SC Z a0 EL) (hS : ∀ a ∈ Bundle.stringAtoms, a.before a0 Z = true) (wl : (Jvm.Cond.stringLink "java/lang/String" 7 "").before a0 Z = true) (hm : ("java/lang/String", 7) ∈ EL) {x b : Addr} {kb : ClassId} {v0 c0 : Value} (A : OA Z h0 b kb .char []) (hxf : Z.heap.size ≤ x) (E : Exa Z h0 x "java/lang/String") (Fc : Fld Z h0 x "java/lang/String" "coder" "B" c0) (Fv : Fld Z h0 x "java/lang/String" "value" "[B" v0) :
    OC l Z EL false [] mI1 jdk_42_method_3_code 2 none rmI1e #[.ref x, .ref b] h0 [x] (fun v _ h => v = none ∧ Keep h0 h [x] ∧ Str Z h x []) := by
  have hs := K.1
  refine oEnter (by decide +kernel) K.2.1 ?_
  intro p e s m below meth c T0 W0 S0
  refine oEq (g' := mkF m 0 #[.val (.ref x), .val (.ref b)] []) (by first | (simp [entryFrame, mkF, argsToLocals, Value.category]; done) | rfl) ?_
  refine oGo W0 [.aload_n 0, .aload_n 1, .iconst 0, .aload_n 1] (by decide +kernel) (ls' := #[.val (.ref x), .val (.ref b)]) (st' := [.ref b, .int 0, .ref b, .ref x]) rfl rfl (pc' := 4) rfl ?_
  refine oLen W0 A (by decide +kernel) ?_
  refine oGo W0 [.aconst_null] (by decide +kernel) (ls' := #[.val (.ref x), .val (.ref b)]) (st' := [.null, .int 0, .int 0, .ref b, .ref x]) rfl rfl (pc' := 6) rfl ?_
  obtain ⟨v1, T1, L1, h1, vm1, W1, ⟨rfl, K1, F1⟩, C1, st1⟩ := oCallN W0 (idx := 27) (pc := 6) (ls := #[.val (.ref x), .val (.ref b)]) (st := []) (a := x) (argsL := [.ref b, .int 0, .int 0, .null]) (k_I4e (h0 := h0) K hS wl hm hxf E Fc Fv)
    (fun y hy => by cases List.mem_singleton.mp hy; exact ⟨E.lt, S0 x (List.mem_singleton.mpr rfl)⟩) rfl (hs _ (List.mem_of_getElem? (i := 0) rfl)) (hs _ (List.mem_of_getElem? (i := 1) rfl)) (hs _ (List.mem_of_getElem? (i := 22) rfl)) (hs _ (List.mem_of_getElem? (i := 2) rfl)) (by decide) (na := 4) rfl (by decide +kernel) rfl (stk := [.null, .int 0, .int 0, .ref b, .ref x]) rfl (by decide +kernel) (V := 0) (lb rfl) (lb rfl) (lb rfl) (lb rfl) (lb rfl)
  refine oLift st1 ?_
  exact oRet0 W1 (by decide +kernel) (lb rfl) (lb rfl) (fun _ _ => ⟨rfl, K1, F1⟩)
end OwnStrE
end Jvm.Pilot.@@N@@
namespace Jvm.Pilot.@@N@@
open Jvm Jvm.ClassFile Sem Op Lib Jvm.Free Jvm.Stand Jvm.LawKit Jvm.RoadKit Bundle Jvm.Pilot.@@N@@.Jvm.D Jvm.OwnK
abbrev EL : List (String × Nat) := [("java/lang/String", 7), ("java/lang/StringLatin1", 151)]
theorem sA_in : ∀ d ∈ Bundle.stringAtoms, d ∈ tables_1 := by decide +kernel
def atab : List Int32 := [1207963663, 1207963663, 1207963663, 1207963663, 1207963663, 1207963663, 1207963663, 1207963663, 1207963663, 1476411407, 1342193679, 1476411407, 1610629135, 1342193679, 1207963663, 1207963663, 1207963663, 1207963663, 1207963663, 1207963663, 1207963663, 1207963663, 1207963663, 1207963663, 1207963663, 1207963663, 1207963663, 1207963663, 1342193679, 1342193679, 1342193679, 1476411407, 1610629132, 1744830488, 1744830488, 671088664, 671113242, 671088664, 1744830488, 1744830488, -402653163, -402653162, 1744830488, 536870937, 939524120, 536870932, 939524120, 939524120, 402667017, 402667017, 402667017, 402667017, 402667017, 402667017, 402667017, 402667017, 402667017, 402667017, 939524120, 1744830488, -402653159, 1744830489, -402653159, 1744830488, 1744830488, 8552417, 8552417, 8552417, 8552417, 8552417, 8552417, 8552417, 8552417, 8552417, 8552417, 8552417, 8552417, 8552417, 8552417, 8552417, 8552417, 8552417, 8552417, 8552417, 8552417, 8552417, 8552417, 8552417, 8552417, 8552417, 8552417, -402653163, 1744830488, -402653162, 1744830491, 1744850967, 1744830491, 8486882, 8486882, 8486882, 8486882, 8486882, 8486882, 8486882, 8486882, 8486882, 8486882, 8486882, 8486882, 8486882, 8486882, 8486882, 8486882, 8486882, 8486882, 8486882, 8486882, 8486882, 8486882, 8486882, 8486882, 8486882, 8486882, -402653163, 1744830489, -402653162, 1744830489, 1207963663, 1207963663, 1207963663, 1207963663, 1207963663, 1207963663, 1342181391, 1207963663, 1207963663, 1207963663, 1207963663, 1207963663, 1207963663, 1207963663, 1207963663, 1207963663, 1207963663, 1207963663, 1207963663, 1207963663, 1207963663, 1207963663, 1207963663, 1207963663, 1207963663, 1207963663, 1207963663, 1207963663, 1207963663, 1207963663, 1207963663, 1207963663, 1207963663, 939524108, 1744830488, 671113242, 671113242, 671113242, 671113242, 1744830492, 1744830488, 1744830491, 1744830492, 28677, -402653155, 1744830489, 1207963664, 1744830492, 1744830491, 671088668, 671088665, 402654731, 402654731, 1744830491, 134049794, 1744830488, 1744830488, 1744830491, 402654475, 28677, -402653154, 1744832523, 1744832523, 1744832523, 1744830488, 8548353, 8548353, 8548353, 8548353, 8548353, 8548353, 8548353, 8548353, 8548353, 8548353, 8548353, 8548353, 8548353, 8548353, 8548353, 8548353, 8548353, 8548353, 8548353, 8548353, 8548353, 8548353, 8548353, 1744830489, 8548353, 8548353, 8548353, 8548353, 8548353, 8548353, 8548353, 134049794, 8482818, 8482818, 8482818, 8482818, 8482818, 8482818, 8482818, 8482818, 8482818, 8482818, 8482818, 8482818, 8482818, 8482818, 8482818, 8482818, 8482818, 8482818, 8482818, 8482818, 8482818, 8482818, 8482818, 1744830489, 8482818, 8482818, 8482818, 8482818, 8482818, 8482818, 8482818, 102592514]
def atn (n : Nat) : Int32 := atab.getD n 0
def Sx (Z : State) : Prop := ∃ v, Sta Z Z.heap "jdk/internal/util/Preconditions" "SIOOBE_FORMATTER" "Ljava/util/function/BiFunction;" v ∧ v.isRef = true
def Cd (Z : State) : Prop := ∃ u va kv vs, Sta Z Z.heap "java/lang/CharacterDataLatin1" "instance" "Ljava/lang/CharacterDataLatin1;" (.ref u) ∧ Exa Z Z.heap u "java/lang/CharacterDataLatin1" ∧ Sta Z Z.heap "java/lang/CharacterDataLatin1" "A" "[I" (.ref va) ∧ OA Z Z.heap va kv .int vs ∧ ∀ n, n < 256 → vs[n]? = some (.int (atn n))
def Ctx (Z : State) (a0 : Array Value) : Prop := (∀ d ∈ tables_1, d.before a0 Z = true) ∧ SC Z a0 EL ∧ (∀ a ∈ Bundle.stringAtoms, a.before a0 Z = true) ∧ Sx Z ∧ Cd Z
theorem wK {Z : State} {a0 : Array Value} (K : Ctx Z a0) (i : Nat) {d : Jvm.Cond} (h : tables_1[i]? = some d) : d.before a0 Z = true := K.1 d (List.mem_of_getElem? h)
theorem at_ix : ∀ n ∈ List.range 256, jdkStatics_1[17 + n]? = some (Jvm.Cond.eq (Jvm.Term.elem (Jvm.Term.static "java/lang/CharacterDataLatin1" "A" "[I") (Jvm.Term.int (Int32.ofNat n))) (Jvm.Term.int (atn n))) := by decide +kernel
theorem at_in (n : Nat) (hn : n ∈ List.range 256) : (Jvm.Cond.eq (Jvm.Term.elem (Jvm.Term.static "java/lang/CharacterDataLatin1" "A" "[I") (Jvm.Term.int (Int32.ofNat n))) (Jvm.Term.int (atn n))) ∈ jdkStatics_1 := List.mem_of_getElem? (at_ix n hn)
def Ws (c : Int32) : Prop := c = 32 ∨ (¬ c < 9 ∧ ¬ (13 : Int32) < c) ∨ (¬ c < 28 ∧ ¬ (31 : Int32) < c)
instance (c : Int32) : Decidable (Ws c) := by unfold Ws; infer_instance
def fld (c : Int32) : Int32 := if ¬ c < 65 ∧ ¬ (90 : Int32) < c then c + 32 else if ¬ c < 192 ∧ ¬ (222 : Int32) < c ∧ ¬ c = 215 then c + 32 else c
def Uc (c : Int32) : Int32 := c.toInt8.toInt32 &&& 223
def Cn (u : Int32) : Prop := ¬ u < 65 ∧ (¬ (90 : Int32) < u ∨ (¬ u < 192 ∧ ¬ (222 : Int32) < u ∧ ¬ u = 215))
instance (c : Int32) : Decidable (Cn c) := by unfold Cn; infer_instance
theorem tabs : ∀ n ∈ List.range 256, ((atn n &&& 28672) = 16384 ↔ Ws (Int32.ofNat n)) := by decide +kernel
theorem fold1 : ∀ n ∈ List.range 256, (Cn (Uc (Int32.ofNat n)) → fld (Int32.ofNat n) = Uc (Int32.ofNat n) + 32 ∧ Cn (Uc (fld (Int32.ofNat n)))) ∧ (¬ Cn (Uc (Int32.ofNat n)) → fld (Int32.ofNat n) = Int32.ofNat n) := by decide +kernel
theorem lo_nat {c : Int32} (h : ¬ c < 0 ∧ ¬ (255 : Int32) < c) : Int32.ofNat c.toNatClampNeg = c ∧ c.toNatClampNeg < 256 := by
  have e := (back32 h.1).1
  refine ⟨e, ?_⟩
  have h1 := h.1
  have h2 := h.2
  rw [Int32.lt_iff_toInt_lt] at h1 h2
  have k0 : (0 : Int32).toInt = 0 := rfl
  have k1 : (255 : Int32).toInt = 255 := rfl
  rw [k0] at h1
  rw [k1] at h2
  rw [← Int32.toNat_toInt]
  omega
theorem ws_tab {c : Int32} (h : ¬ c < 0 ∧ ¬ (255 : Int32) < c) : (atn c.toNatClampNeg &&& 28672) = 16384 ↔ Ws c := by
  have q := tabs _ (List.mem_range.mpr (lo_nat h).2)
  rwa [(lo_nat h).1] at q
theorem fold2 {c : Int32} (h : ¬ c < 0 ∧ ¬ (255 : Int32) < c) : (Cn (Uc c) → fld c = Uc c + 32 ∧ Cn (Uc (fld c))) ∧ (¬ Cn (Uc c) → fld c = c) := by
  have q := fold1 _ (List.mem_range.mpr (lo_nat h).2)
  rwa [(lo_nat h).1] at q
theorem add_inj {a b : Int32} (h : a + 32 = b + 32) : a = b := by
  have := congrArg (· - (32 : Int32)) h
  simpa [Int32.add_sub_cancel] using this
theorem ci_1 {a b : Int32} (ha : ¬ a < 0 ∧ ¬ (255 : Int32) < a) (hb : ¬ b < 0 ∧ ¬ (255 : Int32) < b) (hc : Cn (Uc a)) (he : Uc a = Uc b) : fld a = fld b := by
  rw [((fold2 ha).1 hc).1, ((fold2 hb).1 (he ▸ hc)).1, he]
theorem ci_0 {a b : Int32} (ha : ¬ a < 0 ∧ ¬ (255 : Int32) < a) (hb : ¬ b < 0 ∧ ¬ (255 : Int32) < b) (hne : ¬ a = b) (h : ¬ (Cn (Uc a) ∧ Uc a = Uc b)) : ¬ fld a = fld b := by
  intro q
  by_cases ca : Cn (Uc a)
  · by_cases cb : Cn (Uc b)
    · exact h ⟨ca, add_inj (by rw [← ((fold2 ha).1 ca).1, ← ((fold2 hb).1 cb).1]; exact q)⟩
    · have := ((fold2 ha).1 ca).2
      rw [q, (fold2 hb).2 cb] at this
      exact cb this
  · by_cases cb : Cn (Uc b)
    · have := ((fold2 hb).1 cb).2
      rw [← q, (fold2 ha).2 ca] at this
      exact ca this
    · rw [(fold2 ha).2 ca, (fold2 hb).2 cb] at q
      exact hne q
def ess : List Int32 → List Int32
  | [] => []
  | c :: cs => if c = 59 then [] else c :: ess cs
def lw : List Int32 → Nat
  | [] => 0
  | c :: cs => if Ws c then lw cs + 1 else 0
def rst : List Int32 → List Int32
  | [] => []
  | c :: cs => if rst cs = [] ∧ Ws c then [] else c :: rst cs
def strp (cs : List Int32) : List Int32 := (cs.drop (lw cs)).take ((rst cs).length - lw cs)
def Nm (cs ds : List Int32) : Prop := (strp (ess cs)).map fld = ds.map fld
theorem lw_le : ∀ cs : List Int32, lw cs ≤ cs.length
  | [] => Nat.le_refl _
  | c :: cs => by
    by_cases h : Ws c
    · rw [lw, if_pos h]; exact Nat.succ_le_succ (lw_le cs)
    · rw [lw, if_neg h]; exact Nat.zero_le _
theorem rst_take : ∀ cs : List Int32, rst cs = cs.take (rst cs).length
  | [] => rfl
  | c :: cs => by
    by_cases h : rst cs = [] ∧ Ws c
    · rw [rst, if_pos h]; rfl
    · rw [rst, if_neg h]
      show c :: rst cs = c :: cs.take (rst cs).length
      rw [← rst_take cs]
theorem rst_le (cs : List Int32) : (rst cs).length ≤ cs.length := by
  have := congrArg List.length (rst_take cs)
  rw [List.length_take] at this
  omega
theorem lw_rst : ∀ cs : List Int32, lw cs < cs.length → lw cs < (rst cs).length
  | [], h => absurd h (Nat.lt_irrefl 0)
  | c :: cs, h => by
    by_cases w : Ws c
    · rw [lw, if_pos w] at h ⊢
      have q := lw_rst cs (Nat.lt_of_succ_lt_succ h)
      have n : ¬ (rst cs = [] ∧ Ws c) := fun z => by rw [z.1] at q; exact absurd q (Nat.not_lt_zero _)
      rw [rst, if_neg n]
      exact Nat.succ_lt_succ q
    · rw [lw, if_neg w, rst, if_neg (fun z => w z.2)]
      exact Nat.succ_pos _
theorem rst_snoc (c : Int32) : ∀ cs : List Int32, rst (cs ++ [c]) = if Ws c then rst cs else cs ++ [c]
  | [] => by
    show (if rst [] = [] ∧ Ws c then [] else c :: rst []) = _
    by_cases w : Ws c
    · rw [if_pos (⟨rfl, w⟩ : rst [] = [] ∧ Ws c), if_pos w]; rfl
    · rw [if_neg (fun z => w z.2), if_neg w]; rfl
  | d :: cs => by
    have q := rst_snoc c cs
    show rst (d :: (cs ++ [c])) = _
    rw [rst, q]
    by_cases w : Ws c
    · rw [if_pos w, if_pos w]; rfl
    · rw [if_neg w, if_neg w, if_neg (fun z => by simp at z)]; rfl
theorem strp_all {cs : List Int32} (h : lw cs = cs.length) : strp cs = [] := by
  rw [strp, h, List.drop_length]; simp
theorem strp_same {cs : List Int32} (h : lw cs = 0) (h2 : (rst cs).length = cs.length) : strp cs = cs := by
  rw [strp, h, h2]; simp
def ixf : List Int32 → Int32 → Nat → Int32
  | [], _, _ => -1
  | d :: ds, c, i => if d = c then Int32.ofNat i else ixf ds c (i + 1)
theorem cpy_all (xs : List Value) (z : Value) (o n : Nat) (h : o + n ≤ xs.length) : cpy (List.replicate n z) xs o 0 n = (xs.drop o).take n := by
  simp [cpy]
theorem sub_n {a b : Nat} (h : b ≤ a) : (Int32.ofNat a - Int32.ofNat b : Int32) = Int32.ofNat (a - b) := XT.sub32n h
theorem ofNat0 {n : Nat} (hn : n ≤ 4000) (h : Int32.ofNat n = 0) : n = 0 := by
  have := congrArg Int32.toNatClampNeg h
  rw [n_cl (by omega)] at this
  exact this
theorem ofNat_inj {a b : Nat} (ha : a ≤ 4000) (hb : b ≤ 4000) (h : Int32.ofNat a = Int32.ofNat b) : a = b := by
  have := congrArg Int32.toNatClampNeg h
  rwa [n_cl (by omega), n_cl (by omega)] at this
theorem lo8_inj {c d : Int32} (hc : ¬ c < 0 ∧ ¬ (255 : Int32) < c) (hd : ¬ d < 0 ∧ ¬ (255 : Int32) < d) (h : c.toInt8.toInt32 = d.toInt8.toInt32) : c = d := by
  have e1 := (c_i2b c).1
  have e2 := (c_i2b d).1
  rw [h] at e1
  simp only [Int32.lt_iff_toInt_lt] at hc hd
  have k0 : (0 : Int32).toInt = 0 := rfl
  have k1 : (255 : Int32).toInt = 255 := rfl
  rw [k0, k1] at hc hd
  apply Int32.toInt_inj.mp
  omega
theorem lo8_inj_map : ∀ {cs ds : List Int32}, (∀ c ∈ cs, ¬ c < 0 ∧ ¬ (255 : Int32) < c) → (∀ c ∈ ds, ¬ c < 0 ∧ ¬ (255 : Int32) < c) → cs.map (fun c => c.toInt8.toInt32) = ds.map (fun c => c.toInt8.toInt32) → cs = ds
  | [], [], _, _, _ => rfl
  | [], _ :: _, _, _, h => by simp at h
  | _ :: _, [], _, _, h => by simp at h
  | c :: cs, d :: ds, hc, hd, h => by
    simp only [List.map_cons, List.cons.injEq] at h
    rw [lo8_inj (hc c (List.mem_cons_self ..)) (hd d (List.mem_cons_self ..)) h.1, lo8_inj_map (fun c q => hc c (List.mem_cons_of_mem _ q)) (fun c q => hd c (List.mem_cons_of_mem _ q)) h.2]
theorem Str.uniq {Z : State} {h : Heap} {x : Addr} {cs ds : List Int32} (F : Str Z h x cs) (G : Str Z h x ds) : cs = ds := by
  obtain ⟨t, k, -, -, v1, A, p1⟩ := F
  obtain ⟨t', k', -, -, v2, B, p2⟩ := G
  have e : t = t' := by
    by_cases q : t = t'
    · exact q
    · exact absurd rfl (Fld.ne v1 v2 (fun r => q (by injection r)))
  subst e
  obtain ⟨n, d, ⟨c1, a1, -, s1, -, H1, -⟩, r1⟩ := A
  obtain ⟨n', d', ⟨c2, a2, -, s2, -, H2, -⟩, r2⟩ := B
  cases a1.1.symm.trans a2.1
  have hl : (cs.map fun c : Int32 => Value.int c.toInt8.toInt32).length = (ds.map fun c : Int32 => Value.int c.toInt8.toInt32).length := by rw [← r1, ← r2, ← s1, ← s2]
  have hm : (cs.map fun c : Int32 => Value.int c.toInt8.toInt32) = (ds.map fun c : Int32 => Value.int c.toInt8.toInt32) := by
    apply List.ext_getElem hl
    intro i h1 h2
    have q1 := H1 i (by rw [s1, r1]; exact h1)
    have q2 := H2 i (by rw [s2, r2]; exact h2)
    rw [q1] at q2
    rw [List.getD_eq_getElem?_getD, List.getD_eq_getElem?_getD, List.getElem?_eq_getElem h1, List.getElem?_eq_getElem h2] at q2
    exact Option.some.inj q2
  apply lo8_inj_map p1 p2
  have := congrArg (List.map fun v => match v with | Value.int z => z | _ => 0) hm
  simpa [List.map_map, Function.comp_def] using this
theorem Str.lo {Z : State} {h : Heap} {x : Addr} {cs : List Int32} (F : Str Z h x cs) : ∀ c ∈ cs, ¬ c < 0 ∧ ¬ (255 : Int32) < c := by obtain ⟨t, k, h1, h2, h3, h4, h5⟩ := F; exact h5
abbrev byt (cs : List Int32) : List Value := cs.map fun c => Value.int c.toInt8.toInt32
theorem add_n (a b : Nat) : (Int32.ofNat a + Int32.ofNat b : Int32) = Int32.ofNat (a + b) := XT.add32n a b
theorem EL_in : ∀ p ∈ EL, p ∈ consts_1 := by decide
theorem ix_ess : ∀ (cs : List Int32) (i : Nat), (ess cs = cs ∧ ixf cs 59 i = -1) ∨ ((ess cs).length < cs.length ∧ ixf cs 59 i = Int32.ofNat (i + (ess cs).length) ∧ ess cs = cs.take (ess cs).length)
  | [], i => Or.inl ⟨rfl, rfl⟩
  | c :: cs, i => by
    by_cases h : c = 59
    · refine Or.inr ⟨?_, ?_, ?_⟩
      · rw [ess, if_pos h]; exact Nat.succ_pos _
      · rw [ess, if_pos h, ixf, if_pos h]; rfl
      · rw [ess, if_pos h]; rfl
    · rw [ess, if_neg h, ixf, if_neg h]
      rcases ix_ess cs (i + 1) with q | ⟨q1, q2, q3⟩
      · exact Or.inl ⟨by rw [q.1], q.2⟩
      · refine Or.inr ⟨Nat.succ_lt_succ q1, ?_, ?_⟩
        · rw [q2, List.length_cons]; congr 1; omega
        · show c :: ess cs = c :: cs.take (ess cs).length
          rw [← q3]
theorem ess_len (cs : List Int32) : (ess cs).length ≤ cs.length := by
  rcases ix_ess cs 0 with q | q
  · rw [q.1]; exact Nat.le_refl _
  · exact Nat.le_of_lt q.1
theorem n_de (i : Nat) : (Int32.ofNat (i + 1) - (1 : Int32)) = Int32.ofNat i := by
  rw [show (1 : Int32) = Int32.ofNat 1 from rfl, sub_n (by omega)]; rfl
theorem n_dm (i : Nat) : (Int32.ofNat (i + 1) + (-1 : Int32)) = Int32.ofNat i := by
  exact (Int32.sub_eq_add_neg _ _).symm.trans (n_de i)
theorem m5 {y : Int32} (h : 0 ≤ y.toInt) : ∃ V : Nat, V ≤ 4 ∧ y % (5 : Int32) = Int32.ofNat V := by
  have e := (c_irem y 5 5 rfl).1 h
  refine ⟨(y % 5).toInt.toNat, by omega, ?_⟩
  apply Int32.toInt_inj.mp
  rw [Int32.toInt_ofNat_small (by omega)]
  omega
abbrev rm_c_coder : Room := { frames := 0, cells := 0, slots := 0, locals := 0 }
set_option maxRecDepth 65536 in
set_option maxHeartbeats 40000000 in
theorem c_coder {l : Launch} {Z : State} {a0 : Array Value} {nb : Bool} (K : Ctx Z a0) {x : Addr} {h0 : Heap} {n : Int32} (hn : nar .byte n = n) (F : Fld Z h0 x "java/lang/String" "coder" "B" (.int n)) :
    OC l Z EL nb [] (⟨"java/lang/String", "coder", "()B"⟩ : MethodName) jdk_42_method_152_code 1 (some .byte) rm_c_coder #[(.ref x)] h0 [] (fun v _ h => v = some (.int n) ∧ h = h0) := by
  have hw := K.1
  have hS : ∀ a ∈ Bundle.stringAtoms, a.before a0 Z = true := K.2.2.1
  obtain ⟨z, hz, hz0⟩ := K.2.1.2.2
  refine oEnter (by decide +kernel) K.2.1.2.1 ?_
  intro _p _e _s m _below _meth _c T0 W0 S0
  refine oEq (g' := mkF m 0 #[.val (.ref x)] []) (by first | (simp [entryFrame, mkF, argsToLocals, Value.category]; done) | rfl) ?_
  obtain ⟨T1, W1, st1⟩ := oGetS W0 (pc := 0) (ls := #[sR x]) (st := []) (wK K 18 rfl) Via.refl (hz.ext W0.ext) (by decide +kernel)
  refine oLift st1 ?_
  refine oIfF W1 (cd := .eq) (o := 10) (by decide +kernel) (XT.i0_eq_f hz0) (pc' := 6) rfl ?_
  refine oGo W1 [.aload_n 0] (by decide +kernel) (ls' := #[sR x]) (st' := [(.ref x)]) rfl rfl (pc' := 7) rfl ?_
  obtain ⟨T2, W2, st2⟩ := oGetF W1 (pc := 7) (ls := #[sR x]) (st := []) (wK K 30 rfl) Via.refl F (by decide +kernel)
  refine oLift st2 ?_
  refine oGo W2 [.goto 4] (by decide +kernel) (ls' := #[sR x]) (st' := [(.int n)]) rfl rfl (pc' := 14) rfl ?_
  exact oRetN (by simp) W2 hn (by decide +kernel) (lb rfl) (lb rfl) (fun vm' hv => ⟨rfl, rfl⟩)
abbrev rm_c_len : Room := { frames := 1, cells := 0, slots := 0, locals := 13 }
set_option maxRecDepth 65536 in
set_option maxHeartbeats 40000000 in
theorem c_len {l : Launch} {Z : State} {a0 : Array Value} {nb : Bool} (K : Ctx Z a0) {x : Addr} {cs : List Int32} {h0 : Heap} (F : Str Z h0 x cs) :
    OC l Z EL nb [] (⟨"java/lang/String", "length", "()I"⟩ : MethodName) jdk_42_method_54_code 1 (some .int) rm_c_len #[(.ref x)] h0 [] (fun v _ h => v = some (.int (Int32.ofNat cs.length)) ∧ h = h0) := by
  have hw := K.1
  have hS : ∀ a ∈ Bundle.stringAtoms, a.before a0 Z = true := K.2.2.1
  obtain ⟨t, kt, X1, Fc, Fv, A, P⟩ := id F
  refine oEnter (by decide +kernel) K.2.1.2.1 ?_
  intro _p _e _s m _below _meth _c T0 W0 S0
  refine oEq (g' := mkF m 0 #[.val (.ref x)] []) (by first | (simp [entryFrame, mkF, argsToLocals, Value.category]; done) | rfl) ?_
  refine oGo W0 [.aload_n 0] (by decide +kernel) (ls' := #[sR x]) (st' := [(.ref x)]) rfl rfl (pc' := 1) rfl ?_
  obtain ⟨T1, W1, st1⟩ := oGetF W0 (pc := 1) (ls := #[sR x]) (st := []) (wK K 32 rfl) Via.refl Fv (by decide +kernel)
  refine oLift st1 ?_
  refine oLen W1 A (by decide +kernel) ?_
  rw [List.length_map]
  refine oGo W1 [.aload_n 0] (by decide +kernel) (ls' := #[sR x]) (st' := [(.ref x), (.int (Int32.ofNat cs.length))]) rfl rfl (pc' := 6) rfl ?_
  obtain ⟨v2, T2, L2, h2, vm2, W2, ⟨rfl, e2⟩, C2, st2⟩ := oCallV W1 (idx := 335) (pc := 6) (ls := #[sR x]) (st := [(.int (Int32.ofNat cs.length))]) (argsL := []) X1 (c_coder K rfl Fc) (fun x hx => nomatch hx) (wK K 61 rfl) (wK K 62 rfl) (notFace_of_selects (args := #[]) (mvT W1.warm (wK K 64 rfl))) (wK K 64 rfl) (wK K 63 rfl) (wK K 7 rfl) (wK K 65 rfl) (by decide) (na := 0) rfl (by decide +kernel) rfl (stk := [(.ref x), (.int (Int32.ofNat cs.length))]) rfl (by decide +kernel) (V := 1) (lb rfl) (lb rfl) (lb rfl) (lb rfl) (lb rfl)
  refine oLift st2 ?_
  rw [e2] at W2 C2
  show OG _ _ _ _ _ _ _ _ _ _ _ (mkF m 9 #[sR x] [(.int 0), (.int (Int32.ofNat cs.length))])
  refine oGo W2 [.ishr] (by decide +kernel) (ls' := #[sR x]) (st' := [(.int ((Int32.ofNat cs.length) >>> ((0 : Int32) &&& 31)))]) rfl rfl (pc' := 10) rfl ?_
  exact oRetI W2 (by decide +kernel) (lb rfl) (lb rfl) (fun vm' hv => ⟨by rw [shr0], rfl⟩)
abbrev rm_c_isl : Room := { frames := 0, cells := 0, slots := 0, locals := 0 }
set_option maxRecDepth 65536 in
set_option maxHeartbeats 40000000 in
theorem c_isl {l : Launch} {Z : State} {a0 : Array Value} {nb : Bool} (K : Ctx Z a0) {x : Addr} {h0 : Heap} {n : Int32} (F : Fld Z h0 x "java/lang/String" "coder" "B" (.int n)) :
    OC l Z EL nb [] (⟨"java/lang/String", "isLatin1", "()Z"⟩ : MethodName) jdk_42_method_154_code 1 (some .boolean) rm_c_isl #[(.ref x)] h0 [] (fun v _ h => v = some (.int (if n = 0 then 1 else 0)) ∧ h = h0) := by
  have hw := K.1
  have hS : ∀ a ∈ Bundle.stringAtoms, a.before a0 Z = true := K.2.2.1
  obtain ⟨z, hz, hz0⟩ := K.2.1.2.2
  refine oEnter (by decide +kernel) K.2.1.2.1 ?_
  intro _p _e _s m _below _meth _c T0 W0 S0
  refine oEq (g' := mkF m 0 #[.val (.ref x)] []) (by first | (simp [entryFrame, mkF, argsToLocals, Value.category]; done) | rfl) ?_
  obtain ⟨T1, W1, st1⟩ := oGetS W0 (pc := 0) (ls := #[sR x]) (st := []) (wK K 18 rfl) Via.refl (hz.ext W0.ext) (by decide +kernel)
  refine oLift st1 ?_
  refine oIfF W1 (cd := .eq) (o := 14) (by decide +kernel) (XT.i0_eq_f hz0) (pc' := 6) rfl ?_
  refine oGo W1 [.aload_n 0] (by decide +kernel) (ls' := #[sR x]) (st' := [(.ref x)]) rfl rfl (pc' := 7) rfl ?_
  obtain ⟨T2, W2, st2⟩ := oGetF W1 (pc := 7) (ls := #[sR x]) (st := []) (wK K 30 rfl) Via.refl F (by decide +kernel)
  refine oLift st2 ?_
  by_cases hc3 : n = (0 : Int32)
  · refine oIfF W2 (cd := .ne) (o := 7) (by decide +kernel) (XT.i0_ne_f hc3) (pc' := 13) rfl ?_
    refine oGo W2 [.iconst 1, .goto 4] (by decide +kernel) (ls' := #[sR x]) (st' := [(.int 1)]) rfl rfl (pc' := 18) rfl ?_
    exact oRetN (by simp) W2 rfl (by decide +kernel) (lb rfl) (lb rfl) (fun vm' hv => ⟨by rw [if_pos hc3], rfl⟩)
  refine oIfT W2 (cd := .ne) (o := 7) (by decide +kernel) (XT.i0_ne_t hc3) (pc' := 17) (by decide) (by decide) ?_
  refine oGo W2 [.iconst 0] (by decide +kernel) (ls' := #[sR x]) (st' := [(.int 0)]) rfl rfl (pc' := 18) rfl ?_
  exact oRetN (by simp) W2 rfl (by decide +kernel) (lb rfl) (lb rfl) (fun vm' hv => ⟨by rw [if_neg hc3], rfl⟩)
abbrev rm_c_min : Room := { frames := 0, cells := 0, slots := 0, locals := 0 }
set_option maxRecDepth 65536 in
set_option maxHeartbeats 40000000 in
theorem c_min {l : Launch} {Z : State} {a0 : Array Value} {nb : Bool} (K : Ctx Z a0) {a b : Nat} {h0 : Heap} (ha : a ≤ 4000) (hb : b ≤ a) :
    OC l Z EL nb [] (⟨"java/lang/Math", "min", "(II)I"⟩ : MethodName) jdk_29_method_69_code 2 (some .int) rm_c_min #[(.int (Int32.ofNat a)), (.int (Int32.ofNat b))] h0 [] (fun v _ h => v = some (.int (Int32.ofNat b)) ∧ h = h0) := by
  have hw := K.1
  have hS : ∀ a ∈ Bundle.stringAtoms, a.before a0 Z = true := K.2.2.1
  refine oEnter (by decide +kernel) K.2.1.2.1 ?_
  intro _p _e _s m _below _meth _c T0 W0 S0
  refine oEq (g' := mkF m 0 #[.val (.int (Int32.ofNat a)), .val (.int (Int32.ofNat b))] []) (by first | (simp [entryFrame, mkF, argsToLocals, Value.category]; done) | rfl) ?_
  refine oGo W0 [.iload_n 0, .iload_n 1] (by decide +kernel) (ls' := #[sI (Int32.ofNat a), sI (Int32.ofNat b)]) (st' := [(.int (Int32.ofNat b)), (.int (Int32.ofNat a))]) rfl rfl (pc' := 2) rfl ?_
  by_cases hc1 : (Int32.ofNat b) < (Int32.ofNat a)
  · refine oIcT W0 (cd := .gt) (o := 7) (by decide +kernel) (XT.ii_gt_t hc1) (pc' := 9) (by decide) (by decide) ?_
    refine oGo W0 [.iload_n 1] (by decide +kernel) (ls' := #[sI (Int32.ofNat a), sI (Int32.ofNat b)]) (st' := [(.int (Int32.ofNat b))]) rfl rfl (pc' := 10) rfl ?_
    exact oRetI W0 (by decide +kernel) (lb rfl) (lb rfl) (fun vm' hv => ⟨rfl, rfl⟩)
  refine oIcF W0 (cd := .gt) (o := 7) (by decide +kernel) (XT.ii_gt_f hc1) (pc' := 5) rfl ?_
  refine oGo W0 [.iload_n 0, .goto 4] (by decide +kernel) (ls' := #[sI (Int32.ofNat a), sI (Int32.ofNat b)]) (st' := [(.int (Int32.ofNat a))]) rfl rfl (pc' := 10) rfl ?_
  exact oRetI W0 (by decide +kernel) (lb rfl) (lb rfl) (fun vm' hv => ⟨by rw [show a = b from Nat.le_antisymm (Nat.le_of_not_lt fun q => hc1 ((n_lt (by omega) (by omega)).mpr q)) hb], rfl⟩)
abbrev rm_c_ckl : Room := { frames := 0, cells := 0, slots := 0, locals := 0 }
set_option maxRecDepth 65536 in
set_option maxHeartbeats 40000000 in
theorem c_ckl {l : Launch} {Z : State} {a0 : Array Value} {nb : Bool} (K : Ctx Z a0) {a b : Nat} {h0 : Heap} (hb : b ≤ 4000) (ha : a ≤ b) :
    OC l Z EL nb [] (⟨"java/util/Arrays", "checkLength", "(II)V"⟩ : MethodName) jdk_65_method_131_code 2 none rm_c_ckl #[(.int (Int32.ofNat a)), (.int (Int32.ofNat b))] h0 [] (fun v _ h => v = none ∧ h = h0) := by
  have hw := K.1
  have hS : ∀ a ∈ Bundle.stringAtoms, a.before a0 Z = true := K.2.2.1
  refine oEnter (by decide +kernel) K.2.1.2.1 ?_
  intro _p _e _s m _below _meth _c T0 W0 S0
  refine oEq (g' := mkF m 0 #[.val (.int (Int32.ofNat a)), .val (.int (Int32.ofNat b))] []) (by first | (simp [entryFrame, mkF, argsToLocals, Value.category]; done) | rfl) ?_
  refine oGo W0 [.iload_n 1, .iload_n 0] (by decide +kernel) (ls' := #[sI (Int32.ofNat a), sI (Int32.ofNat b)]) (st' := [(.int (Int32.ofNat a)), (.int (Int32.ofNat b))]) rfl rfl (pc' := 2) rfl ?_
  refine oIcT W0 (cd := .ge) (o := 35) (by decide +kernel) (XT.ii_ge_t (fun q => absurd ((n_lt (by omega) (by omega)).mp q) (by omega))) (pc' := 37) (by decide) (by decide) ?_
  exact oRet0 W0 (by decide +kernel) (lb rfl) (lb rfl) (fun vm' hv => ⟨rfl, rfl⟩)
abbrev rm_c_crb : Room := { frames := 1, cells := 1, slots := 32, locals := 40 }
set_option maxRecDepth 65536 in
set_option maxHeartbeats 40000000 in
theorem c_crb {l : Launch} {Z : State} {a0 : Array Value} {nb : Bool} (K : Ctx Z a0) {t : Addr} {k : ClassId} {vs : List Value} {o e : Nat} {h0 : Heap} (A : OA Z h0 t k .byte vs) (hv : vs.length ≤ 32) (ho : o ≤ e) (he : e ≤ vs.length) :
    OC l Z EL nb [] (⟨"java/util/Arrays", "copyOfRangeByte", "([BII)[B"⟩ : MethodName) jdk_65_method_133_code 5 (some (.array .byte)) rm_c_crb #[(.ref t), (.int (Int32.ofNat o)), (.int (Int32.ofNat e))] h0 [] (fun v _ h => ∃ d kd, v = some (.ref d) ∧ h0.size ≤ d ∧ Ext h0 h ∧ OA Z h d kd .byte ((vs.drop o).take (e - o))) := by
  have hw := K.1
  have hS : ∀ a ∈ Bundle.stringAtoms, a.before a0 Z = true := K.2.2.1
  refine oEnter (by decide +kernel) K.2.1.2.1 ?_
  intro _p _e _s m _below _meth _c T0 W0 S0
  refine oEq (g' := mkF m 0 #[.val (.ref t), .val (.int (Int32.ofNat o)), .val (.int (Int32.ofNat e)), .unset, .unset] []) (by first | (simp [entryFrame, mkF, argsToLocals, Value.category]; done) | rfl) ?_
  refine oGo W0 [.iload_n 1, .iload_n 2] (by decide +kernel) (ls' := #[sR t, sI (Int32.ofNat o), sI (Int32.ofNat e), sU, sU]) (st' := [(.int (Int32.ofNat e)), (.int (Int32.ofNat o))]) rfl rfl (pc' := 2) rfl ?_
  obtain ⟨v1, T1, L1, h1, vm1, W1, ⟨rfl, e1⟩, C1, st1⟩ := oCallS W0 (idx := 343) (pc := 2) (ls := #[sR t, sI (Int32.ofNat o), sI (Int32.ofNat e), sU, sU]) (st := []) (argsL := [(.int (Int32.ofNat o)), (.int (Int32.ofNat e))]) (c_ckl K (by omega) ho) (fun x hx => nomatch hx) (wK K 150 rfl) (wK K 151 rfl) (wK K 145 rfl) (wK K 152 rfl) (by decide) (na := 2) rfl (by decide +kernel) rfl (stk := [(.int (Int32.ofNat e)), (.int (Int32.ofNat o))]) rfl (by decide +kernel) (V := 0) (lb rfl) (lb rfl) (lb rfl) (lb rfl) (lb rfl)
  refine oLift st1 ?_
  rw [e1] at W1 C1
  show OG _ _ _ _ _ _ _ _ _ _ _ (mkF m 5 #[sR t, sI (Int32.ofNat o), sI (Int32.ofNat e), sU, sU] [])
  refine oGo W1 [.iload_n 2, .iload_n 1, .isub, .istore_n 3, .iload_n 3] (by decide +kernel) (ls' := #[sR t, sI (Int32.ofNat o), sI (Int32.ofNat e), sI ((Int32.ofNat e) - (Int32.ofNat o)), sU]) (st' := [(.int ((Int32.ofNat e) - (Int32.ofNat o)))]) rfl rfl (pc' := 10) rfl ?_
  rw [sub_n ho]
  obtain ⟨T2, h2, d, kd, W2, g2, E2, A2, S2, C2, st2⟩ := oNewA W1 (aty := .byte) (pc := 10) (ls := #[sR t, sI (Int32.ofNat o), sI (Int32.ofNat e), sI (Int32.ofNat (e - o)), sU]) (st := []) (wK K 23 rfl) (by decide +kernel) (n := Int32.ofNat (e - o)) (n_nn (by omega)) (cap := 32) (by rw [n_cl (by omega)]; omega) (lb rfl) (lb rfl) (lb rfl)
  refine oLift st2 ?_
  rw [n_cl (by omega)] at A2
  refine oGo W2 [.astore 4, .aload_n 0, .iload_n 1, .aload 4, .iconst 0, .aload_n 0] (by decide +kernel) (ls' := #[sR t, sI (Int32.ofNat o), sI (Int32.ofNat e), sI (Int32.ofNat (e - o)), sR d]) (st' := [(.ref t), (.int 0), (.ref d), (.int (Int32.ofNat o)), (.ref t)]) rfl rfl (pc' := 20) rfl ?_
  refine oLen W2 (A.ext E2) (by decide +kernel) ?_
  refine oGo W2 [.iload_n 1, .isub, .iload_n 3] (by decide +kernel) (ls' := #[sR t, sI (Int32.ofNat o), sI (Int32.ofNat e), sI (Int32.ofNat (e - o)), sR d]) (st' := [(.int (Int32.ofNat (e - o))), (.int ((Int32.ofNat vs.length) - (Int32.ofNat o))), (.int 0), (.ref d), (.int (Int32.ofNat o)), (.ref t)]) rfl rfl (pc' := 24) rfl ?_
  rw [sub_n (show o ≤ vs.length by omega)]
  obtain ⟨v3, T3, L3, h3, vm3, W3, ⟨rfl, e3⟩, C3, st3⟩ := oCallS W2 (idx := 304) (pc := 24) (ls := #[sR t, sI (Int32.ofNat o), sI (Int32.ofNat e), sI (Int32.ofNat (e - o)), sR d]) (st := [(.int 0), (.ref d), (.int (Int32.ofNat o)), (.ref t)]) (argsL := [(.int (Int32.ofNat (vs.length - o))), (.int (Int32.ofNat (e - o)))]) (c_min K (a := vs.length - o) (b := e - o) (by omega) (by omega)) (fun x hx => nomatch hx) (wK K 153 rfl) (wK K 78 rfl) (wK K 75 rfl) (wK K 79 rfl) (by decide) (na := 2) rfl (by decide +kernel) rfl (stk := [(.int (Int32.ofNat (e - o))), (.int (Int32.ofNat (vs.length - o))), (.int 0), (.ref d), (.int (Int32.ofNat o)), (.ref t)]) rfl (by decide +kernel) (V := 4) (lb rfl) (lb rfl) (lb rfl) (lb rfl) (lb rfl)
  refine oLift st3 ?_
  rw [e3] at W3 C3
  show OG _ _ _ _ _ _ _ _ _ _ _ (mkF m 27 #[sR t, sI (Int32.ofNat o), sI (Int32.ofNat e), sI (Int32.ofNat (e - o)), sR d] [(.int (Int32.ofNat (e - o))), (.int 0), (.ref d), (.int (Int32.ofNat o)), (.ref t)])
  obtain ⟨T4, h4, W4, K4, A4, C4, st4⟩ := oCopy W3 (idx := 150) (pc := 27) (ls := #[sR t, sI (Int32.ofNat o), sI (Int32.ofNat e), sI (Int32.ofNat (e - o)), sR d]) (st := []) (A.ext E2) A2 (o := o) (q := 0) (n := (e - o)) (by omega) (by rw [List.length_replicate]; omega) (Nat.le_trans W0.ext.1 g2) (C3.safe A2.lt S2) (wK K 154 rfl) (wK K 157 rfl) (wK K 155 rfl) (wK K 156 rfl) rfl (by decide +kernel) (V := 0) (lb rfl) (lb rfl) (lb rfl)
  refine oLift st4 ?_
  refine oGo W4 [.aload 4] (by decide +kernel) (ls' := #[sR t, sI (Int32.ofNat o), sI (Int32.ofNat e), sI (Int32.ofNat (e - o)), sR d]) (st' := [(.ref d)]) rfl rfl (pc' := 32) rfl ?_
  have hcp := cpy_all vs (.int 0) o (e - o) (by omega)
  exact oRetA rfl W4 rfl rfl (by decide +kernel) (lb rfl) (lb rfl) (fun vm' hv => ⟨d, kd, rfl, g2, exK E2 K4 (fun y hy => by cases List.mem_singleton.mp hy; exact g2), hcp ▸ A4⟩)
abbrev rm_c_cr : Room := { frames := 2, cells := 1, slots := 32, locals := 56 }
set_option maxRecDepth 65536 in
set_option maxHeartbeats 40000000 in
theorem c_cr {l : Launch} {Z : State} {a0 : Array Value} {nb : Bool} (K : Ctx Z a0) {t : Addr} {k : ClassId} {vs : List Value} {o e : Nat} {h0 : Heap} (A : OA Z h0 t k .byte vs) (hv : vs.length ≤ 32) (ho : o ≤ e) (he : e ≤ vs.length) (hne : o = 0 → e ≠ vs.length) :
    OC l Z EL nb [] (⟨"java/util/Arrays", "copyOfRange", "([BII)[B"⟩ : MethodName) jdk_65_method_132_code 3 (some (.array .byte)) rm_c_cr #[(.ref t), (.int (Int32.ofNat o)), (.int (Int32.ofNat e))] h0 [] (fun v _ h => ∃ d kd, v = some (.ref d) ∧ h0.size ≤ d ∧ Ext h0 h ∧ OA Z h d kd .byte ((vs.drop o).take (e - o))) := by
  have hw := K.1
  have hS : ∀ a ∈ Bundle.stringAtoms, a.before a0 Z = true := K.2.2.1
  refine oEnter (by decide +kernel) K.2.1.2.1 ?_
  intro _p _e _s m _below _meth _c T0 W0 S0
  refine oEq (g' := mkF m 0 #[.val (.ref t), .val (.int (Int32.ofNat o)), .val (.int (Int32.ofNat e))] []) (by first | (simp [entryFrame, mkF, argsToLocals, Value.category]; done) | rfl) ?_
  refine oGo W0 [.iload_n 1] (by decide +kernel) (ls' := #[sR t, sI (Int32.ofNat o), sI (Int32.ofNat e)]) (st' := [(.int (Int32.ofNat o))]) rfl rfl (pc' := 1) rfl ?_
  by_cases hc1 : (Int32.ofNat o) = (0 : Int32)
  · refine oIfF W0 (cd := .ne) (o := 9) (by decide +kernel) (XT.i0_ne_f hc1) (pc' := 4) rfl ?_
    refine oGo W0 [.iload_n 2, .aload_n 0] (by decide +kernel) (ls' := #[sR t, sI (Int32.ofNat o), sI (Int32.ofNat e)]) (st' := [(.ref t), (.int (Int32.ofNat e))]) rfl rfl (pc' := 6) rfl ?_
    refine oLen W0 A (by decide +kernel) ?_
    refine oIcF W0 (cd := .eq) (o := 10) (by decide +kernel) (XT.ii_eq_f (fun q => hne (ofNat0 (by omega) hc1) (ofNat_inj (by omega) (by omega) q))) (pc' := 10) rfl ?_
    refine oGo W0 [.aload_n 0, .iload_n 1, .iload_n 2] (by decide +kernel) (ls' := #[sR t, sI (Int32.ofNat o), sI (Int32.ofNat e)]) (st' := [(.int (Int32.ofNat e)), (.int (Int32.ofNat o)), (.ref t)]) rfl rfl (pc' := 13) rfl ?_
    obtain ⟨v2, T2, L2, h2, vm2, W2, ⟨d, kd, rfl, g2, E2, B2⟩, C2, st2⟩ := oCallS W0 (idx := 339) (pc := 13) (ls := #[sR t, sI (Int32.ofNat o), sI (Int32.ofNat e)]) (st := []) (argsL := [(.ref t), (.int (Int32.ofNat o)), (.int (Int32.ofNat e))]) (c_crb K A hv ho he) (fun x hx => nomatch hx) (wK K 147 rfl) (wK K 148 rfl) (wK K 145 rfl) (wK K 149 rfl) (by decide) (na := 3) rfl (by decide +kernel) rfl (stk := [(.int (Int32.ofNat e)), (.int (Int32.ofNat o)), (.ref t)]) rfl (by decide +kernel) (V := 0) (lb rfl) (lb rfl) (lb rfl) (lb rfl) (lb rfl)
    refine oLift st2 ?_
    show OG _ _ _ _ _ _ _ _ _ _ _ (mkF m 16 #[sR t, sI (Int32.ofNat o), sI (Int32.ofNat e)] [(.ref d)])
    exact oRetA rfl W2 rfl rfl (by decide +kernel) (lb rfl) (lb rfl) (fun vm' hv => ⟨d, kd, rfl, g2, E2, B2⟩)
  · refine oIfT W0 (cd := .ne) (o := 9) (by decide +kernel) (XT.i0_ne_t hc1) (pc' := 10) (by decide) (by decide) ?_
    refine oGo W0 [.aload_n 0, .iload_n 1, .iload_n 2] (by decide +kernel) (ls' := #[sR t, sI (Int32.ofNat o), sI (Int32.ofNat e)]) (st' := [(.int (Int32.ofNat e)), (.int (Int32.ofNat o)), (.ref t)]) rfl rfl (pc' := 13) rfl ?_
    obtain ⟨v3, T3, L3, h3, vm3, W3, ⟨d, kd, rfl, g3, E3, B3⟩, C3, st3⟩ := oCallS W0 (idx := 339) (pc := 13) (ls := #[sR t, sI (Int32.ofNat o), sI (Int32.ofNat e)]) (st := []) (argsL := [(.ref t), (.int (Int32.ofNat o)), (.int (Int32.ofNat e))]) (c_crb K A hv ho he) (fun x hx => nomatch hx) (wK K 147 rfl) (wK K 148 rfl) (wK K 145 rfl) (wK K 149 rfl) (by decide) (na := 3) rfl (by decide +kernel) rfl (stk := [(.int (Int32.ofNat e)), (.int (Int32.ofNat o)), (.ref t)]) rfl (by decide +kernel) (V := 0) (lb rfl) (lb rfl) (lb rfl) (lb rfl) (lb rfl)
    refine oLift st3 ?_
    show OG _ _ _ _ _ _ _ _ _ _ _ (mkF m 16 #[sR t, sI (Int32.ofNat o), sI (Int32.ofNat e)] [(.ref d)])
    exact oRetA rfl W3 rfl rfl (by decide +kernel) (lb rfl) (lb rfl) (fun vm' hv => ⟨d, kd, rfl, g3, E3, B3⟩)
abbrev rm_c_ce : Room := { frames := 0, cells := 0, slots := 0, locals := 0 }
set_option maxRecDepth 65536 in
set_option maxHeartbeats 40000000 in
theorem c_ce {l : Launch} {Z : State} {a0 : Array Value} {nb : Bool} (K : Ctx Z a0) {c : Int32} {h0 : Heap} (hc : ¬ c < 0 ∧ ¬ (255 : Int32) < c) :
    OC l Z EL nb [] (⟨"java/lang/StringLatin1", "canEncode", "(I)Z"⟩ : MethodName) jdk_43_method_4_code 1 (some .boolean) rm_c_ce #[(.int c)] h0 [] (fun v _ h => v = some (.int 1) ∧ h = h0) := by
  have hw := K.1
  have hS : ∀ a ∈ Bundle.stringAtoms, a.before a0 Z = true := K.2.2.1
  refine oEnter (by decide +kernel) K.2.1.2.1 ?_
  intro _p _e _s m _below _meth _c T0 W0 S0
  refine oEq (g' := mkF m 0 #[.val (.int c)] []) (by first | (simp [entryFrame, mkF, argsToLocals, Value.category]; done) | rfl) ?_
  refine oGo W0 [.iload_n 0] (by decide +kernel) (ls' := #[sI c]) (st' := [(.int c)]) rfl rfl (pc' := 1) rfl ?_
  refine oIfF W0 (cd := .lt) (o := 14) (by decide +kernel) (XT.i0_lt_f hc.1) (pc' := 4) rfl ?_
  refine oGo W0 [.iload_n 0, .sipush 255] (by decide +kernel) (ls' := #[sI c]) (st' := [(.int 255), (.int c)]) rfl rfl (pc' := 8) rfl ?_
  refine oIcF W0 (cd := .gt) (o := 7) (by decide +kernel) (XT.ii_gt_f hc.2) (pc' := 11) rfl ?_
  refine oGo W0 [.iconst 1, .goto 4] (by decide +kernel) (ls' := #[sI c]) (st' := [(.int 1)]) rfl rfl (pc' := 16) rfl ?_
  exact oRetN (by simp) W0 rfl (by decide +kernel) (lb rfl) (lb rfl) (fun vm' hv => ⟨rfl, rfl⟩)
abbrev rm_c_mx0 : Room := { frames := 0, cells := 0, slots := 0, locals := 0 }
set_option maxRecDepth 65536 in
set_option maxHeartbeats 40000000 in
theorem c_mx0 {l : Launch} {Z : State} {a0 : Array Value} {nb : Bool} (K : Ctx Z a0) {h0 : Heap} :
    OC l Z EL nb [] (⟨"java/lang/Math", "max", "(II)I"⟩ : MethodName) jdk_29_method_65_code 2 (some .int) rm_c_mx0 #[(.int 0), (.int 0)] h0 [] (fun v _ h => v = some (.int 0) ∧ h = h0) := by
  have hw := K.1
  have hS : ∀ a ∈ Bundle.stringAtoms, a.before a0 Z = true := K.2.2.1
  refine oEnter (by decide +kernel) K.2.1.2.1 ?_
  intro _p _e _s m _below _meth _c T0 W0 S0
  refine oEq (g' := mkF m 0 #[.val (.int 0), .val (.int 0)] []) (by first | (simp [entryFrame, mkF, argsToLocals, Value.category]; done) | rfl) ?_
  refine oGo W0 [.iload_n 0, .iload_n 1] (by decide +kernel) (ls' := #[sI 0, sI 0]) (st' := [(.int 0), (.int 0)]) rfl rfl (pc' := 2) rfl ?_
  refine oIcF W0 (cd := .lt) (o := 7) (by decide +kernel) (XT.ii_lt_f (by decide)) (pc' := 5) rfl ?_
  refine oGo W0 [.iload_n 0, .goto 4] (by decide +kernel) (ls' := #[sI 0, sI 0]) (st' := [(.int 0)]) rfl rfl (pc' := 10) rfl ?_
  exact oRetI W0 (by decide +kernel) (lb rfl) (lb rfl) (fun vm' hv => ⟨rfl, rfl⟩)
abbrev rm_c_ioc : Room := { frames := 0, cells := 0, slots := 0, locals := 0 }
set_option maxRecDepth 65536 in
set_option maxHeartbeats 40000000 in
theorem c_ioc_l {l : Launch} {Z : State} {a0 : Array Value} {nb : Bool} (K : Ctx Z a0) {t : Addr} {k : ClassId} {cs : List Int32} {c : Int32} {h0 : Heap} (A : OA Z h0 t k .byte (byt cs)) (P : ∀ d ∈ cs, ¬ d < 0 ∧ ¬ (255 : Int32) < d) (hl : cs.length ≤ 4000) (hc : ¬ c < 0 ∧ ¬ (255 : Int32) < c) {p : Program} {e : Env} {s : State} {m : MethodId} {args : Array Value} {below : List Frame} {meth : Method} {cc : Code} :
    ∀ (rest : List Int32) (i : Nat) {vm0 : Vm} {T0 : State} {lc : List Loc} (W0 : OW p l e rm_c_ioc s m args below meth cc Z a0 EL nb "java/lang/StringLatin1" jdk_43_method_23_code 6 (some .int) "indexOfChar" vm0 T0 lc 0 0 h0) (hr : cs.drop i = rest) (hi : i ≤ cs.length) (hq : ixf cs c 0 = ixf rest c i), OG p e below s Z EL nb (fun v _ h => v = some (.int (ixf cs c 0)) ∧ h = h0) rm_c_ioc.cells rm_c_ioc.slots T0 (mkF m 7 #[sR t, sI c, sI 0, sI (Int32.ofNat cs.length), sI (c.toInt8.toInt32), sI (Int32.ofNat i)] [])
  | [], i, vm0, T0, lc, W0, hr, hi, hq => by
    have hw := K.1
    refine oGo W0 [.iload 5, .iload_n 3] (by decide +kernel) (ls' := #[sR t, sI c, sI 0, sI (Int32.ofNat cs.length), sI (c.toInt8.toInt32), sI (Int32.ofNat i)]) (st' := [(.int (Int32.ofNat cs.length)), (.int (Int32.ofNat i))]) rfl rfl (pc' := 10) rfl ?_
    refine oIcT W0 (cd := .ge) (o := 21) (by decide +kernel) (XT.ii_ge_t (fun q => absurd ((n_lt (by omega) (by omega)).mp q) (by have := List.drop_eq_nil_iff.mp hr; omega))) (pc' := 31) (by decide) (by decide) ?_
    refine oGo W0 [.iconst (-1)] (by decide +kernel) (ls' := #[sR t, sI c, sI 0, sI (Int32.ofNat cs.length), sI (c.toInt8.toInt32), sI (Int32.ofNat i)]) (st' := [(.int (-1))]) rfl rfl (pc' := 32) rfl ?_
    exact oRetI W0 (by decide +kernel) (lb rfl) (lb rfl) (fun vm' hv => ⟨by rw [hq]; rfl, rfl⟩)
  | d :: rest, i, vm0, T0, lc, W0, hr, hi, hq => by
    have hw := K.1
    have hd : cs[i]? = some d := by have := congrArg (fun l => l[0]?) hr; simpa [List.getElem?_drop] using this
    have hr1 : cs.drop (i + 1) = rest := by have := congrArg List.tail hr; simpa [List.tail_drop] using this
    have hlt : i < cs.length := (List.getElem?_eq_some_iff.mp hd).1
    have hm := List.mem_of_getElem? hd
    refine oGo W0 [.iload 5, .iload_n 3] (by decide +kernel) (ls' := #[sR t, sI c, sI 0, sI (Int32.ofNat cs.length), sI (c.toInt8.toInt32), sI (Int32.ofNat i)]) (st' := [(.int (Int32.ofNat cs.length)), (.int (Int32.ofNat i))]) rfl rfl (pc' := 10) rfl ?_
    refine oIcF W0 (cd := .ge) (o := 21) (by decide +kernel) (XT.ii_ge_f ((n_lt (by omega) (by omega)).mpr hlt)) (pc' := 13) rfl ?_
    refine oGo W0 [.aload_n 0, .iload 5] (by decide +kernel) (ls' := #[sR t, sI c, sI 0, sI (Int32.ofNat cs.length), sI (c.toInt8.toInt32), sI (Int32.ofNat i)]) (st' := [(.int (Int32.ofNat i)), (.ref t)]) rfl rfl (pc' := 16) rfl ?_
    refine oGet W0 A (v := (.int (d.toInt8.toInt32))) (n_nn (by omega)) (by rw [n_cl (by omega), List.getElem?_map, hd]; rfl) (Or.inr (Or.inl ⟨rfl, rfl⟩)) (by decide +kernel) ?_
    refine oGo W0 [.iload 4] (by decide +kernel) (ls' := #[sR t, sI c, sI 0, sI (Int32.ofNat cs.length), sI (c.toInt8.toInt32), sI (Int32.ofNat i)]) (st' := [(.int (c.toInt8.toInt32)), (.int (d.toInt8.toInt32))]) rfl rfl (pc' := 19) rfl ?_
    by_cases hc101 : (d.toInt8.toInt32) = (c.toInt8.toInt32)
    · refine oIcF W0 (cd := .ne) (o := 6) (by decide +kernel) (XT.ii_ne_f hc101) (pc' := 22) rfl ?_
      refine oGo W0 [.iload 5] (by decide +kernel) (ls' := #[sR t, sI c, sI 0, sI (Int32.ofNat cs.length), sI (c.toInt8.toInt32), sI (Int32.ofNat i)]) (st' := [(.int (Int32.ofNat i))]) rfl rfl (pc' := 24) rfl ?_
      exact oRetI W0 (by decide +kernel) (lb rfl) (lb rfl) (fun vm' hv => ⟨by rw [hq, ixf, if_pos (lo8_inj (P d hm) hc hc101)], rfl⟩)
    refine oIcT W0 (cd := .ne) (o := 6) (by decide +kernel) (XT.ii_ne_t hc101) (pc' := 25) (by decide) (by decide) ?_
    refine oGo W0 [.iinc 5 1, .goto (-21)] (by decide +kernel) (ls' := #[sR t, sI c, sI 0, sI (Int32.ofNat cs.length), sI (c.toInt8.toInt32), sI ((Int32.ofNat i) + (1 : Int32))]) (st' := []) rfl rfl (pc' := 7) rfl ?_
    rw [n_in]
    exact c_ioc_l K A P hl hc rest (i + 1) W0 hr1 (by omega) (by rw [hq, ixf, if_neg (fun q => hc101 (by rw [q]))])
set_option maxRecDepth 65536 in
set_option maxHeartbeats 40000000 in
theorem c_ioc {l : Launch} {Z : State} {a0 : Array Value} {nb : Bool} (K : Ctx Z a0) {t : Addr} {k : ClassId} {cs : List Int32} {c : Int32} {h0 : Heap} (A : OA Z h0 t k .byte (byt cs)) (P : ∀ d ∈ cs, ¬ d < 0 ∧ ¬ (255 : Int32) < d) (hl : cs.length ≤ 4000) (hc : ¬ c < 0 ∧ ¬ (255 : Int32) < c) :
    OC l Z EL nb [] (⟨"java/lang/StringLatin1", "indexOfChar", "([BIII)I"⟩ : MethodName) jdk_43_method_23_code 6 (some .int) rm_c_ioc #[(.ref t), (.int c), (.int 0), (.int (Int32.ofNat cs.length))] h0 [] (fun v _ h => v = some (.int (ixf cs c 0)) ∧ h = h0) := by
  have hw := K.1
  have hS : ∀ a ∈ Bundle.stringAtoms, a.before a0 Z = true := K.2.2.1
  refine oEnter (by decide +kernel) K.2.1.2.1 ?_
  intro _p _e _s m _below _meth _c T0 W0 S0
  refine oEq (g' := mkF m 0 #[.val (.ref t), .val (.int c), .val (.int 0), .val (.int (Int32.ofNat cs.length)), .unset, .unset] []) (by first | (simp [entryFrame, mkF, argsToLocals, Value.category]; done) | rfl) ?_
  refine oGo W0 [.iload_n 1, .i2b, .istore 4, .iload_n 2, .istore 5] (by decide +kernel) (ls' := #[sR t, sI c, sI 0, sI (Int32.ofNat cs.length), sI (c.toInt8.toInt32), sI 0]) (st' := []) rfl rfl (pc' := 7) rfl ?_
  exact c_ioc_l K A P hl hc cs 0 W0 (by simp) (by omega) rfl
abbrev rm_c_lix : Room := { frames := 1, cells := 0, slots := 0, locals := 17 }
set_option maxRecDepth 65536 in
set_option maxHeartbeats 40000000 in
theorem c_lix {l : Launch} {Z : State} {a0 : Array Value} {nb : Bool} (K : Ctx Z a0) {t : Addr} {k : ClassId} {cs : List Int32} {c : Int32} {h0 : Heap} (A : OA Z h0 t k .byte (byt cs)) (P : ∀ d ∈ cs, ¬ d < 0 ∧ ¬ (255 : Int32) < d) (hl : cs.length ≤ 4000) (hc : ¬ c < 0 ∧ ¬ (255 : Int32) < c) :
    OC l Z EL nb [] (⟨"java/lang/StringLatin1", "indexOf", "([BIII)I"⟩ : MethodName) jdk_43_method_22_code 4 (some .int) rm_c_lix #[(.ref t), (.int c), (.int 0), (.int (Int32.ofNat cs.length))] h0 [] (fun v _ h => v = some (.int (ixf cs c 0)) ∧ h = h0) := by
  have hw := K.1
  have hS : ∀ a ∈ Bundle.stringAtoms, a.before a0 Z = true := K.2.2.1
  refine oEnter (by decide +kernel) K.2.1.2.1 ?_
  intro _p _e _s m _below _meth _c T0 W0 S0
  refine oEq (g' := mkF m 0 #[.val (.ref t), .val (.int c), .val (.int 0), .val (.int (Int32.ofNat cs.length))] []) (by first | (simp [entryFrame, mkF, argsToLocals, Value.category]; done) | rfl) ?_
  refine oGo W0 [.iload_n 1] (by decide +kernel) (ls' := #[sR t, sI c, sI 0, sI (Int32.ofNat cs.length)]) (st' := [(.int c)]) rfl rfl (pc' := 1) rfl ?_
  obtain ⟨v1, T1, L1, h1, vm1, W1, ⟨rfl, e1⟩, C1, st1⟩ := oCallS W0 (idx := 88) (pc := 1) (ls := #[sR t, sI c, sI 0, sI (Int32.ofNat cs.length)]) (st := []) (argsL := [(.int c)]) (c_ce K hc) (fun x hx => nomatch hx) (wK K 70 rfl) (wK K 71 rfl) (wK K 68 rfl) (wK K 72 rfl) (by decide) (na := 1) rfl (by decide +kernel) rfl (stk := [(.int c)]) rfl (by decide +kernel) (V := 0) (lb rfl) (lb rfl) (lb rfl) (lb rfl) (lb rfl)
  refine oLift st1 ?_
  rw [e1] at W1 C1
  show OG _ _ _ _ _ _ _ _ _ _ _ (mkF m 4 #[sR t, sI c, sI 0, sI (Int32.ofNat cs.length)] [(.int 1)])
  refine oIfT W1 (cd := .ne) (o := 5) (by decide +kernel) (XT.i0_ne_t (by decide)) (pc' := 9) (by decide) (by decide) ?_
  refine oGo W1 [.iload_n 2, .iconst 0] (by decide +kernel) (ls' := #[sR t, sI c, sI 0, sI (Int32.ofNat cs.length)]) (st' := [(.int 0), (.int 0)]) rfl rfl (pc' := 11) rfl ?_
  obtain ⟨v2, T2, L2, h2, vm2, W2, ⟨rfl, e2⟩, C2, st2⟩ := oCallS W1 (idx := 92) (pc := 11) (ls := #[sR t, sI c, sI 0, sI (Int32.ofNat cs.length)]) (st := []) (argsL := [(.int 0), (.int 0)]) (c_mx0 K) (fun x hx => nomatch hx) (wK K 73 rfl) (wK K 74 rfl) (wK K 75 rfl) (wK K 76 rfl) (by decide) (na := 2) rfl (by decide +kernel) rfl (stk := [(.int 0), (.int 0)]) rfl (by decide +kernel) (V := 0) (lb rfl) (lb rfl) (lb rfl) (lb rfl) (lb rfl)
  refine oLift st2 ?_
  rw [e2] at W2 C2
  show OG _ _ _ _ _ _ _ _ _ _ _ (mkF m 14 #[sR t, sI c, sI 0, sI (Int32.ofNat cs.length)] [(.int 0)])
  refine oGo W2 [.istore_n 2, .iload_n 3, .aload_n 0] (by decide +kernel) (ls' := #[sR t, sI c, sI 0, sI (Int32.ofNat cs.length)]) (st' := [(.ref t), (.int (Int32.ofNat cs.length))]) rfl rfl (pc' := 17) rfl ?_
  refine oLen W2 A (by decide +kernel) ?_
  rw [List.length_map]
  obtain ⟨v3, T3, L3, h3, vm3, W3, ⟨rfl, e3⟩, C3, st3⟩ := oCallS W2 (idx := 38) (pc := 18) (ls := #[sR t, sI c, sI 0, sI (Int32.ofNat cs.length)]) (st := []) (argsL := [(.int (Int32.ofNat cs.length)), (.int (Int32.ofNat cs.length))]) (c_min K hl (Nat.le_refl _)) (fun x hx => nomatch hx) (wK K 77 rfl) (wK K 78 rfl) (wK K 75 rfl) (wK K 79 rfl) (by decide) (na := 2) rfl (by decide +kernel) rfl (stk := [(.int (Int32.ofNat cs.length)), (.int (Int32.ofNat cs.length))]) rfl (by decide +kernel) (V := 0) (lb rfl) (lb rfl) (lb rfl) (lb rfl) (lb rfl)
  refine oLift st3 ?_
  rw [e3] at W3 C3
  show OG _ _ _ _ _ _ _ _ _ _ _ (mkF m 21 #[sR t, sI c, sI 0, sI (Int32.ofNat cs.length)] [(.int (Int32.ofNat cs.length))])
  refine oGo W3 [.istore_n 3, .iload_n 2, .iload_n 3] (by decide +kernel) (ls' := #[sR t, sI c, sI 0, sI (Int32.ofNat cs.length)]) (st' := [(.int (Int32.ofNat cs.length)), (.int 0)]) rfl rfl (pc' := 24) rfl ?_
  by_cases hc4 : (0 : Int32) < (Int32.ofNat cs.length)
  rotate_left
  · refine oIcF W3 (cd := .lt) (o := 5) (by decide +kernel) (XT.ii_lt_f hc4) (pc' := 27) rfl ?_
    refine oGo W3 [.iconst (-1)] (by decide +kernel) (ls' := #[sR t, sI c, sI 0, sI (Int32.ofNat cs.length)]) (st' := [(.int (-1))]) rfl rfl (pc' := 28) rfl ?_
    exact oRetI W3 (by decide +kernel) (lb rfl) (lb rfl) (fun vm' hv => ⟨by rw [show cs = [] from List.length_eq_zero_iff.mp (Nat.eq_zero_of_not_pos fun q => hc4 ((n_lt (a := 0) (by omega) (by omega)).mpr q))]; rfl, rfl⟩)
  refine oIcT W3 (cd := .lt) (o := 5) (by decide +kernel) (XT.ii_lt_t hc4) (pc' := 29) (by decide) (by decide) ?_
  refine oGo W3 [.aload_n 0, .iload_n 1, .iload_n 2, .iload_n 3] (by decide +kernel) (ls' := #[sR t, sI c, sI 0, sI (Int32.ofNat cs.length)]) (st' := [(.int (Int32.ofNat cs.length)), (.int 0), (.int c), (.ref t)]) rfl rfl (pc' := 33) rfl ?_
  obtain ⟨v5, T5, L5, h5, vm5, W5, ⟨rfl, e5⟩, C5, st5⟩ := oCallS W3 (idx := 95) (pc := 33) (ls := #[sR t, sI c, sI 0, sI (Int32.ofNat cs.length)]) (st := []) (argsL := [(.ref t), (.int c), (.int 0), (.int (Int32.ofNat cs.length))]) (c_ioc K A P hl hc) (fun x hx => nomatch hx) (wK K 80 rfl) (wK K 81 rfl) (wK K 68 rfl) (wK K 82 rfl) (by decide) (na := 4) rfl (by decide +kernel) rfl (stk := [(.int (Int32.ofNat cs.length)), (.int 0), (.int c), (.ref t)]) rfl (by decide +kernel) (V := 0) (lb rfl) (lb rfl) (lb rfl) (lb rfl) (lb rfl)
  refine oLift st5 ?_
  rw [e5] at W5 C5
  show OG _ _ _ _ _ _ _ _ _ _ _ (mkF m 36 #[sR t, sI c, sI 0, sI (Int32.ofNat cs.length)] [(.int (ixf cs c 0))])
  exact oRetI W5 (by decide +kernel) (lb rfl) (lb rfl) (fun vm' hv => ⟨rfl, rfl⟩)
abbrev rm_c_ix2 : Room := { frames := 2, cells := 0, slots := 0, locals := 32 }
set_option maxRecDepth 65536 in
set_option maxHeartbeats 40000000 in
theorem c_ix2 {l : Launch} {Z : State} {a0 : Array Value} {nb : Bool} (K : Ctx Z a0) {x : Addr} {cs : List Int32} {c : Int32} {h0 : Heap} (F : Str Z h0 x cs) (hl : cs.length ≤ 4000) (hc : ¬ c < 0 ∧ ¬ (255 : Int32) < c) :
    OC l Z EL nb [] (⟨"java/lang/String", "indexOf", "(II)I"⟩ : MethodName) jdk_42_method_80_code 3 (some .int) rm_c_ix2 #[(.ref x), (.int c), (.int 0)] h0 [] (fun v _ h => v = some (.int (ixf cs c 0)) ∧ h = h0) := by
  have hw := K.1
  have hS : ∀ a ∈ Bundle.stringAtoms, a.before a0 Z = true := K.2.2.1
  obtain ⟨t, kt, X1, Fc, Fv, A, P⟩ := id F
  refine oEnter (by decide +kernel) K.2.1.2.1 ?_
  intro _p _e _s m _below _meth _c T0 W0 S0
  refine oEq (g' := mkF m 0 #[.val (.ref x), .val (.int c), .val (.int 0)] []) (by first | (simp [entryFrame, mkF, argsToLocals, Value.category]; done) | rfl) ?_
  refine oGo W0 [.aload_n 0] (by decide +kernel) (ls' := #[sR x, sI c, sI 0]) (st' := [(.ref x)]) rfl rfl (pc' := 1) rfl ?_
  obtain ⟨v1, T1, L1, h1, vm1, W1, ⟨rfl, e1⟩, C1, st1⟩ := oCallV W0 (idx := 492) (pc := 1) (ls := #[sR x, sI c, sI 0]) (st := []) (argsL := []) X1 (c_isl K Fc) (fun x hx => nomatch hx) (wK K 51 rfl) (wK K 52 rfl) (notFace_of_selects (args := #[]) (mvT W0.warm (wK K 54 rfl))) (wK K 54 rfl) (wK K 53 rfl) (wK K 7 rfl) (wK K 55 rfl) (by decide) (na := 0) rfl (by decide +kernel) rfl (stk := [(.ref x)]) rfl (by decide +kernel) (V := 0) (lb rfl) (lb rfl) (lb rfl) (lb rfl) (lb rfl)
  refine oLift st1 ?_
  rw [e1] at W1 C1
  show OG _ _ _ _ _ _ _ _ _ _ _ (mkF m 4 #[sR x, sI c, sI 0] [(.int 1)])
  refine oIfF W1 (cd := .eq) (o := 19) (by decide +kernel) (XT.i0_eq_f (by decide)) (pc' := 7) rfl ?_
  refine oGo W1 [.aload_n 0] (by decide +kernel) (ls' := #[sR x, sI c, sI 0]) (st' := [(.ref x)]) rfl rfl (pc' := 8) rfl ?_
  obtain ⟨T2, W2, st2⟩ := oGetF W1 (pc := 8) (ls := #[sR x, sI c, sI 0]) (st := []) (wK K 32 rfl) Via.refl Fv (by decide +kernel)
  refine oLift st2 ?_
  refine oGo W2 [.iload_n 1, .iload_n 2, .aload_n 0] (by decide +kernel) (ls' := #[sR x, sI c, sI 0]) (st' := [(.ref x), (.int 0), (.int c), (.ref t)]) rfl rfl (pc' := 14) rfl ?_
  obtain ⟨v3, T3, L3, h3, vm3, W3, ⟨rfl, e3⟩, C3, st3⟩ := oCallV W2 (idx := 505) (pc := 14) (ls := #[sR x, sI c, sI 0]) (st := [(.int 0), (.int c), (.ref t)]) (argsL := []) X1 (c_len K F) (fun x hx => nomatch hx) (wK K 56 rfl) (wK K 57 rfl) (notFace_of_selects (args := #[]) (mvT W2.warm (wK K 59 rfl))) (wK K 59 rfl) (wK K 58 rfl) (wK K 7 rfl) (wK K 60 rfl) (by decide) (na := 0) rfl (by decide +kernel) rfl (stk := [(.ref x), (.int 0), (.int c), (.ref t)]) rfl (by decide +kernel) (V := 3) (lb rfl) (lb rfl) (lb rfl) (lb rfl) (lb rfl)
  refine oLift st3 ?_
  rw [e3] at W3 C3
  show OG _ _ _ _ _ _ _ _ _ _ _ (mkF m 17 #[sR x, sI c, sI 0] [(.int (Int32.ofNat cs.length)), (.int 0), (.int c), (.ref t)])
  obtain ⟨v4, T4, L4, h4, vm4, W4, ⟨rfl, e4⟩, C4, st4⟩ := oCallS W3 (idx := 637) (pc := 17) (ls := #[sR x, sI c, sI 0]) (st := []) (argsL := [(.ref t), (.int c), (.int 0), (.int (Int32.ofNat cs.length))]) (c_lix K A P hl hc) (fun x hx => nomatch hx) (wK K 66 rfl) (wK K 67 rfl) (wK K 68 rfl) (wK K 69 rfl) (by decide) (na := 4) rfl (by decide +kernel) rfl (stk := [(.int (Int32.ofNat cs.length)), (.int 0), (.int c), (.ref t)]) rfl (by decide +kernel) (V := 0) (lb rfl) (lb rfl) (lb rfl) (lb rfl) (lb rfl)
  refine oLift st4 ?_
  rw [e4] at W4 C4
  show OG _ _ _ _ _ _ _ _ _ _ _ (mkF m 20 #[sR x, sI c, sI 0] [(.int (ixf cs c 0))])
  refine oGo W4 [.goto 16] (by decide +kernel) (ls' := #[sR x, sI c, sI 0]) (st' := [(.int (ixf cs c 0))]) rfl rfl (pc' := 36) rfl ?_
  exact oRetI W4 (by decide +kernel) (lb rfl) (lb rfl) (fun vm' hv => ⟨rfl, rfl⟩)
abbrev rm_c_ix1 : Room := { frames := 3, cells := 0, slots := 0, locals := 46 }
set_option maxRecDepth 65536 in
set_option maxHeartbeats 40000000 in
theorem c_ix1 {l : Launch} {Z : State} {a0 : Array Value} {nb : Bool} (K : Ctx Z a0) {x : Addr} {cs : List Int32} {c : Int32} {h0 : Heap} (F : Str Z h0 x cs) (hl : cs.length ≤ 4000) (hc : ¬ c < 0 ∧ ¬ (255 : Int32) < c) :
    OC l Z EL nb [] (⟨"java/lang/String", "indexOf", "(I)I"⟩ : MethodName) jdk_42_method_79_code 2 (some .int) rm_c_ix1 #[(.ref x), (.int c)] h0 [] (fun v _ h => v = some (.int (ixf cs c 0)) ∧ h = h0) := by
  have hw := K.1
  have hS : ∀ a ∈ Bundle.stringAtoms, a.before a0 Z = true := K.2.2.1
  refine oEnter (by decide +kernel) K.2.1.2.1 ?_
  intro _p _e _s m _below _meth _c T0 W0 S0
  refine oEq (g' := mkF m 0 #[.val (.ref x), .val (.int c)] []) (by first | (simp [entryFrame, mkF, argsToLocals, Value.category]; done) | rfl) ?_
  refine oGo W0 [.aload_n 0, .iload_n 1, .iconst 0] (by decide +kernel) (ls' := #[sR x, sI c]) (st' := [(.int 0), (.int c), (.ref x)]) rfl rfl (pc' := 3) rfl ?_
  obtain ⟨v1, T1, L1, h1, vm1, W1, ⟨rfl, e1⟩, C1, st1⟩ := oCallV W0 (idx := 633) (pc := 3) (ls := #[sR x, sI c]) (st := []) (argsL := [(.int c), (.int 0)]) F.exa (c_ix2 K F hl hc) (fun x hx => nomatch hx) (wK K 46 rfl) (wK K 47 rfl) (notFace_of_selects (args := #[]) (mvT W0.warm (wK K 49 rfl))) (wK K 49 rfl) (wK K 48 rfl) (wK K 7 rfl) (wK K 50 rfl) (by decide) (na := 2) rfl (by decide +kernel) rfl (stk := [(.int 0), (.int c), (.ref x)]) rfl (by decide +kernel) (V := 0) (lb rfl) (lb rfl) (lb rfl) (lb rfl) (lb rfl)
  refine oLift st1 ?_
  rw [e1] at W1 C1
  show OG _ _ _ _ _ _ _ _ _ _ _ (mkF m 6 #[sR x, sI c] [(.int (ixf cs c 0))])
  exact oRetI W1 (by decide +kernel) (lb rfl) (lb rfl) (fun vm' hv => ⟨rfl, rfl⟩)
abbrev rm_c_cft : Room := { frames := 0, cells := 0, slots := 0, locals := 0 }
set_option maxRecDepth 65536 in
set_option maxHeartbeats 40000000 in
theorem c_cft {l : Launch} {Z : State} {a0 : Array Value} {nb : Bool} (K : Ctx Z a0) {b j n : Nat} {h0 : Heap} (h1 : b ≤ j) (h2 : j ≤ n) (hn : n ≤ 4000) {f : Value} (h_f : f.isRef = true) :
    OC l Z EL nb [] (⟨"jdk/internal/util/Preconditions", "checkFromToIndex", "(IIILjava/util/function/BiFunction;)I"⟩ : MethodName) jdk_41_method_12_code 4 (some .int) rm_c_cft #[(.int (Int32.ofNat b)), (.int (Int32.ofNat j)), (.int (Int32.ofNat n)), f] h0 [] (fun v _ h => v = some (.int (Int32.ofNat b)) ∧ h = h0) := by
  have hw := K.1
  have hS : ∀ a ∈ Bundle.stringAtoms, a.before a0 Z = true := K.2.2.1
  refine oEnter (by decide +kernel) K.2.1.2.1 ?_
  intro _p _e _s m _below _meth _c T0 W0 S0
  refine oEq (g' := mkF m 0 #[.val (.int (Int32.ofNat b)), .val (.int (Int32.ofNat j)), .val (.int (Int32.ofNat n)), .val f] []) ((own_ef (vs := [(.int (Int32.ofNat b)), (.int (Int32.ofNat j)), (.int (Int32.ofNat n)), f]) (List.forall_mem_cons.mpr ⟨rfl, (List.forall_mem_cons.mpr ⟨rfl, (List.forall_mem_cons.mpr ⟨rfl, (List.forall_mem_cons.mpr ⟨refCat h_f, (fun _ h => nomatch h)⟩)⟩)⟩)⟩)).trans rfl) ?_
  refine oGo W0 [.iload_n 0] (by decide +kernel) (ls' := #[sI (Int32.ofNat b), sI (Int32.ofNat j), sI (Int32.ofNat n), .val f]) (st' := [(.int (Int32.ofNat b))]) rfl rfl (pc' := 1) rfl ?_
  refine oIfF W0 (cd := .lt) (o := 13) (by decide +kernel) (XT.i0_lt_f (n_nn (by omega))) (pc' := 4) rfl ?_
  refine oGo W0 [.iload_n 0, .iload_n 1] (by decide +kernel) (ls' := #[sI (Int32.ofNat b), sI (Int32.ofNat j), sI (Int32.ofNat n), .val f]) (st' := [(.int (Int32.ofNat j)), (.int (Int32.ofNat b))]) rfl rfl (pc' := 6) rfl ?_
  refine oIcF W0 (cd := .gt) (o := 8) (by decide +kernel) (XT.ii_gt_f (fun q => absurd ((n_lt (by omega) (by omega)).mp q) (by omega))) (pc' := 9) rfl ?_
  refine oGo W0 [.iload_n 1, .iload_n 2] (by decide +kernel) (ls' := #[sI (Int32.ofNat b), sI (Int32.ofNat j), sI (Int32.ofNat n), .val f]) (st' := [(.int (Int32.ofNat n)), (.int (Int32.ofNat j))]) rfl rfl (pc' := 11) rfl ?_
  refine oIcT W0 (cd := .le) (o := 11) (by decide +kernel) (XT.ii_le_t (fun q => absurd ((n_lt (by omega) (by omega)).mp q) (by omega))) (pc' := 22) (by decide) (by decide) ?_
  refine oGo W0 [.iload_n 0] (by decide +kernel) (ls' := #[sI (Int32.ofNat b), sI (Int32.ofNat j), sI (Int32.ofNat n), .val f]) (st' := [(.int (Int32.ofNat b))]) rfl rfl (pc' := 23) rfl ?_
  exact oRetI W0 (by decide +kernel) (lb rfl) (lb rfl) (fun vm' hv => ⟨rfl, rfl⟩)
abbrev rm_c_cbe : Room := { frames := 1, cells := 0, slots := 0, locals := 15 }
set_option maxRecDepth 65536 in
set_option maxHeartbeats 40000000 in
theorem c_cbe {l : Launch} {Z : State} {a0 : Array Value} {nb : Bool} (K : Ctx Z a0) {b j n : Nat} {h0 : Heap} (h1 : b ≤ j) (h2 : j ≤ n) (hn : n ≤ 4000) (G : Sx Z) :
    OC l Z EL nb [] (⟨"java/lang/String", "checkBoundsBeginEnd", "(III)V"⟩ : MethodName) jdk_42_method_158_code 3 none rm_c_cbe #[(.int (Int32.ofNat b)), (.int (Int32.ofNat j)), (.int (Int32.ofNat n))] h0 [] (fun v _ h => v = none ∧ h = h0) := by
  have hw := K.1
  have hS : ∀ a ∈ Bundle.stringAtoms, a.before a0 Z = true := K.2.2.1
  obtain ⟨f, hf, h_f⟩ := G
  refine oEnter (by decide +kernel) K.2.1.2.1 ?_
  intro _p _e _s m _below _meth _c T0 W0 S0
  refine oEq (g' := mkF m 0 #[.val (.int (Int32.ofNat b)), .val (.int (Int32.ofNat j)), .val (.int (Int32.ofNat n))] []) (by first | (simp [entryFrame, mkF, argsToLocals, Value.category]; done) | rfl) ?_
  refine oGo W0 [.iload_n 0, .iload_n 1, .iload_n 2] (by decide +kernel) (ls' := #[sI (Int32.ofNat b), sI (Int32.ofNat j), sI (Int32.ofNat n)]) (st' := [(.int (Int32.ofNat n)), (.int (Int32.ofNat j)), (.int (Int32.ofNat b))]) rfl rfl (pc' := 3) rfl ?_
  obtain ⟨T1, W1, st1⟩ := oGetS W0 (pc := 3) (ls := #[sI (Int32.ofNat b), sI (Int32.ofNat j), sI (Int32.ofNat n)]) (st := [(.int (Int32.ofNat n)), (.int (Int32.ofNat j)), (.int (Int32.ofNat b))]) (wK K 169 rfl) Via.refl (hf.ext W0.ext) (by decide +kernel)
  refine oLift st1 ?_
  obtain ⟨v2, T2, L2, h2, vm2, W2, ⟨rfl, e2⟩, C2, st2⟩ := oCallS W1 (idx := 1062) (pc := 6) (ls := #[sI (Int32.ofNat b), sI (Int32.ofNat j), sI (Int32.ofNat n)]) (st := []) (argsL := [(.int (Int32.ofNat b)), (.int (Int32.ofNat j)), (.int (Int32.ofNat n)), f]) (c_cft K h1 h2 hn h_f) (fun x hx => nomatch hx) (wK K 171 rfl) (wK K 172 rfl) (wK K 170 rfl) (wK K 173 rfl) (by decide) (na := 4) rfl (by decide +kernel) rfl (stk := [f, (.int (Int32.ofNat n)), (.int (Int32.ofNat j)), (.int (Int32.ofNat b))]) rfl (by decide +kernel) (V := 0) (lb rfl) (lb rfl) (lb rfl) (lb rfl) (lb rfl)
  refine oLift st2 ?_
  rw [e2] at W2 C2
  show OG _ _ _ _ _ _ _ _ _ _ _ (mkF m 9 #[sI (Int32.ofNat b), sI (Int32.ofNat j), sI (Int32.ofNat n)] [(.int (Int32.ofNat b))])
  refine oGo W2 [.pop] (by decide +kernel) (ls' := #[sI (Int32.ofNat b), sI (Int32.ofNat j), sI (Int32.ofNat n)]) (st' := []) rfl rfl (pc' := 10) rfl ?_
  exact oRet0 W2 (by decide +kernel) (lb rfl) (lb rfl) (fun vm' hv => ⟨rfl, rfl⟩)
theorem byt_dt (cs : List Int32) (o n : Nat) : ((byt cs).drop o).take (o + n - o) = byt ((cs.drop o).take n) := by
  rw [Nat.add_sub_cancel_left]; simp [List.map_drop, List.map_take]
abbrev rm_c_ibb : Room := { frames := 1, cells := 0, slots := 0, locals := 12 }
set_option maxRecDepth 65536 in
set_option maxHeartbeats 40000000 in
theorem c_ibb {l : Launch} {Z : State} {a0 : Array Value} {nb : Bool} (K : Ctx Z a0) {x d : Addr} {kd : ClassId} {cs : List Int32} {q0 q1 : Value} {h0 : Heap} (hxf : Z.heap.size ≤ x) (Ex : Exa Z h0 x "java/lang/String") (Fxc : Fld Z h0 x "java/lang/String" "coder" "B" q0) (Fxv : Fld Z h0 x "java/lang/String" "value" "[B" q1) (Ad : OA Z h0 d kd .byte (byt cs)) (hp : ∀ c ∈ cs, ¬ c < 0 ∧ ¬ (255 : Int32) < c) :
    OC l Z EL nb [] (⟨"java/lang/String", "<init>", "([BB)V"⟩ : MethodName) jdk_42_method_151_code 3 none rm_c_ibb #[(.ref x), (.ref d), (.int 0)] h0 [x] (fun v _ h => v = none ∧ Keep h0 h [x] ∧ Str Z h x cs) := by
  have hw := K.1
  have hS : ∀ a ∈ Bundle.stringAtoms, a.before a0 Z = true := K.2.2.1
  refine oEnter (by decide +kernel) K.2.1.2.1 ?_
  intro _p _e _s m _below _meth _c T0 W0 S0
  refine oEq (g' := mkF m 0 #[.val (.ref x), .val (.ref d), .val (.int 0)] []) (by first | (simp [entryFrame, mkF, argsToLocals, Value.category]; done) | rfl) ?_
  have hdx : d ≠ x := OA.ne Ad Ex (wK K 6 rfl)
  refine oGo W0 [.aload_n 0] (by decide +kernel) (ls' := #[sR x, sR d, sI 0]) (st' := [(.ref x)]) rfl rfl (pc' := 1) rfl ?_
  obtain ⟨T1, W1, st1⟩ := oInit W0 (idx := 1) (pc := 1) (ls := #[sR x, sR d, sI 0]) (st := []) (a := x) (wK K 15 rfl) (wK K 16 rfl) (wK K 17 rfl) rfl (by decide +kernel) (lb rfl) (V := 0) (lb rfl) (lb rfl)
  refine oLift st1 ?_
  refine oGo W1 [.aload_n 0, .aload_n 1] (by decide +kernel) (ls' := #[sR x, sR d, sI 0]) (st' := [(.ref d), (.ref x)]) rfl rfl (pc' := 6) rfl ?_
  obtain ⟨T2, h2, W2, Wr2, F2, X2, C2, st2⟩ := oPutF W1 (idx := 9) (pc := 6) (ls := #[sR x, sR d, sI 0]) (st := []) (v := (.ref d)) (wK K 32 rfl) Via.refl Fxv Ex (Or.inr ⟨(wK K 33 rfl), rfl, rfl⟩) (wK K 6 rfl) (ty := (.array .byte)) (by decide) rfl rfl hxf (S0 x (List.mem_singleton.mpr rfl)) (by decide +kernel)
  refine oLift st2 ?_
  refine oGo W2 [.aload_n 0, .iload_n 2] (by decide +kernel) (ls' := #[sR x, sR d, sI 0]) (st' := [(.int 0), (.ref x)]) rfl rfl (pc' := 11) rfl ?_
  obtain ⟨T3, h3, W3, Wr3, F3, X3, C3, st3⟩ := oPutF W2 (idx := 15) (pc := 11) (ls := #[sR x, sR d, sI 0]) (st := []) (v := (.int 0)) (wK K 30 rfl) Via.refl (Fxc.other Wr2 (Or.inr (slot_ne (a0 := a0) (C := "java/lang/String") (Or.inr (wK K 31 rfl)) (Or.inr (wK K 33 rfl)) (by decide) (t := .byte) (t' := (.array .byte)) (by decide) (by decide)))) X2 (Or.inr ⟨(wK K 31 rfl), rfl, rfl⟩) (wK K 6 rfl) (ty := .byte) (by decide) rfl rfl hxf (C2.safe Ex.lt (S0 x (List.mem_singleton.mpr rfl))) (by decide +kernel)
  refine oLift st3 ?_
  exact oRet0 W3 (by decide +kernel) (lb rfl) (lb rfl) (fun vm' hv => ⟨rfl, (((Keep.refl _ [x]).wr Wr2 (Or.inl (List.mem_singleton.mpr rfl))).wr Wr3 (Or.inl (List.mem_singleton.mpr rfl))), d, kd, X3, F3, (F2.other Wr3 (Or.inr (slot_ne (a0 := a0) (C := "java/lang/String") (Or.inr (wK K 33 rfl)) (Or.inr (wK K 31 rfl)) (by decide) (t := (.array .byte)) (t' := .byte) (by decide) (by decide)))), ((Ad.other Wr2 hdx).other Wr3 hdx), hp⟩)
abbrev rm_c_nst : Room := { frames := 3, cells := 2, slots := 36, locals := 72 }
set_option maxRecDepth 65536 in
set_option maxHeartbeats 40000000 in
theorem c_nst {l : Launch} {Z : State} {a0 : Array Value} (K : Ctx Z a0) {t : Addr} {kt : ClassId} {cs : List Int32} {o n : Nat} {h0 : Heap} (A : OA Z h0 t kt .byte (byt cs)) (P : ∀ c ∈ cs, ¬ c < 0 ∧ ¬ (255 : Int32) < c) (hl : cs.length ≤ 32) (hon : o + n ≤ cs.length) (hne : o = 0 → n ≠ cs.length) :
    OC l Z EL false [] (⟨"java/lang/StringLatin1", "newString", "([BII)Ljava/lang/String;"⟩ : MethodName) jdk_43_method_47_code 3 (some (.object "java/lang/String")) rm_c_nst #[(.ref t), (.int (Int32.ofNat o)), (.int (Int32.ofNat n))] h0 [] (fun v _ h => ∃ y, v = some (.ref y) ∧ Str Z h y ((cs.drop o).take n) ∧ Ext h0 h) := by
  have hw := K.1
  have hS : ∀ a ∈ Bundle.stringAtoms, a.before a0 Z = true := K.2.2.1
  refine oEnter (by decide +kernel) K.2.1.2.1 ?_
  intro _p _e _s m _below _meth _c T0 W0 S0
  refine oEq (g' := mkF m 0 #[.val (.ref t), .val (.int (Int32.ofNat o)), .val (.int (Int32.ofNat n))] []) (by first | (simp [entryFrame, mkF, argsToLocals, Value.category]; done) | rfl) ?_
  refine oGo W0 [.iload_n 2] (by decide +kernel) (ls' := #[sR t, sI (Int32.ofNat o), sI (Int32.ofNat n)]) (st' := [(.int (Int32.ofNat n))]) rfl rfl (pc' := 1) rfl ?_
  by_cases hc1 : (Int32.ofNat n) = (0 : Int32)
  · refine oIfF W0 (cd := .ne) (o := 6) (by decide +kernel) (XT.i0_ne_f hc1) (pc' := 4) rfl ?_
    obtain ⟨a2, b2, k2, T2, h2, vm2, W2, E2, C2, x2, c2, u2, A2, st2⟩ := oLdcC W0 (pc := 4) (ls := #[sR t, sI (Int32.ofNat o), sI (Int32.ofNat n)]) (st := []) (wK K 138 rfl) hS (by decide) (vs := (([] : List Int32).map fun c => Value.int c.toInt8.toInt32)) (z := 0) (by decide +kernel) (by decide) (by decide) (by decide +kernel) (n := 0) (lb rfl) (lb rfl) (lb rfl) (lb rfl)
    refine oLift st2 ?_
    have F2 : Str Z h2 a2 [] := ⟨b2, k2, x2, c2, u2, A2, by decide⟩
    exact oRetA rfl W2 rfl rfl (by decide +kernel) (lb rfl) (lb rfl) (fun vm' hv => ⟨_, rfl, by rw [show n = 0 from ofNat0 (by omega) hc1]; exact F2, E2⟩)
  have hn0 : 0 < n := Nat.pos_of_ne_zero (fun q => hc1 (by rw [q]; rfl))
  refine oIfT W0 (cd := .ne) (o := 6) (by decide +kernel) (XT.i0_ne_t hc1) (pc' := 7) (by decide) (by decide) ?_
  obtain ⟨T3, h3, x, W3, g3, E3, A3, D3, S3, C3, st3⟩ := oNew W0 (pc := 7) (ls := #[sR t, sI (Int32.ofNat o), sI (Int32.ofNat n)]) (st := []) (wK K 142 rfl) (wK K 6 rfl) (wK K 7 rfl) (by decide +kernel) (lb rfl) (lb rfl)
  refine oLift st3 ?_
  refine oGo W3 [.dup, .aload_n 0, .iload_n 1, .iload_n 1, .iload_n 2, .iadd] (by decide +kernel) (ls' := #[sR t, sI (Int32.ofNat o), sI (Int32.ofNat n)]) (st' := [(.int ((Int32.ofNat o) + (Int32.ofNat n))), (.int (Int32.ofNat o)), (.ref t), (.ref x), (.ref x)]) rfl rfl (pc' := 16) rfl ?_
  rw [add_n]
  obtain ⟨v4, T4, L4, h4, vm4, W4, ⟨d, kd, rfl, g4, E4, B4⟩, C4, st4⟩ := oCallS W3 (idx := 232) (pc := 16) (ls := #[sR t, sI (Int32.ofNat o), sI (Int32.ofNat n)]) (st := [(.ref x), (.ref x)]) (argsL := [(.ref t), (.int (Int32.ofNat o)), (.int (Int32.ofNat (o + n)))]) (c_cr K (o := o) (e := o + n) (A.ext E3) (by rw [List.length_map]; omega) (by omega) (by rw [List.length_map]; omega) (fun q => by rw [List.length_map]; have := hne q; omega)) (fun x hx => nomatch hx) (wK K 143 rfl) (wK K 144 rfl) (wK K 145 rfl) (wK K 146 rfl) (by decide) (na := 3) rfl (by decide +kernel) rfl (stk := [(.int (Int32.ofNat (o + n))), (.int (Int32.ofNat o)), (.ref t), (.ref x), (.ref x)]) rfl (by decide +kernel) (V := 2) (lb rfl) (lb rfl) (lb rfl) (lb rfl) (lb rfl)
  refine oLift st4 ?_
  show OG _ _ _ _ _ _ _ _ _ _ _ (mkF m 19 #[sR t, sI (Int32.ofNat o), sI (Int32.ofNat n)] [(.ref d), (.ref x), (.ref x)])
  refine oGo W4 [.iconst 0] (by decide +kernel) (ls' := #[sR t, sI (Int32.ofNat o), sI (Int32.ofNat n)]) (st' := [(.int 0), (.ref d), (.ref x), (.ref x)]) rfl rfl (pc' := 20) rfl ?_
  have Bd : OA Z h4 d kd .byte (byt ((cs.drop o).take n)) := byt_dt cs o n ▸ B4
  obtain ⟨v5, T5, L5, h5, vm5, W5, ⟨rfl, K5, F5⟩, C5, st5⟩ := oCallN W4 (idx := 112) (pc := 20) (ls := #[sR t, sI (Int32.ofNat o), sI (Int32.ofNat n)]) (st := [(.ref x)]) (a := x) (argsL := [(.ref d), (.int 0)]) (c_ibb K (Nat.le_trans W0.ext.1 g3) (A3.ext E4) ((D3 (Or.inr (wK K 31 rfl)) (ty := .byte) (by decide)).ext E4) ((D3 (Or.inr (wK K 33 rfl)) (ty := (.array .byte)) (by decide)).ext E4) Bd (fun c hc => P c (List.mem_of_mem_drop (List.mem_of_mem_take hc)))) (fun y hy => by cases List.mem_singleton.mp hy; exact ⟨(A3.ext E4).lt, (C4.safe A3.lt S3)⟩) rfl (wK K 158 rfl) (wK K 159 rfl) (wK K 7 rfl) (wK K 160 rfl) (by decide) (na := 2) rfl (by decide +kernel) rfl (stk := [(.int 0), (.ref d), (.ref x), (.ref x)]) rfl (by decide +kernel) (V := 1) (lb rfl) (lb rfl) (lb rfl) (lb rfl) (lb rfl)
  refine oLift st5 ?_
  show OG _ _ _ _ _ _ _ _ _ _ _ (mkF m 23 #[sR t, sI (Int32.ofNat o), sI (Int32.ofNat n)] [(.ref x)])
  exact oRetA rfl W5 rfl rfl (by decide +kernel) (lb rfl) (lb rfl) (fun vm' hv => ⟨x, rfl, F5, (exK (exT E3 E4) K5 (fun y hy => by cases List.mem_singleton.mp hy; exact g3))⟩)
abbrev rm_c_sub2 : Room := { frames := 4, cells := 2, slots := 36, locals := 86 }
set_option maxRecDepth 65536 in
set_option maxHeartbeats 40000000 in
theorem c_sub2 {l : Launch} {Z : State} {a0 : Array Value} (K : Ctx Z a0) {x : Addr} {cs : List Int32} {o j : Nat} {h0 : Heap} (G : Sx Z) (F : Str Z h0 x cs) (hl : cs.length ≤ 32) (ho : o ≤ j) (hj : j ≤ cs.length) (hne : o = 0 → j < cs.length) :
    OC l Z EL false [] (⟨"java/lang/String", "substring", "(II)Ljava/lang/String;"⟩ : MethodName) jdk_42_method_92_code 5 (some (.object "java/lang/String")) rm_c_sub2 #[(.ref x), (.int (Int32.ofNat o)), (.int (Int32.ofNat j))] h0 [] (fun v _ h => ∃ y, v = some (.ref y) ∧ Str Z h y ((cs.drop o).take (j - o)) ∧ Ext h0 h) := by
  have hw := K.1
  have hS : ∀ a ∈ Bundle.stringAtoms, a.before a0 Z = true := K.2.2.1
  obtain ⟨t, kt, X1, Fc, Fv, A, P⟩ := id F
  refine oEnter (by decide +kernel) K.2.1.2.1 ?_
  intro _p _e _s m _below _meth _c T0 W0 S0
  refine oEq (g' := mkF m 0 #[.val (.ref x), .val (.int (Int32.ofNat o)), .val (.int (Int32.ofNat j)), .unset, .unset] []) (by first | (simp [entryFrame, mkF, argsToLocals, Value.category]; done) | rfl) ?_
  refine oGo W0 [.aload_n 0] (by decide +kernel) (ls' := #[sR x, sI (Int32.ofNat o), sI (Int32.ofNat j), sU, sU]) (st' := [(.ref x)]) rfl rfl (pc' := 1) rfl ?_
  obtain ⟨v1, T1, L1, h1, vm1, W1, ⟨rfl, e1⟩, C1, st1⟩ := oCallV W0 (idx := 505) (pc := 1) (ls := #[sR x, sI (Int32.ofNat o), sI (Int32.ofNat j), sU, sU]) (st := []) (argsL := []) X1 (c_len K F) (fun x hx => nomatch hx) (wK K 56 rfl) (wK K 57 rfl) (notFace_of_selects (args := #[]) (mvT W0.warm (wK K 59 rfl))) (wK K 59 rfl) (wK K 58 rfl) (wK K 7 rfl) (wK K 60 rfl) (by decide) (na := 0) rfl (by decide +kernel) rfl (stk := [(.ref x)]) rfl (by decide +kernel) (V := 0) (lb rfl) (lb rfl) (lb rfl) (lb rfl) (lb rfl)
  refine oLift st1 ?_
  rw [e1] at W1 C1
  show OG _ _ _ _ _ _ _ _ _ _ _ (mkF m 4 #[sR x, sI (Int32.ofNat o), sI (Int32.ofNat j), sU, sU] [(.int (Int32.ofNat cs.length))])
  refine oGo W1 [.istore_n 3, .iload_n 1, .iload_n 2, .iload_n 3] (by decide +kernel) (ls' := #[sR x, sI (Int32.ofNat o), sI (Int32.ofNat j), sI (Int32.ofNat cs.length), sU]) (st' := [(.int (Int32.ofNat cs.length)), (.int (Int32.ofNat j)), (.int (Int32.ofNat o))]) rfl rfl (pc' := 8) rfl ?_
  obtain ⟨v2, T2, L2, h2, vm2, W2, ⟨rfl, e2⟩, C2, st2⟩ := oCallS W1 (idx := 521) (pc := 8) (ls := #[sR x, sI (Int32.ofNat o), sI (Int32.ofNat j), sI (Int32.ofNat cs.length), sU]) (st := []) (argsL := [(.int (Int32.ofNat o)), (.int (Int32.ofNat j)), (.int (Int32.ofNat cs.length))]) (c_cbe K ho hj (by omega) G) (fun x hx => nomatch hx) (wK K 166 rfl) (wK K 167 rfl) (wK K 7 rfl) (wK K 168 rfl) (by decide) (na := 3) rfl (by decide +kernel) rfl (stk := [(.int (Int32.ofNat cs.length)), (.int (Int32.ofNat j)), (.int (Int32.ofNat o))]) rfl (by decide +kernel) (V := 0) (lb rfl) (lb rfl) (lb rfl) (lb rfl) (lb rfl)
  refine oLift st2 ?_
  rw [e2] at W2 C2
  show OG _ _ _ _ _ _ _ _ _ _ _ (mkF m 11 #[sR x, sI (Int32.ofNat o), sI (Int32.ofNat j), sI (Int32.ofNat cs.length), sU] [])
  refine oGo W2 [.iload_n 1] (by decide +kernel) (ls' := #[sR x, sI (Int32.ofNat o), sI (Int32.ofNat j), sI (Int32.ofNat cs.length), sU]) (st' := [(.int (Int32.ofNat o))]) rfl rfl (pc' := 12) rfl ?_
  by_cases hc3 : (Int32.ofNat o) = (0 : Int32)
  · refine oIfF W2 (cd := .ne) (o := 10) (by decide +kernel) (XT.i0_ne_f hc3) (pc' := 15) rfl ?_
    refine oGo W2 [.iload_n 2, .iload_n 3] (by decide +kernel) (ls' := #[sR x, sI (Int32.ofNat o), sI (Int32.ofNat j), sI (Int32.ofNat cs.length), sU]) (st' := [(.int (Int32.ofNat cs.length)), (.int (Int32.ofNat j))]) rfl rfl (pc' := 17) rfl ?_
    refine oIcT W2 (cd := .ne) (o := 5) (by decide +kernel) (XT.ii_ne_t (fun q => absurd (ofNat_inj (by omega) (by omega) q) (by have := hne (ofNat0 (by omega) hc3); omega))) (pc' := 22) (by decide) (by decide) ?_
    refine oGo W2 [.iload_n 2, .iload_n 1, .isub, .istore 4, .aload_n 0] (by decide +kernel) (ls' := #[sR x, sI (Int32.ofNat o), sI (Int32.ofNat j), sI (Int32.ofNat cs.length), sI ((Int32.ofNat j) - (Int32.ofNat o))]) (st' := [(.ref x)]) rfl rfl (pc' := 28) rfl ?_
    rw [sub_n ho]
    obtain ⟨v4, T4, L4, h4, vm4, W4, ⟨rfl, e4⟩, C4, st4⟩ := oCallV W2 (idx := 492) (pc := 28) (ls := #[sR x, sI (Int32.ofNat o), sI (Int32.ofNat j), sI (Int32.ofNat cs.length), sI (Int32.ofNat (j - o))]) (st := []) (argsL := []) X1 (c_isl K Fc) (fun x hx => nomatch hx) (wK K 51 rfl) (wK K 52 rfl) (notFace_of_selects (args := #[]) (mvT W2.warm (wK K 54 rfl))) (wK K 54 rfl) (wK K 53 rfl) (wK K 7 rfl) (wK K 55 rfl) (by decide) (na := 0) rfl (by decide +kernel) rfl (stk := [(.ref x)]) rfl (by decide +kernel) (V := 0) (lb rfl) (lb rfl) (lb rfl) (lb rfl) (lb rfl)
    refine oLift st4 ?_
    rw [e4] at W4 C4
    show OG _ _ _ _ _ _ _ _ _ _ _ (mkF m 31 #[sR x, sI (Int32.ofNat o), sI (Int32.ofNat j), sI (Int32.ofNat cs.length), sI (Int32.ofNat (j - o))] [(.int 1)])
    refine oIfF W4 (cd := .eq) (o := 16) (by decide +kernel) (XT.i0_eq_f (by decide)) (pc' := 34) rfl ?_
    refine oGo W4 [.aload_n 0] (by decide +kernel) (ls' := #[sR x, sI (Int32.ofNat o), sI (Int32.ofNat j), sI (Int32.ofNat cs.length), sI (Int32.ofNat (j - o))]) (st' := [(.ref x)]) rfl rfl (pc' := 35) rfl ?_
    obtain ⟨T5, W5, st5⟩ := oGetF W4 (pc := 35) (ls := #[sR x, sI (Int32.ofNat o), sI (Int32.ofNat j), sI (Int32.ofNat cs.length), sI (Int32.ofNat (j - o))]) (st := []) (wK K 32 rfl) Via.refl Fv (by decide +kernel)
    refine oLift st5 ?_
    refine oGo W5 [.iload_n 1, .iload 4] (by decide +kernel) (ls' := #[sR x, sI (Int32.ofNat o), sI (Int32.ofNat j), sI (Int32.ofNat cs.length), sI (Int32.ofNat (j - o))]) (st' := [(.int (Int32.ofNat (j - o))), (.int (Int32.ofNat o)), (.ref t)]) rfl rfl (pc' := 41) rfl ?_
    obtain ⟨v6, T6, L6, h6, vm6, W6, ⟨y, rfl, F6, E6⟩, C6, st6⟩ := oCallS W5 (idx := 685) (pc := 41) (ls := #[sR x, sI (Int32.ofNat o), sI (Int32.ofNat j), sI (Int32.ofNat cs.length), sI (Int32.ofNat (j - o))]) (st := []) (argsL := [(.ref t), (.int (Int32.ofNat o)), (.int (Int32.ofNat (j - o)))]) (c_nst K A P hl (by omega) (fun q => by have := hne q; omega)) (fun x hx => nomatch hx) (wK K 174 rfl) (wK K 140 rfl) (wK K 68 rfl) (wK K 141 rfl) (by decide) (na := 3) rfl (by decide +kernel) rfl (stk := [(.int (Int32.ofNat (j - o))), (.int (Int32.ofNat o)), (.ref t)]) rfl (by decide +kernel) (V := 0) (lb rfl) (lb rfl) (lb rfl) (lb rfl) (lb rfl)
    refine oLift st6 ?_
    show OG _ _ _ _ _ _ _ _ _ _ _ (mkF m 44 #[sR x, sI (Int32.ofNat o), sI (Int32.ofNat j), sI (Int32.ofNat cs.length), sI (Int32.ofNat (j - o))] [(.ref y)])
    refine oGo W6 [.goto 13] (by decide +kernel) (ls' := #[sR x, sI (Int32.ofNat o), sI (Int32.ofNat j), sI (Int32.ofNat cs.length), sI (Int32.ofNat (j - o))]) (st' := [(.ref y)]) rfl rfl (pc' := 57) rfl ?_
    exact oRetA rfl W6 rfl rfl (by decide +kernel) (lb rfl) (lb rfl) (fun vm' hv => ⟨y, rfl, F6, E6⟩)
  · refine oIfT W2 (cd := .ne) (o := 10) (by decide +kernel) (XT.i0_ne_t hc3) (pc' := 22) (by decide) (by decide) ?_
    refine oGo W2 [.iload_n 2, .iload_n 1, .isub, .istore 4, .aload_n 0] (by decide +kernel) (ls' := #[sR x, sI (Int32.ofNat o), sI (Int32.ofNat j), sI (Int32.ofNat cs.length), sI ((Int32.ofNat j) - (Int32.ofNat o))]) (st' := [(.ref x)]) rfl rfl (pc' := 28) rfl ?_
    rw [sub_n ho]
    obtain ⟨v7, T7, L7, h7, vm7, W7, ⟨rfl, e7⟩, C7, st7⟩ := oCallV W2 (idx := 492) (pc := 28) (ls := #[sR x, sI (Int32.ofNat o), sI (Int32.ofNat j), sI (Int32.ofNat cs.length), sI (Int32.ofNat (j - o))]) (st := []) (argsL := []) X1 (c_isl K Fc) (fun x hx => nomatch hx) (wK K 51 rfl) (wK K 52 rfl) (notFace_of_selects (args := #[]) (mvT W2.warm (wK K 54 rfl))) (wK K 54 rfl) (wK K 53 rfl) (wK K 7 rfl) (wK K 55 rfl) (by decide) (na := 0) rfl (by decide +kernel) rfl (stk := [(.ref x)]) rfl (by decide +kernel) (V := 0) (lb rfl) (lb rfl) (lb rfl) (lb rfl) (lb rfl)
    refine oLift st7 ?_
    rw [e7] at W7 C7
    show OG _ _ _ _ _ _ _ _ _ _ _ (mkF m 31 #[sR x, sI (Int32.ofNat o), sI (Int32.ofNat j), sI (Int32.ofNat cs.length), sI (Int32.ofNat (j - o))] [(.int 1)])
    refine oIfF W7 (cd := .eq) (o := 16) (by decide +kernel) (XT.i0_eq_f (by decide)) (pc' := 34) rfl ?_
    refine oGo W7 [.aload_n 0] (by decide +kernel) (ls' := #[sR x, sI (Int32.ofNat o), sI (Int32.ofNat j), sI (Int32.ofNat cs.length), sI (Int32.ofNat (j - o))]) (st' := [(.ref x)]) rfl rfl (pc' := 35) rfl ?_
    obtain ⟨T8, W8, st8⟩ := oGetF W7 (pc := 35) (ls := #[sR x, sI (Int32.ofNat o), sI (Int32.ofNat j), sI (Int32.ofNat cs.length), sI (Int32.ofNat (j - o))]) (st := []) (wK K 32 rfl) Via.refl Fv (by decide +kernel)
    refine oLift st8 ?_
    refine oGo W8 [.iload_n 1, .iload 4] (by decide +kernel) (ls' := #[sR x, sI (Int32.ofNat o), sI (Int32.ofNat j), sI (Int32.ofNat cs.length), sI (Int32.ofNat (j - o))]) (st' := [(.int (Int32.ofNat (j - o))), (.int (Int32.ofNat o)), (.ref t)]) rfl rfl (pc' := 41) rfl ?_
    obtain ⟨v9, T9, L9, h9, vm9, W9, ⟨y, rfl, F9, E9⟩, C9, st9⟩ := oCallS W8 (idx := 685) (pc := 41) (ls := #[sR x, sI (Int32.ofNat o), sI (Int32.ofNat j), sI (Int32.ofNat cs.length), sI (Int32.ofNat (j - o))]) (st := []) (argsL := [(.ref t), (.int (Int32.ofNat o)), (.int (Int32.ofNat (j - o)))]) (c_nst K A P hl (by omega) (fun q => by have := hne q; omega)) (fun x hx => nomatch hx) (wK K 174 rfl) (wK K 140 rfl) (wK K 68 rfl) (wK K 141 rfl) (by decide) (na := 3) rfl (by decide +kernel) rfl (stk := [(.int (Int32.ofNat (j - o))), (.int (Int32.ofNat o)), (.ref t)]) rfl (by decide +kernel) (V := 0) (lb rfl) (lb rfl) (lb rfl) (lb rfl) (lb rfl)
    refine oLift st9 ?_
    show OG _ _ _ _ _ _ _ _ _ _ _ (mkF m 44 #[sR x, sI (Int32.ofNat o), sI (Int32.ofNat j), sI (Int32.ofNat cs.length), sI (Int32.ofNat (j - o))] [(.ref y)])
    refine oGo W9 [.goto 13] (by decide +kernel) (ls' := #[sR x, sI (Int32.ofNat o), sI (Int32.ofNat j), sI (Int32.ofNat cs.length), sI (Int32.ofNat (j - o))]) (st' := [(.ref y)]) rfl rfl (pc' := 57) rfl ?_
    exact oRetA rfl W9 rfl rfl (by decide +kernel) (lb rfl) (lb rfl) (fun vm' hv => ⟨y, rfl, F9, E9⟩)
abbrev rm_c_gpr : Room := { frames := 0, cells := 0, slots := 0, locals := 0 }
set_option maxRecDepth 65536 in
set_option maxHeartbeats 40000000 in
theorem c_gpr {l : Launch} {Z : State} {a0 : Array Value} {nb : Bool} (K : Ctx Z a0) {u : Addr} {c : Int32} {h0 : Heap} (hc : ¬ c < 0 ∧ ¬ (255 : Int32) < c) :
    OC l Z EL nb [] (⟨"java/lang/CharacterDataLatin1", "getProperties", "(I)I"⟩ : MethodName) jdk_116_method_1_code 4 (some .int) rm_c_gpr #[(.ref u), (.int c)] h0 [] (fun v _ h => v = some (.int (atn c.toNatClampNeg)) ∧ h = h0) := by
  have hw := K.1
  have hS : ∀ a ∈ Bundle.stringAtoms, a.before a0 Z = true := K.2.2.1
  obtain ⟨u1, va, kv, vs, Su, Xu, SA, AA, hA⟩ := K.2.2.2.2
  have hcc : c.toUInt32.toUInt16.toUInt32.toInt32 = c := narC hc
  refine oEnter (by decide +kernel) K.2.1.2.1 ?_
  intro _p _e _s m _below _meth _c T0 W0 S0
  refine oEq (g' := mkF m 0 #[.val (.ref u), .val (.int c), .unset, .unset] []) (by first | (simp [entryFrame, mkF, argsToLocals, Value.category]; done) | rfl) ?_
  refine oGo W0 [.iload_n 1, .i2c, .istore_n 2] (by decide +kernel) (ls' := #[sR u, sI c, sI (c.toUInt32.toUInt16.toUInt32.toInt32), sU]) (st' := []) rfl rfl (pc' := 3) rfl ?_
  rw [hcc]
  obtain ⟨T1, W1, st1⟩ := oGetS W0 (pc := 3) (ls := #[sR u, sI c, sI c, sU]) (st := []) (wK K 109 rfl) Via.refl (SA.ext W0.ext) (by decide +kernel)
  refine oLift st1 ?_
  refine oGo W1 [.iload_n 2] (by decide +kernel) (ls' := #[sR u, sI c, sI c, sU]) (st' := [(.int c), (.ref va)]) rfl rfl (pc' := 7) rfl ?_
  refine oGet W1 (AA.ext W1.ext) (v := (.int (atn c.toNatClampNeg))) hc.1 (hA _ (lo_nat hc).2) (Or.inr (Or.inr (Or.inl ⟨rfl, rfl⟩))) (by decide +kernel) ?_
  refine oGo W1 [.istore_n 3, .iload_n 3] (by decide +kernel) (ls' := #[sR u, sI c, sI c, sI (atn c.toNatClampNeg)]) (st' := [(.int (atn c.toNatClampNeg))]) rfl rfl (pc' := 10) rfl ?_
  exact oRetI W1 (by decide +kernel) (lb rfl) (lb rfl) (fun vm' hv => ⟨rfl, rfl⟩)
abbrev rm_c_iws : Room := { frames := 1, cells := 0, slots := 0, locals := 15 }
set_option maxRecDepth 65536 in
set_option maxHeartbeats 40000000 in
theorem c_iws {l : Launch} {Z : State} {a0 : Array Value} {nb : Bool} (K : Ctx Z a0) {u : Addr} {c : Int32} {h0 : Heap} (hc : ¬ c < 0 ∧ ¬ (255 : Int32) < c) (Xu : Exa Z h0 u "java/lang/CharacterDataLatin1") :
    OC l Z EL nb [] (⟨"java/lang/CharacterDataLatin1", "isWhitespace", "(I)Z"⟩ : MethodName) jdk_116_method_26_code 3 (some .boolean) rm_c_iws #[(.ref u), (.int c)] h0 [] (fun v _ h => ∃ r, v = some (.int r) ∧ h = h0 ∧ ((r = 1 ∧ Ws c) ∨ (r = 0 ∧ ¬ (Ws c)))) := by
  have hw := K.1
  have hS : ∀ a ∈ Bundle.stringAtoms, a.before a0 Z = true := K.2.2.1
  refine oEnter (by decide +kernel) K.2.1.2.1 ?_
  intro _p _e _s m _below _meth _c T0 W0 S0
  refine oEq (g' := mkF m 0 #[.val (.ref u), .val (.int c), .unset] []) (by first | (simp [entryFrame, mkF, argsToLocals, Value.category]; done) | rfl) ?_
  refine oGo W0 [.aload_n 0, .iload_n 1] (by decide +kernel) (ls' := #[sR u, sI c, sU]) (st' := [(.int c), (.ref u)]) rfl rfl (pc' := 2) rfl ?_
  obtain ⟨v1, T1, L1, h1, vm1, W1, ⟨rfl, e1⟩, C1, st1⟩ := oCallV W0 (idx := 15) (pc := 2) (ls := #[sR u, sI c, sU]) (st := []) (argsL := [(.int c)]) Xu (c_gpr K hc) (fun x hx => nomatch hx) (wK K 104 rfl) (wK K 105 rfl) (notFace_of_selects (args := #[]) (mvT W0.warm (wK K 107 rfl))) (wK K 107 rfl) (wK K 106 rfl) (wK K 98 rfl) (wK K 108 rfl) (by decide) (na := 1) rfl (by decide +kernel) rfl (stk := [(.int c), (.ref u)]) rfl (by decide +kernel) (V := 0) (lb rfl) (lb rfl) (lb rfl) (lb rfl) (lb rfl)
  refine oLift st1 ?_
  rw [e1] at W1 C1
  show OG _ _ _ _ _ _ _ _ _ _ _ (mkF m 5 #[sR u, sI c, sU] [(.int (atn c.toNatClampNeg))])
  refine oGo W1 [.istore_n 2, .iload_n 2, .sipush 28672, .iand, .sipush 16384] (by decide +kernel) (ls' := #[sR u, sI c, sI (atn c.toNatClampNeg)]) (st' := [(.int 16384), (.int ((atn c.toNatClampNeg) &&& (28672 : Int32)))]) rfl rfl (pc' := 14) rfl ?_
  by_cases hc2 : ((atn c.toNatClampNeg) &&& (28672 : Int32)) = (16384 : Int32)
  · refine oIcF W1 (cd := .ne) (o := 7) (by decide +kernel) (XT.ii_ne_f hc2) (pc' := 17) rfl ?_
    refine oGo W1 [.iconst 1, .goto 4] (by decide +kernel) (ls' := #[sR u, sI c, sI (atn c.toNatClampNeg)]) (st' := [(.int 1)]) rfl rfl (pc' := 22) rfl ?_
    exact oRetN (by simp) W1 rfl (by decide +kernel) (lb rfl) (lb rfl) (fun vm' hv => ⟨_, rfl, rfl, Or.inl ⟨rfl, (ws_tab hc).mp hc2⟩⟩)
  refine oIcT W1 (cd := .ne) (o := 7) (by decide +kernel) (XT.ii_ne_t hc2) (pc' := 21) (by decide) (by decide) ?_
  refine oGo W1 [.iconst 0] (by decide +kernel) (ls' := #[sR u, sI c, sI (atn c.toNatClampNeg)]) (st' := [(.int 0)]) rfl rfl (pc' := 22) rfl ?_
  exact oRetN (by simp) W1 rfl (by decide +kernel) (lb rfl) (lb rfl) (fun vm' hv => ⟨_, rfl, rfl, Or.inr ⟨rfl, fun q => hc2 ((ws_tab hc).mpr q)⟩⟩)
abbrev rm_c_gch : Room := { frames := 0, cells := 0, slots := 0, locals := 0 }
set_option maxRecDepth 65536 in
set_option maxHeartbeats 40000000 in
theorem c_gch {l : Launch} {Z : State} {a0 : Array Value} {nb : Bool} (K : Ctx Z a0) {t : Addr} {kt : ClassId} {cs : List Int32} {i : Nat} {c : Int32} {h0 : Heap} (A : OA Z h0 t kt .byte (byt cs)) (hi : i ≤ 4000) (hc : cs[i]? = some c) (hP : ¬ c < 0 ∧ ¬ (255 : Int32) < c) :
    OC l Z EL nb [] (⟨"java/lang/StringLatin1", "getChar", "([BI)C"⟩ : MethodName) jdk_43_method_44_code 2 (some .char) rm_c_gch #[(.ref t), (.int (Int32.ofNat i))] h0 [] (fun v _ h => v = some (.int c) ∧ h = h0) := by
  have hw := K.1
  have hS : ∀ a ∈ Bundle.stringAtoms, a.before a0 Z = true := K.2.2.1
  refine oEnter (by decide +kernel) K.2.1.2.1 ?_
  intro _p _e _s m _below _meth _c T0 W0 S0
  refine oEq (g' := mkF m 0 #[.val (.ref t), .val (.int (Int32.ofNat i))] []) (by first | (simp [entryFrame, mkF, argsToLocals, Value.category]; done) | rfl) ?_
  refine oGo W0 [.aload_n 0, .iload_n 1] (by decide +kernel) (ls' := #[sR t, sI (Int32.ofNat i)]) (st' := [(.int (Int32.ofNat i)), (.ref t)]) rfl rfl (pc' := 2) rfl ?_
  refine oGet W0 A (v := (.int c.toInt8.toInt32)) (n_nn (by omega)) (by rw [n_cl (by omega), List.getElem?_map, hc]; rfl) (Or.inr (Or.inl ⟨rfl, rfl⟩)) (by decide +kernel) ?_
  refine oGo W0 [.sipush 255, .iand, .i2c] (by decide +kernel) (ls' := #[sR t, sI (Int32.ofNat i)]) (st' := [(.int ((c.toInt8.toInt32 &&& (255 : Int32)).toUInt32.toUInt16.toUInt32.toInt32))]) rfl rfl (pc' := 8) rfl ?_
  rw [own_lo8c hP]
  exact oRetN (by simp) W0 (narC hP) (by decide +kernel) (lb rfl) (lb rfl) (fun vm' hv => ⟨rfl, rfl⟩)
abbrev rm_c_inw : Room := { frames := 2, cells := 0, slots := 0, locals := 29 }
set_option maxRecDepth 65536 in
set_option maxHeartbeats 40000000 in
theorem c_inw_l {l : Launch} {Z : State} {a0 : Array Value} {nb : Bool} (K : Ctx Z a0) {t : Addr} {kt : ClassId} {cs : List Int32} {h0 : Heap} (A : OA Z h0 t kt .byte (byt cs)) (P : ∀ c ∈ cs, ¬ c < 0 ∧ ¬ (255 : Int32) < c) (hl : cs.length ≤ 4000) {p : Program} {e : Env} {s : State} {m : MethodId} {args : Array Value} {below : List Frame} {meth : Method} {cc : Code} :
    ∀ (rest : List Int32) (i : Nat) (s3 : Slot) {vm0 : Vm} {T0 : State} {lc : List Loc} (W0 : OW p l e rm_c_inw s m args below meth cc Z a0 EL nb "java/lang/StringLatin1" jdk_43_method_37_code 4 (some .int) "indexOfNonWhitespace" vm0 T0 lc 0 0 h0) (hr : cs.drop i = rest) (hi : i ≤ cs.length) (h3 : s3 = .unset ∨ ∃ k, s3 = .val (.int k)) (hq : lw cs = i + lw rest), OG p e below s Z EL nb (fun v _ h => v = some (.int (Int32.ofNat (lw cs))) ∧ h = h0) rm_c_inw.cells rm_c_inw.slots T0 (mkF m 5 #[sR t, sI (Int32.ofNat cs.length), sI (Int32.ofNat i), s3] [])
  | [], i, s3, vm0, T0, lc, W0, hr, hi, h3, hq => by
    have hw := K.1
    refine oGo W0 [.iload_n 2, .iload_n 1] (by decide +kernel) (ls' := #[sR t, sI (Int32.ofNat cs.length), sI (Int32.ofNat i), s3]) (st' := [(.int (Int32.ofNat cs.length)), (.int (Int32.ofNat i))]) rfl rfl (pc' := 7) rfl ?_
    refine oIcT W0 (cd := .ge) (o := 40) (by decide +kernel) (XT.ii_ge_t (fun q => absurd ((n_lt (by omega) (by omega)).mp q) (by have := List.drop_eq_nil_iff.mp hr; omega))) (pc' := 47) (by decide) (by decide) ?_
    refine oGo W0 [.iload_n 2] (by decide +kernel) (ls' := #[sR t, sI (Int32.ofNat cs.length), sI (Int32.ofNat i), s3]) (st' := [(.int (Int32.ofNat i))]) rfl rfl (pc' := 48) rfl ?_
    exact oRetI W0 (by decide +kernel) (lb rfl) (lb rfl) (fun vm' hv => ⟨by rw [hq]; rfl, rfl⟩)
  | c :: rest, i, s3, vm0, T0, lc, W0, hr, hi, h3, hq => by
    have hw := K.1
    have hc : cs[i]? = some c := by have := congrArg (fun l => l[0]?) hr; simpa [List.getElem?_drop] using this
    have hr1 : cs.drop (i + 1) = rest := by have := congrArg List.tail hr; simpa [List.tail_drop] using this
    have hlt : i < cs.length := (List.getElem?_eq_some_iff.mp hc).1
    have hP := P c (List.mem_of_getElem? hc)
    obtain ⟨u, va, kv, vs, Su, Xu, SA, AA, hA⟩ := K.2.2.2.2
    refine oGo W0 [.iload_n 2, .iload_n 1] (by decide +kernel) (ls' := #[sR t, sI (Int32.ofNat cs.length), sI (Int32.ofNat i), s3]) (st' := [(.int (Int32.ofNat cs.length)), (.int (Int32.ofNat i))]) rfl rfl (pc' := 7) rfl ?_
    refine oIcF W0 (cd := .ge) (o := 40) (by decide +kernel) (XT.ii_ge_f ((n_lt (by omega) (by omega)).mpr hlt)) (pc' := 10) rfl ?_
    refine oGo W0 [.aload_n 0, .iload_n 2] (by decide +kernel) (ls' := #[sR t, sI (Int32.ofNat cs.length), sI (Int32.ofNat i), s3]) (st' := [(.int (Int32.ofNat i)), (.ref t)]) rfl rfl (pc' := 12) rfl ?_
    obtain ⟨v101, T101, L101, h101, vm101, W101, ⟨rfl, e101⟩, C101, st101⟩ := oCallS W0 (idx := 50) (pc := 12) (ls := #[sR t, sI (Int32.ofNat cs.length), sI (Int32.ofNat i), s3]) (st := []) (argsL := [(.ref t), (.int (Int32.ofNat i))]) (c_gch K A (by omega) hc hP) (fun x hx => nomatch hx) (wK K 94 rfl) (wK K 95 rfl) (wK K 68 rfl) (wK K 96 rfl) (by decide) (na := 2) rfl (by decide +kernel) rfl (stk := [(.int (Int32.ofNat i)), (.ref t)]) rfl (by decide +kernel) (V := 0) (lb rfl) (lb rfl) (lb rfl) (lb rfl) (lb rfl)
    refine oLift st101 ?_
    rw [e101] at W101 C101
    show OG _ _ _ _ _ _ _ _ _ _ _ (mkF m 15 #[sR t, sI (Int32.ofNat cs.length), sI (Int32.ofNat i), s3] [(.int c)])
    rcases h3 with rfl | ⟨k3, rfl⟩
    · refine oGo W101 [.istore_n 3, .iload_n 3, .bipush 32] (by decide +kernel) (ls' := #[sR t, sI (Int32.ofNat cs.length), sI (Int32.ofNat i), sI c]) (st' := [(.int 32), (.int c)]) rfl rfl (pc' := 19) rfl ?_
      by_cases hc102 : c = (32 : Int32)
      · refine oIcT W101 (cd := .eq) (o := 22) (by decide +kernel) (XT.ii_eq_t hc102) (pc' := 41) (by decide) (by decide) ?_
        refine oGo W101 [.iinc 2 1, .goto (-39)] (by decide +kernel) (ls' := #[sR t, sI (Int32.ofNat cs.length), sI ((Int32.ofNat i) + (1 : Int32)), sI c]) (st' := []) rfl rfl (pc' := 5) rfl ?_
        rw [n_in]
        exact c_inw_l K A P hl rest (i + 1) _ W101 hr1 (by omega) (Or.inr ⟨_, rfl⟩) (by rw [hq, lw, if_pos (show Ws c from Or.inl hc102)]; omega)
      refine oIcF W101 (cd := .eq) (o := 22) (by decide +kernel) (XT.ii_eq_f hc102) (pc' := 22) rfl ?_
      refine oGo W101 [.iload_n 3, .bipush 9] (by decide +kernel) (ls' := #[sR t, sI (Int32.ofNat cs.length), sI (Int32.ofNat i), sI c]) (st' := [(.int 9), (.int c)]) rfl rfl (pc' := 25) rfl ?_
      by_cases hc103 : c = (9 : Int32)
      · refine oIcT W101 (cd := .eq) (o := 16) (by decide +kernel) (XT.ii_eq_t hc103) (pc' := 41) (by decide) (by decide) ?_
        refine oGo W101 [.iinc 2 1, .goto (-39)] (by decide +kernel) (ls' := #[sR t, sI (Int32.ofNat cs.length), sI ((Int32.ofNat i) + (1 : Int32)), sI c]) (st' := []) rfl rfl (pc' := 5) rfl ?_
        rw [n_in]
        exact c_inw_l K A P hl rest (i + 1) _ W101 hr1 (by omega) (Or.inr ⟨_, rfl⟩) (by rw [hq, lw, if_pos (show Ws c from Or.inr (Or.inl (by rw [hc103]; decide)))]; omega)
      refine oIcF W101 (cd := .eq) (o := 16) (by decide +kernel) (XT.ii_eq_f hc103) (pc' := 28) rfl ?_
      obtain ⟨T104, W104, st104⟩ := oGetS W101 (pc := 28) (ls := #[sR t, sI (Int32.ofNat cs.length), sI (Int32.ofNat i), sI c]) (st := []) (wK K 97 rfl) Via.refl (Su.ext W101.ext) (by decide +kernel)
      refine oLift st104 ?_
      refine oGo W104 [.iload_n 3] (by decide +kernel) (ls' := #[sR t, sI (Int32.ofNat cs.length), sI (Int32.ofNat i), sI c]) (st' := [(.int c), (.ref u)]) rfl rfl (pc' := 32) rfl ?_
      obtain ⟨v105, T105, L105, h105, vm105, W105, ⟨r105, rfl, e105, Q105⟩, C105, st105⟩ := oCallV W104 (idx := 211) (pc := 32) (ls := #[sR t, sI (Int32.ofNat cs.length), sI (Int32.ofNat i), sI c]) (st := []) (argsL := [(.int c)]) (Xu.ext W104.ext) (c_iws K hP (Xu.ext W104.ext)) (fun x hx => nomatch hx) (wK K 99 rfl) (wK K 100 rfl) (notFace_of_selects (args := #[]) (mvT W104.warm (wK K 102 rfl))) (wK K 102 rfl) (wK K 101 rfl) (wK K 98 rfl) (wK K 103 rfl) (by decide) (na := 1) rfl (by decide +kernel) rfl (stk := [(.int c), (.ref u)]) rfl (by decide +kernel) (V := 0) (lb rfl) (lb rfl) (lb rfl) (lb rfl) (lb rfl)
      refine oLift st105 ?_
      rw [e105] at W105 C105
      show OG _ _ _ _ _ _ _ _ _ _ _ (mkF m 35 #[sR t, sI (Int32.ofNat cs.length), sI (Int32.ofNat i), sI c] [(.int r105)])
      rcases Q105 with ⟨rfl, hq105⟩ | ⟨rfl, hq105⟩
      · refine oIfT W105 (cd := .ne) (o := 6) (by decide +kernel) (XT.i0_ne_t (by decide)) (pc' := 41) (by decide) (by decide) ?_
        refine oGo W105 [.iinc 2 1, .goto (-39)] (by decide +kernel) (ls' := #[sR t, sI (Int32.ofNat cs.length), sI ((Int32.ofNat i) + (1 : Int32)), sI c]) (st' := []) rfl rfl (pc' := 5) rfl ?_
        rw [n_in]
        exact c_inw_l K A P hl rest (i + 1) _ W105 hr1 (by omega) (Or.inr ⟨_, rfl⟩) (by rw [hq, lw, if_pos hq105]; omega)
      · refine oIfF W105 (cd := .ne) (o := 6) (by decide +kernel) (XT.i0_ne_f rfl) (pc' := 38) rfl ?_
        refine oGo W105 [.goto 9, .iload_n 2] (by decide +kernel) (ls' := #[sR t, sI (Int32.ofNat cs.length), sI (Int32.ofNat i), sI c]) (st' := [(.int (Int32.ofNat i))]) rfl rfl (pc' := 48) rfl ?_
        exact oRetI W105 (by decide +kernel) (lb rfl) (lb rfl) (fun vm' hv => ⟨by rw [hq, lw, if_neg hq105]; rfl, rfl⟩)
    · refine oGo W101 [.istore_n 3, .iload_n 3, .bipush 32] (by decide +kernel) (ls' := #[sR t, sI (Int32.ofNat cs.length), sI (Int32.ofNat i), sI c]) (st' := [(.int 32), (.int c)]) rfl rfl (pc' := 19) rfl ?_
      by_cases hc106 : c = (32 : Int32)
      · refine oIcT W101 (cd := .eq) (o := 22) (by decide +kernel) (XT.ii_eq_t hc106) (pc' := 41) (by decide) (by decide) ?_
        refine oGo W101 [.iinc 2 1, .goto (-39)] (by decide +kernel) (ls' := #[sR t, sI (Int32.ofNat cs.length), sI ((Int32.ofNat i) + (1 : Int32)), sI c]) (st' := []) rfl rfl (pc' := 5) rfl ?_
        rw [n_in]
        exact c_inw_l K A P hl rest (i + 1) _ W101 hr1 (by omega) (Or.inr ⟨_, rfl⟩) (by rw [hq, lw, if_pos (show Ws c from Or.inl hc106)]; omega)
      refine oIcF W101 (cd := .eq) (o := 22) (by decide +kernel) (XT.ii_eq_f hc106) (pc' := 22) rfl ?_
      refine oGo W101 [.iload_n 3, .bipush 9] (by decide +kernel) (ls' := #[sR t, sI (Int32.ofNat cs.length), sI (Int32.ofNat i), sI c]) (st' := [(.int 9), (.int c)]) rfl rfl (pc' := 25) rfl ?_
      by_cases hc107 : c = (9 : Int32)
      · refine oIcT W101 (cd := .eq) (o := 16) (by decide +kernel) (XT.ii_eq_t hc107) (pc' := 41) (by decide) (by decide) ?_
        refine oGo W101 [.iinc 2 1, .goto (-39)] (by decide +kernel) (ls' := #[sR t, sI (Int32.ofNat cs.length), sI ((Int32.ofNat i) + (1 : Int32)), sI c]) (st' := []) rfl rfl (pc' := 5) rfl ?_
        rw [n_in]
        exact c_inw_l K A P hl rest (i + 1) _ W101 hr1 (by omega) (Or.inr ⟨_, rfl⟩) (by rw [hq, lw, if_pos (show Ws c from Or.inr (Or.inl (by rw [hc107]; decide)))]; omega)
      refine oIcF W101 (cd := .eq) (o := 16) (by decide +kernel) (XT.ii_eq_f hc107) (pc' := 28) rfl ?_
      obtain ⟨T108, W108, st108⟩ := oGetS W101 (pc := 28) (ls := #[sR t, sI (Int32.ofNat cs.length), sI (Int32.ofNat i), sI c]) (st := []) (wK K 97 rfl) Via.refl (Su.ext W101.ext) (by decide +kernel)
      refine oLift st108 ?_
      refine oGo W108 [.iload_n 3] (by decide +kernel) (ls' := #[sR t, sI (Int32.ofNat cs.length), sI (Int32.ofNat i), sI c]) (st' := [(.int c), (.ref u)]) rfl rfl (pc' := 32) rfl ?_
      obtain ⟨v109, T109, L109, h109, vm109, W109, ⟨r109, rfl, e109, Q109⟩, C109, st109⟩ := oCallV W108 (idx := 211) (pc := 32) (ls := #[sR t, sI (Int32.ofNat cs.length), sI (Int32.ofNat i), sI c]) (st := []) (argsL := [(.int c)]) (Xu.ext W108.ext) (c_iws K hP (Xu.ext W108.ext)) (fun x hx => nomatch hx) (wK K 99 rfl) (wK K 100 rfl) (notFace_of_selects (args := #[]) (mvT W108.warm (wK K 102 rfl))) (wK K 102 rfl) (wK K 101 rfl) (wK K 98 rfl) (wK K 103 rfl) (by decide) (na := 1) rfl (by decide +kernel) rfl (stk := [(.int c), (.ref u)]) rfl (by decide +kernel) (V := 0) (lb rfl) (lb rfl) (lb rfl) (lb rfl) (lb rfl)
      refine oLift st109 ?_
      rw [e109] at W109 C109
      show OG _ _ _ _ _ _ _ _ _ _ _ (mkF m 35 #[sR t, sI (Int32.ofNat cs.length), sI (Int32.ofNat i), sI c] [(.int r109)])
      rcases Q109 with ⟨rfl, hq109⟩ | ⟨rfl, hq109⟩
      · refine oIfT W109 (cd := .ne) (o := 6) (by decide +kernel) (XT.i0_ne_t (by decide)) (pc' := 41) (by decide) (by decide) ?_
        refine oGo W109 [.iinc 2 1, .goto (-39)] (by decide +kernel) (ls' := #[sR t, sI (Int32.ofNat cs.length), sI ((Int32.ofNat i) + (1 : Int32)), sI c]) (st' := []) rfl rfl (pc' := 5) rfl ?_
        rw [n_in]
        exact c_inw_l K A P hl rest (i + 1) _ W109 hr1 (by omega) (Or.inr ⟨_, rfl⟩) (by rw [hq, lw, if_pos hq109]; omega)
      · refine oIfF W109 (cd := .ne) (o := 6) (by decide +kernel) (XT.i0_ne_f rfl) (pc' := 38) rfl ?_
        refine oGo W109 [.goto 9, .iload_n 2] (by decide +kernel) (ls' := #[sR t, sI (Int32.ofNat cs.length), sI (Int32.ofNat i), sI c]) (st' := [(.int (Int32.ofNat i))]) rfl rfl (pc' := 48) rfl ?_
        exact oRetI W109 (by decide +kernel) (lb rfl) (lb rfl) (fun vm' hv => ⟨by rw [hq, lw, if_neg hq109]; rfl, rfl⟩)
set_option maxRecDepth 65536 in
set_option maxHeartbeats 40000000 in
theorem c_inw {l : Launch} {Z : State} {a0 : Array Value} {nb : Bool} (K : Ctx Z a0) {t : Addr} {kt : ClassId} {cs : List Int32} {h0 : Heap} (A : OA Z h0 t kt .byte (byt cs)) (P : ∀ c ∈ cs, ¬ c < 0 ∧ ¬ (255 : Int32) < c) (hl : cs.length ≤ 4000) :
    OC l Z EL nb [] (⟨"java/lang/StringLatin1", "indexOfNonWhitespace", "([B)I"⟩ : MethodName) jdk_43_method_37_code 4 (some .int) rm_c_inw #[(.ref t)] h0 [] (fun v _ h => v = some (.int (Int32.ofNat (lw cs))) ∧ h = h0) := by
  have hw := K.1
  have hS : ∀ a ∈ Bundle.stringAtoms, a.before a0 Z = true := K.2.2.1
  refine oEnter (by decide +kernel) K.2.1.2.1 ?_
  intro _p _e _s m _below _meth _c T0 W0 S0
  refine oEq (g' := mkF m 0 #[.val (.ref t), .unset, .unset, .unset] []) (by first | (simp [entryFrame, mkF, argsToLocals, Value.category]; done) | rfl) ?_
  refine oGo W0 [.aload_n 0] (by decide +kernel) (ls' := #[sR t, sU, sU, sU]) (st' := [(.ref t)]) rfl rfl (pc' := 1) rfl ?_
  refine oLen W0 A (by decide +kernel) ?_
  rw [List.length_map]
  refine oGo W0 [.istore_n 1, .iconst 0, .istore_n 2] (by decide +kernel) (ls' := #[sR t, sI (Int32.ofNat cs.length), sI 0, sU]) (st' := []) rfl rfl (pc' := 5) rfl ?_
  exact c_inw_l K A P hl cs 0 .unset W0 (by simp) (by omega) (Or.inl rfl) (by omega)
abbrev rm_c_lnw : Room := { frames := 2, cells := 0, slots := 0, locals := 29 }
set_option maxRecDepth 65536 in
set_option maxHeartbeats 40000000 in
theorem c_lnw_l {l : Launch} {Z : State} {a0 : Array Value} {nb : Bool} (K : Ctx Z a0) {t : Addr} {kt : ClassId} {cs : List Int32} {h0 : Heap} (A : OA Z h0 t kt .byte (byt cs)) (P : ∀ c ∈ cs, ¬ c < 0 ∧ ¬ (255 : Int32) < c) (hl : cs.length ≤ 4000) {p : Program} {e : Env} {s : State} {m : MethodId} {args : Array Value} {below : List Frame} {meth : Method} {cc : Code} :
    ∀ (i : Nat) (s3 : Slot) {vm0 : Vm} {T0 : State} {lc : List Loc} (W0 : OW p l e rm_c_lnw s m args below meth cc Z a0 EL nb "java/lang/StringLatin1" jdk_43_method_38_code 4 (some .int) "lastIndexOfNonWhitespace" vm0 T0 lc 0 0 h0) (hi : i ≤ cs.length) (h3 : s3 = .unset ∨ ∃ k, s3 = .val (.int k)) (hq : rst cs = rst (cs.take i)), OG p e below s Z EL nb (fun v _ h => v = some (.int (Int32.ofNat (rst cs).length)) ∧ h = h0) rm_c_lnw.cells rm_c_lnw.slots T0 (mkF m 5 #[sR t, sI (Int32.ofNat cs.length), sI (Int32.ofNat i), s3] [])
  | 0, s3, vm0, T0, lc, W0, hi, h3, hq => by
    have hw := K.1
    refine oGo W0 [.iconst 0, .iload_n 2] (by decide +kernel) (ls' := #[sR t, sI (Int32.ofNat cs.length), sI (Int32.ofNat 0), s3]) (st' := [(.int (Int32.ofNat 0)), (.int 0)]) rfl rfl (pc' := 7) rfl ?_
    refine oIcT W0 (cd := .ge) (o := 42) (by decide +kernel) (XT.ii_ge_t (fun q => absurd ((n_lt (a := 0) (b := 0) (by omega) (by omega)).mp q) (by omega))) (pc' := 49) (by decide) (by decide) ?_
    refine oGo W0 [.iload_n 2] (by decide +kernel) (ls' := #[sR t, sI (Int32.ofNat cs.length), sI (Int32.ofNat 0), s3]) (st' := [(.int (Int32.ofNat 0))]) rfl rfl (pc' := 50) rfl ?_
    exact oRetI W0 (by decide +kernel) (lb rfl) (lb rfl) (fun vm' hv => ⟨by rw [hq]; rfl, rfl⟩)
  | i + 1, s3, vm0, T0, lc, W0, hi, h3, hq => by
    have hw := K.1
    obtain ⟨c, hc⟩ : ∃ c, cs[i]? = some c := ⟨_, List.getElem?_eq_getElem (Nat.lt_of_succ_le hi)⟩
    have htk : cs.take (i + 1) = cs.take i ++ [c] := by rw [List.take_add_one, hc]; rfl
    have hP := P c (List.mem_of_getElem? hc)
    obtain ⟨u, va, kv, vs, Su, Xu, SA, AA, hA⟩ := K.2.2.2.2
    refine oGo W0 [.iconst 0, .iload_n 2] (by decide +kernel) (ls' := #[sR t, sI (Int32.ofNat cs.length), sI (Int32.ofNat (i + 1)), s3]) (st' := [(.int (Int32.ofNat (i + 1))), (.int 0)]) rfl rfl (pc' := 7) rfl ?_
    refine oIcF W0 (cd := .ge) (o := 42) (by decide +kernel) (XT.ii_ge_f ((n_lt (a := 0) (by omega) (by omega)).mpr (Nat.succ_pos i))) (pc' := 10) rfl ?_
    refine oGo W0 [.aload_n 0, .iload_n 2, .iconst 1, .isub] (by decide +kernel) (ls' := #[sR t, sI (Int32.ofNat cs.length), sI (Int32.ofNat (i + 1)), s3]) (st' := [(.int ((Int32.ofNat (i + 1)) - (1 : Int32))), (.ref t)]) rfl rfl (pc' := 14) rfl ?_
    rw [n_de]
    obtain ⟨v101, T101, L101, h101, vm101, W101, ⟨rfl, e101⟩, C101, st101⟩ := oCallS W0 (idx := 50) (pc := 14) (ls := #[sR t, sI (Int32.ofNat cs.length), sI (Int32.ofNat (i + 1)), s3]) (st := []) (argsL := [(.ref t), (.int (Int32.ofNat i))]) (c_gch K A (by omega) hc hP) (fun x hx => nomatch hx) (wK K 94 rfl) (wK K 95 rfl) (wK K 68 rfl) (wK K 96 rfl) (by decide) (na := 2) rfl (by decide +kernel) rfl (stk := [(.int (Int32.ofNat i)), (.ref t)]) rfl (by decide +kernel) (V := 0) (lb rfl) (lb rfl) (lb rfl) (lb rfl) (lb rfl)
    refine oLift st101 ?_
    rw [e101] at W101 C101
    show OG _ _ _ _ _ _ _ _ _ _ _ (mkF m 17 #[sR t, sI (Int32.ofNat cs.length), sI (Int32.ofNat (i + 1)), s3] [(.int c)])
    rcases h3 with rfl | ⟨k3, rfl⟩
    · refine oGo W101 [.istore_n 3, .iload_n 3, .bipush 32] (by decide +kernel) (ls' := #[sR t, sI (Int32.ofNat cs.length), sI (Int32.ofNat (i + 1)), sI c]) (st' := [(.int 32), (.int c)]) rfl rfl (pc' := 21) rfl ?_
      by_cases hc102 : c = (32 : Int32)
      · refine oIcT W101 (cd := .eq) (o := 22) (by decide +kernel) (XT.ii_eq_t hc102) (pc' := 43) (by decide) (by decide) ?_
        refine oGo W101 [.iinc 2 (-1), .goto (-41)] (by decide +kernel) (ls' := #[sR t, sI (Int32.ofNat cs.length), sI ((Int32.ofNat (i + 1)) + (-1 : Int32)), sI c]) (st' := []) rfl rfl (pc' := 5) rfl ?_
        rw [n_dm]
        exact c_lnw_l K A P hl i _ W101 (by omega) (Or.inr ⟨_, rfl⟩) (by rw [hq, htk, rst_snoc, if_pos (show Ws c from Or.inl hc102)])
      refine oIcF W101 (cd := .eq) (o := 22) (by decide +kernel) (XT.ii_eq_f hc102) (pc' := 24) rfl ?_
      refine oGo W101 [.iload_n 3, .bipush 9] (by decide +kernel) (ls' := #[sR t, sI (Int32.ofNat cs.length), sI (Int32.ofNat (i + 1)), sI c]) (st' := [(.int 9), (.int c)]) rfl rfl (pc' := 27) rfl ?_
      by_cases hc103 : c = (9 : Int32)
      · refine oIcT W101 (cd := .eq) (o := 16) (by decide +kernel) (XT.ii_eq_t hc103) (pc' := 43) (by decide) (by decide) ?_
        refine oGo W101 [.iinc 2 (-1), .goto (-41)] (by decide +kernel) (ls' := #[sR t, sI (Int32.ofNat cs.length), sI ((Int32.ofNat (i + 1)) + (-1 : Int32)), sI c]) (st' := []) rfl rfl (pc' := 5) rfl ?_
        rw [n_dm]
        exact c_lnw_l K A P hl i _ W101 (by omega) (Or.inr ⟨_, rfl⟩) (by rw [hq, htk, rst_snoc, if_pos (show Ws c from Or.inr (Or.inl (by rw [hc103]; decide)))])
      refine oIcF W101 (cd := .eq) (o := 16) (by decide +kernel) (XT.ii_eq_f hc103) (pc' := 30) rfl ?_
      obtain ⟨T104, W104, st104⟩ := oGetS W101 (pc := 30) (ls := #[sR t, sI (Int32.ofNat cs.length), sI (Int32.ofNat (i + 1)), sI c]) (st := []) (wK K 97 rfl) Via.refl (Su.ext W101.ext) (by decide +kernel)
      refine oLift st104 ?_
      refine oGo W104 [.iload_n 3] (by decide +kernel) (ls' := #[sR t, sI (Int32.ofNat cs.length), sI (Int32.ofNat (i + 1)), sI c]) (st' := [(.int c), (.ref u)]) rfl rfl (pc' := 34) rfl ?_
      obtain ⟨v105, T105, L105, h105, vm105, W105, ⟨r105, rfl, e105, Q105⟩, C105, st105⟩ := oCallV W104 (idx := 211) (pc := 34) (ls := #[sR t, sI (Int32.ofNat cs.length), sI (Int32.ofNat (i + 1)), sI c]) (st := []) (argsL := [(.int c)]) (Xu.ext W104.ext) (c_iws K hP (Xu.ext W104.ext)) (fun x hx => nomatch hx) (wK K 99 rfl) (wK K 100 rfl) (notFace_of_selects (args := #[]) (mvT W104.warm (wK K 102 rfl))) (wK K 102 rfl) (wK K 101 rfl) (wK K 98 rfl) (wK K 103 rfl) (by decide) (na := 1) rfl (by decide +kernel) rfl (stk := [(.int c), (.ref u)]) rfl (by decide +kernel) (V := 0) (lb rfl) (lb rfl) (lb rfl) (lb rfl) (lb rfl)
      refine oLift st105 ?_
      rw [e105] at W105 C105
      show OG _ _ _ _ _ _ _ _ _ _ _ (mkF m 37 #[sR t, sI (Int32.ofNat cs.length), sI (Int32.ofNat (i + 1)), sI c] [(.int r105)])
      rcases Q105 with ⟨rfl, hq105⟩ | ⟨rfl, hq105⟩
      · refine oIfT W105 (cd := .ne) (o := 6) (by decide +kernel) (XT.i0_ne_t (by decide)) (pc' := 43) (by decide) (by decide) ?_
        refine oGo W105 [.iinc 2 (-1), .goto (-41)] (by decide +kernel) (ls' := #[sR t, sI (Int32.ofNat cs.length), sI ((Int32.ofNat (i + 1)) + (-1 : Int32)), sI c]) (st' := []) rfl rfl (pc' := 5) rfl ?_
        rw [n_dm]
        exact c_lnw_l K A P hl i _ W105 (by omega) (Or.inr ⟨_, rfl⟩) (by rw [hq, htk, rst_snoc, if_pos hq105])
      · refine oIfF W105 (cd := .ne) (o := 6) (by decide +kernel) (XT.i0_ne_f rfl) (pc' := 40) rfl ?_
        refine oGo W105 [.goto 9, .iload_n 2] (by decide +kernel) (ls' := #[sR t, sI (Int32.ofNat cs.length), sI (Int32.ofNat (i + 1)), sI c]) (st' := [(.int (Int32.ofNat (i + 1)))]) rfl rfl (pc' := 50) rfl ?_
        exact oRetI W105 (by decide +kernel) (lb rfl) (lb rfl) (fun vm' hv => ⟨by rw [hq, htk, rst_snoc, if_neg hq105, ← htk, List.length_take, Nat.min_eq_left hi], rfl⟩)
    · refine oGo W101 [.istore_n 3, .iload_n 3, .bipush 32] (by decide +kernel) (ls' := #[sR t, sI (Int32.ofNat cs.length), sI (Int32.ofNat (i + 1)), sI c]) (st' := [(.int 32), (.int c)]) rfl rfl (pc' := 21) rfl ?_
      by_cases hc106 : c = (32 : Int32)
      · refine oIcT W101 (cd := .eq) (o := 22) (by decide +kernel) (XT.ii_eq_t hc106) (pc' := 43) (by decide) (by decide) ?_
        refine oGo W101 [.iinc 2 (-1), .goto (-41)] (by decide +kernel) (ls' := #[sR t, sI (Int32.ofNat cs.length), sI ((Int32.ofNat (i + 1)) + (-1 : Int32)), sI c]) (st' := []) rfl rfl (pc' := 5) rfl ?_
        rw [n_dm]
        exact c_lnw_l K A P hl i _ W101 (by omega) (Or.inr ⟨_, rfl⟩) (by rw [hq, htk, rst_snoc, if_pos (show Ws c from Or.inl hc106)])
      refine oIcF W101 (cd := .eq) (o := 22) (by decide +kernel) (XT.ii_eq_f hc106) (pc' := 24) rfl ?_
      refine oGo W101 [.iload_n 3, .bipush 9] (by decide +kernel) (ls' := #[sR t, sI (Int32.ofNat cs.length), sI (Int32.ofNat (i + 1)), sI c]) (st' := [(.int 9), (.int c)]) rfl rfl (pc' := 27) rfl ?_
      by_cases hc107 : c = (9 : Int32)
      · refine oIcT W101 (cd := .eq) (o := 16) (by decide +kernel) (XT.ii_eq_t hc107) (pc' := 43) (by decide) (by decide) ?_
        refine oGo W101 [.iinc 2 (-1), .goto (-41)] (by decide +kernel) (ls' := #[sR t, sI (Int32.ofNat cs.length), sI ((Int32.ofNat (i + 1)) + (-1 : Int32)), sI c]) (st' := []) rfl rfl (pc' := 5) rfl ?_
        rw [n_dm]
        exact c_lnw_l K A P hl i _ W101 (by omega) (Or.inr ⟨_, rfl⟩) (by rw [hq, htk, rst_snoc, if_pos (show Ws c from Or.inr (Or.inl (by rw [hc107]; decide)))])
      refine oIcF W101 (cd := .eq) (o := 16) (by decide +kernel) (XT.ii_eq_f hc107) (pc' := 30) rfl ?_
      obtain ⟨T108, W108, st108⟩ := oGetS W101 (pc := 30) (ls := #[sR t, sI (Int32.ofNat cs.length), sI (Int32.ofNat (i + 1)), sI c]) (st := []) (wK K 97 rfl) Via.refl (Su.ext W101.ext) (by decide +kernel)
      refine oLift st108 ?_
      refine oGo W108 [.iload_n 3] (by decide +kernel) (ls' := #[sR t, sI (Int32.ofNat cs.length), sI (Int32.ofNat (i + 1)), sI c]) (st' := [(.int c), (.ref u)]) rfl rfl (pc' := 34) rfl ?_
      obtain ⟨v109, T109, L109, h109, vm109, W109, ⟨r109, rfl, e109, Q109⟩, C109, st109⟩ := oCallV W108 (idx := 211) (pc := 34) (ls := #[sR t, sI (Int32.ofNat cs.length), sI (Int32.ofNat (i + 1)), sI c]) (st := []) (argsL := [(.int c)]) (Xu.ext W108.ext) (c_iws K hP (Xu.ext W108.ext)) (fun x hx => nomatch hx) (wK K 99 rfl) (wK K 100 rfl) (notFace_of_selects (args := #[]) (mvT W108.warm (wK K 102 rfl))) (wK K 102 rfl) (wK K 101 rfl) (wK K 98 rfl) (wK K 103 rfl) (by decide) (na := 1) rfl (by decide +kernel) rfl (stk := [(.int c), (.ref u)]) rfl (by decide +kernel) (V := 0) (lb rfl) (lb rfl) (lb rfl) (lb rfl) (lb rfl)
      refine oLift st109 ?_
      rw [e109] at W109 C109
      show OG _ _ _ _ _ _ _ _ _ _ _ (mkF m 37 #[sR t, sI (Int32.ofNat cs.length), sI (Int32.ofNat (i + 1)), sI c] [(.int r109)])
      rcases Q109 with ⟨rfl, hq109⟩ | ⟨rfl, hq109⟩
      · refine oIfT W109 (cd := .ne) (o := 6) (by decide +kernel) (XT.i0_ne_t (by decide)) (pc' := 43) (by decide) (by decide) ?_
        refine oGo W109 [.iinc 2 (-1), .goto (-41)] (by decide +kernel) (ls' := #[sR t, sI (Int32.ofNat cs.length), sI ((Int32.ofNat (i + 1)) + (-1 : Int32)), sI c]) (st' := []) rfl rfl (pc' := 5) rfl ?_
        rw [n_dm]
        exact c_lnw_l K A P hl i _ W109 (by omega) (Or.inr ⟨_, rfl⟩) (by rw [hq, htk, rst_snoc, if_pos hq109])
      · refine oIfF W109 (cd := .ne) (o := 6) (by decide +kernel) (XT.i0_ne_f rfl) (pc' := 40) rfl ?_
        refine oGo W109 [.goto 9, .iload_n 2] (by decide +kernel) (ls' := #[sR t, sI (Int32.ofNat cs.length), sI (Int32.ofNat (i + 1)), sI c]) (st' := [(.int (Int32.ofNat (i + 1)))]) rfl rfl (pc' := 50) rfl ?_
        exact oRetI W109 (by decide +kernel) (lb rfl) (lb rfl) (fun vm' hv => ⟨by rw [hq, htk, rst_snoc, if_neg hq109, ← htk, List.length_take, Nat.min_eq_left hi], rfl⟩)
set_option maxRecDepth 65536 in
set_option maxHeartbeats 40000000 in
theorem c_lnw {l : Launch} {Z : State} {a0 : Array Value} {nb : Bool} (K : Ctx Z a0) {t : Addr} {kt : ClassId} {cs : List Int32} {h0 : Heap} (A : OA Z h0 t kt .byte (byt cs)) (P : ∀ c ∈ cs, ¬ c < 0 ∧ ¬ (255 : Int32) < c) (hl : cs.length ≤ 4000) :
    OC l Z EL nb [] (⟨"java/lang/StringLatin1", "lastIndexOfNonWhitespace", "([B)I"⟩ : MethodName) jdk_43_method_38_code 4 (some .int) rm_c_lnw #[(.ref t)] h0 [] (fun v _ h => v = some (.int (Int32.ofNat (rst cs).length)) ∧ h = h0) := by
  have hw := K.1
  have hS : ∀ a ∈ Bundle.stringAtoms, a.before a0 Z = true := K.2.2.1
  refine oEnter (by decide +kernel) K.2.1.2.1 ?_
  intro _p _e _s m _below _meth _c T0 W0 S0
  refine oEq (g' := mkF m 0 #[.val (.ref t), .unset, .unset, .unset] []) (by first | (simp [entryFrame, mkF, argsToLocals, Value.category]; done) | rfl) ?_
  refine oGo W0 [.aload_n 0] (by decide +kernel) (ls' := #[sR t, sU, sU, sU]) (st' := [(.ref t)]) rfl rfl (pc' := 1) rfl ?_
  refine oLen W0 A (by decide +kernel) ?_
  rw [List.length_map]
  refine oGo W0 [.istore_n 1, .iload_n 1, .istore_n 2] (by decide +kernel) (ls' := #[sR t, sI (Int32.ofNat cs.length), sI (Int32.ofNat cs.length), sU]) (st' := []) rfl rfl (pc' := 5) rfl ?_
  exact c_lnw_l K A P hl cs.length .unset W0 (Nat.le_refl _) (Or.inl rfl) (by rw [List.take_length])
abbrev rm_c_lst : Room := { frames := 4, cells := 2, slots := 36, locals := 86 }
set_option maxRecDepth 65536 in
set_option maxHeartbeats 40000000 in
theorem c_lst {l : Launch} {Z : State} {a0 : Array Value} (K : Ctx Z a0) {t : Addr} {kt : ClassId} {cs : List Int32} {h0 : Heap} (A : OA Z h0 t kt .byte (byt cs)) (P : ∀ c ∈ cs, ¬ c < 0 ∧ ¬ (255 : Int32) < c) (hl : cs.length ≤ 32) :
    OC l Z EL false [] (⟨"java/lang/StringLatin1", "strip", "([B)Ljava/lang/String;"⟩ : MethodName) jdk_43_method_39_code 4 (some (.object "java/lang/String")) rm_c_lst #[(.ref t)] h0 [] (fun v _ h => ∃ w, v = some w ∧ Ext h0 h ∧ ((w = .null ∧ strp cs = cs) ∨ ∃ y, w = .ref y ∧ Str Z h y (strp cs))) := by
  have hw := K.1
  have hS : ∀ a ∈ Bundle.stringAtoms, a.before a0 Z = true := K.2.2.1
  have hlw := lw_le cs
  have hrl := rst_le cs
  refine oEnter (by decide +kernel) K.2.1.2.1 ?_
  intro _p _e _s m _below _meth _c T0 W0 S0
  refine oEq (g' := mkF m 0 #[.val (.ref t), .unset, .unset, .unset] []) (by first | (simp [entryFrame, mkF, argsToLocals, Value.category]; done) | rfl) ?_
  refine oGo W0 [.aload_n 0] (by decide +kernel) (ls' := #[sR t, sU, sU, sU]) (st' := [(.ref t)]) rfl rfl (pc' := 1) rfl ?_
  obtain ⟨v1, T1, L1, h1, vm1, W1, ⟨rfl, e1⟩, C1, st1⟩ := oCallS W0 (idx := 214) (pc := 1) (ls := #[sR t, sU, sU, sU]) (st := []) (argsL := [(.ref t)]) (c_inw K A P (by omega)) (fun x hx => nomatch hx) (wK K 91 rfl) (wK K 92 rfl) (wK K 68 rfl) (wK K 93 rfl) (by decide) (na := 1) rfl (by decide +kernel) rfl (stk := [(.ref t)]) rfl (by decide +kernel) (V := 0) (lb rfl) (lb rfl) (lb rfl) (lb rfl) (lb rfl)
  refine oLift st1 ?_
  rw [e1] at W1 C1
  show OG _ _ _ _ _ _ _ _ _ _ _ (mkF m 4 #[sR t, sU, sU, sU] [(.int (Int32.ofNat (lw cs)))])
  refine oGo W1 [.istore_n 1, .iload_n 1, .aload_n 0] (by decide +kernel) (ls' := #[sR t, sI (Int32.ofNat (lw cs)), sU, sU]) (st' := [(.ref t), (.int (Int32.ofNat (lw cs)))]) rfl rfl (pc' := 7) rfl ?_
  refine oLen W1 A (by decide +kernel) ?_
  rw [List.length_map]
  by_cases hc2 : (Int32.ofNat (lw cs)) = (Int32.ofNat cs.length)
  · refine oIcF W1 (cd := .ne) (o := 6) (by decide +kernel) (XT.ii_ne_f hc2) (pc' := 11) rfl ?_
    obtain ⟨a3, b3, k3, T3, h3, vm3, W3, E3, C3, x3, c3, u3, A3, st3⟩ := oLdcC W1 (pc := 11) (ls := #[sR t, sI (Int32.ofNat (lw cs)), sU, sU]) (st := []) (wK K 138 rfl) hS (by decide) (vs := (([] : List Int32).map fun c => Value.int c.toInt8.toInt32)) (z := 0) (by decide +kernel) (by decide) (by decide) (by decide +kernel) (n := 0) (lb rfl) (lb rfl) (lb rfl) (lb rfl)
    refine oLift st3 ?_
    have F3 : Str Z h3 a3 [] := ⟨b3, k3, x3, c3, u3, A3, by decide⟩
    exact oRetA rfl W3 rfl rfl (by decide +kernel) (lb rfl) (lb rfl) (fun vm' hv => ⟨_, rfl, E3, Or.inr ⟨_, rfl, by rw [strp_all (ofNat_inj (by omega) (by omega) hc2)]; exact F3⟩⟩)
  refine oIcT W1 (cd := .ne) (o := 6) (by decide +kernel) (XT.ii_ne_t hc2) (pc' := 14) (by decide) (by decide) ?_
  have hlt := lw_rst cs (Nat.lt_of_le_of_ne hlw (fun q => hc2 (by rw [q])))
  refine oGo W1 [.aload_n 0] (by decide +kernel) (ls' := #[sR t, sI (Int32.ofNat (lw cs)), sU, sU]) (st' := [(.ref t)]) rfl rfl (pc' := 15) rfl ?_
  obtain ⟨v4, T4, L4, h4, vm4, W4, ⟨rfl, e4⟩, C4, st4⟩ := oCallS W1 (idx := 217) (pc := 15) (ls := #[sR t, sI (Int32.ofNat (lw cs)), sU, sU]) (st := []) (argsL := [(.ref t)]) (c_lnw K A P (by omega)) (fun x hx => nomatch hx) (wK K 110 rfl) (wK K 111 rfl) (wK K 68 rfl) (wK K 112 rfl) (by decide) (na := 1) rfl (by decide +kernel) rfl (stk := [(.ref t)]) rfl (by decide +kernel) (V := 0) (lb rfl) (lb rfl) (lb rfl) (lb rfl) (lb rfl)
  refine oLift st4 ?_
  rw [e4] at W4 C4
  show OG _ _ _ _ _ _ _ _ _ _ _ (mkF m 18 #[sR t, sI (Int32.ofNat (lw cs)), sU, sU] [(.int (Int32.ofNat (rst cs).length))])
  refine oGo W4 [.istore_n 2, .iload_n 1] (by decide +kernel) (ls' := #[sR t, sI (Int32.ofNat (lw cs)), sI (Int32.ofNat (rst cs).length), sU]) (st' := [(.int (Int32.ofNat (lw cs)))]) rfl rfl (pc' := 20) rfl ?_
  by_cases hc5 : (0 : Int32) < (Int32.ofNat (lw cs))
  · refine oIfT W4 (cd := .gt) (o := 9) (by decide +kernel) (XT.i0_gt_t hc5) (pc' := 29) (by decide) (by decide) ?_
    refine oGo W4 [.iconst 1, .goto 4, .istore_n 3, .iload_n 3] (by decide +kernel) (ls' := #[sR t, sI (Int32.ofNat (lw cs)), sI (Int32.ofNat (rst cs).length), sI 1]) (st' := [(.int 1)]) rfl rfl (pc' := 36) rfl ?_
    refine oIfF W4 (cd := .eq) (o := 14) (by decide +kernel) (XT.i0_eq_f (by decide)) (pc' := 39) rfl ?_
    refine oGo W4 [.aload_n 0, .iload_n 1, .iload_n 2, .iload_n 1, .isub] (by decide +kernel) (ls' := #[sR t, sI (Int32.ofNat (lw cs)), sI (Int32.ofNat (rst cs).length), sI 1]) (st' := [(.int ((Int32.ofNat (rst cs).length) - (Int32.ofNat (lw cs)))), (.int (Int32.ofNat (lw cs))), (.ref t)]) rfl rfl (pc' := 44) rfl ?_
    rw [sub_n (Nat.le_of_lt hlt)]
    obtain ⟨v6, T6, L6, h6, vm6, W6, ⟨y, rfl, F6, E6⟩, C6, st6⟩ := oCallS W4 (idx := 210) (pc := 44) (ls := #[sR t, sI (Int32.ofNat (lw cs)), sI (Int32.ofNat (rst cs).length), sI 1]) (st := []) (argsL := [(.ref t), (.int (Int32.ofNat (lw cs))), (.int (Int32.ofNat ((rst cs).length - lw cs)))]) (c_nst K A P hl (by omega) (fun q => by have := ((n_lt (a := 0) (by omega) (by omega)).mp hc5); omega)) (fun x hx => nomatch hx) (wK K 139 rfl) (wK K 140 rfl) (wK K 68 rfl) (wK K 141 rfl) (by decide) (na := 3) rfl (by decide +kernel) rfl (stk := [(.int (Int32.ofNat ((rst cs).length - lw cs))), (.int (Int32.ofNat (lw cs))), (.ref t)]) rfl (by decide +kernel) (V := 0) (lb rfl) (lb rfl) (lb rfl) (lb rfl) (lb rfl)
    refine oLift st6 ?_
    show OG _ _ _ _ _ _ _ _ _ _ _ (mkF m 47 #[sR t, sI (Int32.ofNat (lw cs)), sI (Int32.ofNat (rst cs).length), sI 1] [(.ref y)])
    refine oGo W6 [.goto 4] (by decide +kernel) (ls' := #[sR t, sI (Int32.ofNat (lw cs)), sI (Int32.ofNat (rst cs).length), sI 1]) (st' := [(.ref y)]) rfl rfl (pc' := 51) rfl ?_
    exact oRetA rfl W6 rfl rfl (by decide +kernel) (lb rfl) (lb rfl) (fun vm' hv => ⟨_, rfl, E6, Or.inr ⟨_, rfl, F6⟩⟩)
  refine oIfF W4 (cd := .gt) (o := 9) (by decide +kernel) (XT.i0_gt_f hc5) (pc' := 23) rfl ?_
  refine oGo W4 [.iload_n 2, .aload_n 0] (by decide +kernel) (ls' := #[sR t, sI (Int32.ofNat (lw cs)), sI (Int32.ofNat (rst cs).length), sU]) (st' := [(.ref t), (.int (Int32.ofNat (rst cs).length))]) rfl rfl (pc' := 25) rfl ?_
  refine oLen W4 A (by decide +kernel) ?_
  rw [List.length_map]
  by_cases hc7 : (Int32.ofNat (rst cs).length) < (Int32.ofNat cs.length)
  · refine oIcF W4 (cd := .ge) (o := 7) (by decide +kernel) (XT.ii_ge_f hc7) (pc' := 29) rfl ?_
    refine oGo W4 [.iconst 1, .goto 4, .istore_n 3, .iload_n 3] (by decide +kernel) (ls' := #[sR t, sI (Int32.ofNat (lw cs)), sI (Int32.ofNat (rst cs).length), sI 1]) (st' := [(.int 1)]) rfl rfl (pc' := 36) rfl ?_
    refine oIfF W4 (cd := .eq) (o := 14) (by decide +kernel) (XT.i0_eq_f (by decide)) (pc' := 39) rfl ?_
    refine oGo W4 [.aload_n 0, .iload_n 1, .iload_n 2, .iload_n 1, .isub] (by decide +kernel) (ls' := #[sR t, sI (Int32.ofNat (lw cs)), sI (Int32.ofNat (rst cs).length), sI 1]) (st' := [(.int ((Int32.ofNat (rst cs).length) - (Int32.ofNat (lw cs)))), (.int (Int32.ofNat (lw cs))), (.ref t)]) rfl rfl (pc' := 44) rfl ?_
    rw [sub_n (Nat.le_of_lt hlt)]
    obtain ⟨v8, T8, L8, h8, vm8, W8, ⟨y, rfl, F8, E8⟩, C8, st8⟩ := oCallS W4 (idx := 210) (pc := 44) (ls := #[sR t, sI (Int32.ofNat (lw cs)), sI (Int32.ofNat (rst cs).length), sI 1]) (st := []) (argsL := [(.ref t), (.int (Int32.ofNat (lw cs))), (.int (Int32.ofNat ((rst cs).length - lw cs)))]) (c_nst K A P hl (by omega) (fun q => by have := ((n_lt (by omega) (by omega)).mp hc7); omega)) (fun x hx => nomatch hx) (wK K 139 rfl) (wK K 140 rfl) (wK K 68 rfl) (wK K 141 rfl) (by decide) (na := 3) rfl (by decide +kernel) rfl (stk := [(.int (Int32.ofNat ((rst cs).length - lw cs))), (.int (Int32.ofNat (lw cs))), (.ref t)]) rfl (by decide +kernel) (V := 0) (lb rfl) (lb rfl) (lb rfl) (lb rfl) (lb rfl)
    refine oLift st8 ?_
    show OG _ _ _ _ _ _ _ _ _ _ _ (mkF m 47 #[sR t, sI (Int32.ofNat (lw cs)), sI (Int32.ofNat (rst cs).length), sI 1] [(.ref y)])
    refine oGo W8 [.goto 4] (by decide +kernel) (ls' := #[sR t, sI (Int32.ofNat (lw cs)), sI (Int32.ofNat (rst cs).length), sI 1]) (st' := [(.ref y)]) rfl rfl (pc' := 51) rfl ?_
    exact oRetA rfl W8 rfl rfl (by decide +kernel) (lb rfl) (lb rfl) (fun vm' hv => ⟨_, rfl, E8, Or.inr ⟨_, rfl, F8⟩⟩)
  refine oIcT W4 (cd := .ge) (o := 7) (by decide +kernel) (XT.ii_ge_t hc7) (pc' := 33) (by decide) (by decide) ?_
  refine oGo W4 [.iconst 0, .istore_n 3, .iload_n 3] (by decide +kernel) (ls' := #[sR t, sI (Int32.ofNat (lw cs)), sI (Int32.ofNat (rst cs).length), sI 0]) (st' := [(.int 0)]) rfl rfl (pc' := 36) rfl ?_
  refine oIfT W4 (cd := .eq) (o := 14) (by decide +kernel) (XT.i0_eq_t (by decide)) (pc' := 50) (by decide) (by decide) ?_
  refine oGo W4 [.aconst_null] (by decide +kernel) (ls' := #[sR t, sI (Int32.ofNat (lw cs)), sI (Int32.ofNat (rst cs).length), sI 0]) (st' := [(.null)]) rfl rfl (pc' := 51) rfl ?_
  have z1 : ¬ 0 < lw cs := fun q => hc5 ((n_lt (a := 0) (by omega) (by omega)).mpr q)
  have z2 : ¬ (rst cs).length < cs.length := fun q => hc7 ((n_lt (by omega) (by omega)).mpr q)
  exact oRetA rfl W4 rfl rfl (by decide +kernel) (lb rfl) (lb rfl) (fun vm' hv => ⟨_, rfl, exR _, Or.inl ⟨rfl, strp_same (by omega) (by omega)⟩⟩)
abbrev rm_c_str : Room := { frames := 5, cells := 2, slots := 36, locals := 101 }
set_option maxRecDepth 65536 in
set_option maxHeartbeats 40000000 in
theorem c_str {l : Launch} {Z : State} {a0 : Array Value} (K : Ctx Z a0) {x : Addr} {cs : List Int32} {h0 : Heap} (F : Str Z h0 x cs) (hl : cs.length ≤ 32) :
    OC l Z EL false [] (⟨"java/lang/String", "strip", "()Ljava/lang/String;"⟩ : MethodName) jdk_42_method_114_code 2 (some (.object "java/lang/String")) rm_c_str #[(.ref x)] h0 [] (fun v _ h => ∃ y, v = some (.ref y) ∧ Str Z h y (strp cs) ∧ Ext h0 h) := by
  have hw := K.1
  have hS : ∀ a ∈ Bundle.stringAtoms, a.before a0 Z = true := K.2.2.1
  obtain ⟨t, kt, X1, Fc, Fv, A, P⟩ := id F
  refine oEnter (by decide +kernel) K.2.1.2.1 ?_
  intro _p _e _s m _below _meth _c T0 W0 S0
  refine oEq (g' := mkF m 0 #[.val (.ref x), .unset] []) (by first | (simp [entryFrame, mkF, argsToLocals, Value.category]; done) | rfl) ?_
  refine oGo W0 [.aload_n 0] (by decide +kernel) (ls' := #[sR x, sU]) (st' := [(.ref x)]) rfl rfl (pc' := 1) rfl ?_
  obtain ⟨v1, T1, L1, h1, vm1, W1, ⟨rfl, e1⟩, C1, st1⟩ := oCallV W0 (idx := 492) (pc := 1) (ls := #[sR x, sU]) (st := []) (argsL := []) X1 (c_isl K Fc) (fun x hx => nomatch hx) (wK K 51 rfl) (wK K 52 rfl) (notFace_of_selects (args := #[]) (mvT W0.warm (wK K 54 rfl))) (wK K 54 rfl) (wK K 53 rfl) (wK K 7 rfl) (wK K 55 rfl) (by decide) (na := 0) rfl (by decide +kernel) rfl (stk := [(.ref x)]) rfl (by decide +kernel) (V := 0) (lb rfl) (lb rfl) (lb rfl) (lb rfl) (lb rfl)
  refine oLift st1 ?_
  rw [e1] at W1 C1
  show OG _ _ _ _ _ _ _ _ _ _ _ (mkF m 4 #[sR x, sU] [(.int 1)])
  refine oIfF W1 (cd := .eq) (o := 13) (by decide +kernel) (XT.i0_eq_f (by decide)) (pc' := 7) rfl ?_
  refine oGo W1 [.aload_n 0] (by decide +kernel) (ls' := #[sR x, sU]) (st' := [(.ref x)]) rfl rfl (pc' := 8) rfl ?_
  obtain ⟨T2, W2, st2⟩ := oGetF W1 (pc := 8) (ls := #[sR x, sU]) (st := []) (wK K 32 rfl) Via.refl Fv (by decide +kernel)
  refine oLift st2 ?_
  obtain ⟨v3, T3, L3, h3, vm3, W3, ⟨w, rfl, E3, Q3⟩, C3, st3⟩ := oCallS W2 (idx := 864) (pc := 11) (ls := #[sR x, sU]) (st := []) (argsL := [(.ref t)]) (c_lst K A P hl) (fun x hx => nomatch hx) (wK K 88 rfl) (wK K 89 rfl) (wK K 68 rfl) (wK K 90 rfl) (by decide) (na := 1) rfl (by decide +kernel) rfl (stk := [(.ref t)]) rfl (by decide +kernel) (V := 0) (lb rfl) (lb rfl) (lb rfl) (lb rfl) (lb rfl)
  refine oLift st3 ?_
  show OG _ _ _ _ _ _ _ _ _ _ _ (mkF m 14 #[sR x, sU] [w])
  rcases Q3 with ⟨rfl, hs⟩ | ⟨y, rfl, Fy⟩
  · refine oGo W3 [.goto 10, .astore_n 1, .aload_n 1] (by decide +kernel) (ls' := #[sR x, .val (.null)]) (st' := [(.null)]) rfl rfl (pc' := 26) rfl ?_
    refine oNnF W3 (o := 7) (by decide +kernel) (pc' := 29) rfl ?_
    refine oGo W3 [.aload_n 0, .goto 4] (by decide +kernel) (ls' := #[sR x, .val (.null)]) (st' := [(.ref x)]) rfl rfl (pc' := 34) rfl ?_
    exact oRetA rfl W3 rfl rfl (by decide +kernel) (lb rfl) (lb rfl) (fun vm' hv => ⟨x, rfl, by rw [hs]; exact F.ext E3, E3⟩)
  · refine oGo W3 [.goto 10, .astore_n 1, .aload_n 1] (by decide +kernel) (ls' := #[sR x, sR y]) (st' := [(.ref y)]) rfl rfl (pc' := 26) rfl ?_
    refine oNnT W3 (o := 7) (by decide +kernel) (pc' := 33) (by decide) (by decide) ?_
    refine oGo W3 [.aload_n 1] (by decide +kernel) (ls' := #[sR x, sR y]) (st' := [(.ref y)]) rfl rfl (pc' := 34) rfl ?_
    exact oRetA rfl W3 rfl rfl (by decide +kernel) (lb rfl) (lb rfl) (fun vm' hv => ⟨y, rfl, Fy, E3⟩)
abbrev rm_c_eqc : Room := { frames := 0, cells := 0, slots := 0, locals := 0 }
set_option maxRecDepth 65536 in
set_option maxHeartbeats 40000000 in
theorem c_eqc {l : Launch} {Z : State} {a0 : Array Value} {nb : Bool} (K : Ctx Z a0) {a b x y : Int32} {h0 : Heap} (hx : x = a.toInt8.toInt32) (hy : y = b.toInt8.toInt32) (ha : ¬ a < 0 ∧ ¬ (255 : Int32) < a) (hb : ¬ b < 0 ∧ ¬ (255 : Int32) < b) :
    OC l Z EL nb [] (⟨"java/lang/CharacterDataLatin1", "equalsIgnoreCase", "(BB)Z"⟩ : MethodName) jdk_116_method_22_code 3 (some .boolean) rm_c_eqc #[(.int x), (.int y)] h0 [] (fun v _ h => ∃ r, v = some (.int r) ∧ h = h0 ∧ ((r = 1 ∧ fld a = fld b) ∨ (r = 0 ∧ ¬ (fld a = fld b)))) := by
  have hw := K.1
  have hS : ∀ a ∈ Bundle.stringAtoms, a.before a0 Z = true := K.2.2.1
  refine oEnter (by decide +kernel) K.2.1.2.1 ?_
  intro _p _e _s m _below _meth _c T0 W0 S0
  refine oEq (g' := mkF m 0 #[.val (.int x), .val (.int y), .unset] []) (by first | (simp [entryFrame, mkF, argsToLocals, Value.category]; done) | rfl) ?_
  subst hx
  subst hy
  refine oGo W0 [.iload_n 0, .iload_n 1] (by decide +kernel) (ls' := #[sI a.toInt8.toInt32, sI b.toInt8.toInt32, sU]) (st' := [(.int b.toInt8.toInt32), (.int a.toInt8.toInt32)]) rfl rfl (pc' := 2) rfl ?_
  by_cases hc1 : a.toInt8.toInt32 = b.toInt8.toInt32
  · refine oIcF W0 (cd := .ne) (o := 5) (by decide +kernel) (XT.ii_ne_f hc1) (pc' := 5) rfl ?_
    refine oGo W0 [.iconst 1] (by decide +kernel) (ls' := #[sI a.toInt8.toInt32, sI b.toInt8.toInt32, sU]) (st' := [(.int 1)]) rfl rfl (pc' := 6) rfl ?_
    exact oRetN (by simp) W0 rfl (by decide +kernel) (lb rfl) (lb rfl) (fun vm' hv => ⟨_, rfl, rfl, Or.inl ⟨rfl, by rw [lo8_inj ha hb hc1]⟩⟩)
  refine oIcT W0 (cd := .ne) (o := 5) (by decide +kernel) (XT.ii_ne_t hc1) (pc' := 7) (by decide) (by decide) ?_
  have hne : ¬ a = b := fun q => hc1 (by rw [q])
  refine oGo W0 [.iload_n 0, .sipush 223, .iand, .istore_n 2, .iload_n 2, .bipush 65] (by decide +kernel) (ls' := #[sI a.toInt8.toInt32, sI b.toInt8.toInt32, sI (a.toInt8.toInt32 &&& (223 : Int32))]) (st' := [(.int 65), (.int (a.toInt8.toInt32 &&& (223 : Int32)))]) rfl rfl (pc' := 16) rfl ?_
  by_cases hc2 : (a.toInt8.toInt32 &&& (223 : Int32)) < (65 : Int32)
  · refine oIcF W0 (cd := .ge) (o := 5) (by decide +kernel) (XT.ii_ge_f hc2) (pc' := 19) rfl ?_
    refine oGo W0 [.iconst 0] (by decide +kernel) (ls' := #[sI a.toInt8.toInt32, sI b.toInt8.toInt32, sI (a.toInt8.toInt32 &&& (223 : Int32))]) (st' := [(.int 0)]) rfl rfl (pc' := 20) rfl ?_
    exact oRetN (by simp) W0 rfl (by decide +kernel) (lb rfl) (lb rfl) (fun vm' hv => ⟨_, rfl, rfl, Or.inr ⟨rfl, ci_0 ha hb hne (fun q => q.1.1 hc2)⟩⟩)
  refine oIcT W0 (cd := .ge) (o := 5) (by decide +kernel) (XT.ii_ge_t hc2) (pc' := 21) (by decide) (by decide) ?_
  refine oGo W0 [.iload_n 2, .bipush 90] (by decide +kernel) (ls' := #[sI a.toInt8.toInt32, sI b.toInt8.toInt32, sI (a.toInt8.toInt32 &&& (223 : Int32))]) (st' := [(.int 90), (.int (a.toInt8.toInt32 &&& (223 : Int32)))]) rfl rfl (pc' := 24) rfl ?_
  by_cases hc3 : (90 : Int32) < (a.toInt8.toInt32 &&& (223 : Int32))
  rotate_left
  · refine oIcT W0 (cd := .le) (o := 24) (by decide +kernel) (XT.ii_le_t hc3) (pc' := 48) (by decide) (by decide) ?_
    refine oGo W0 [.iload_n 2, .iload_n 1, .sipush 223, .iand] (by decide +kernel) (ls' := #[sI a.toInt8.toInt32, sI b.toInt8.toInt32, sI (a.toInt8.toInt32 &&& (223 : Int32))]) (st' := [(.int (b.toInt8.toInt32 &&& (223 : Int32))), (.int (a.toInt8.toInt32 &&& (223 : Int32)))]) rfl rfl (pc' := 54) rfl ?_
    by_cases hc4 : (a.toInt8.toInt32 &&& (223 : Int32)) = (b.toInt8.toInt32 &&& (223 : Int32))
    · refine oIcF W0 (cd := .ne) (o := 7) (by decide +kernel) (XT.ii_ne_f hc4) (pc' := 57) rfl ?_
      refine oGo W0 [.iconst 1, .goto 4] (by decide +kernel) (ls' := #[sI a.toInt8.toInt32, sI b.toInt8.toInt32, sI (a.toInt8.toInt32 &&& (223 : Int32))]) (st' := [(.int 1)]) rfl rfl (pc' := 62) rfl ?_
      exact oRetN (by simp) W0 rfl (by decide +kernel) (lb rfl) (lb rfl) (fun vm' hv => ⟨_, rfl, rfl, Or.inl ⟨rfl, ci_1 ha hb ⟨hc2, Or.inl hc3⟩ hc4⟩⟩)
    refine oIcT W0 (cd := .ne) (o := 7) (by decide +kernel) (XT.ii_ne_t hc4) (pc' := 61) (by decide) (by decide) ?_
    refine oGo W0 [.iconst 0] (by decide +kernel) (ls' := #[sI a.toInt8.toInt32, sI b.toInt8.toInt32, sI (a.toInt8.toInt32 &&& (223 : Int32))]) (st' := [(.int 0)]) rfl rfl (pc' := 62) rfl ?_
    exact oRetN (by simp) W0 rfl (by decide +kernel) (lb rfl) (lb rfl) (fun vm' hv => ⟨_, rfl, rfl, Or.inr ⟨rfl, ci_0 ha hb hne (fun q => hc4 q.2)⟩⟩)
  refine oIcF W0 (cd := .le) (o := 24) (by decide +kernel) (XT.ii_le_f hc3) (pc' := 27) rfl ?_
  refine oGo W0 [.iload_n 2, .sipush 192] (by decide +kernel) (ls' := #[sI a.toInt8.toInt32, sI b.toInt8.toInt32, sI (a.toInt8.toInt32 &&& (223 : Int32))]) (st' := [(.int 192), (.int (a.toInt8.toInt32 &&& (223 : Int32)))]) rfl rfl (pc' := 31) rfl ?_
  by_cases hc5 : (a.toInt8.toInt32 &&& (223 : Int32)) < (192 : Int32)
  · refine oIcT W0 (cd := .lt) (o := 30) (by decide +kernel) (XT.ii_lt_t hc5) (pc' := 61) (by decide) (by decide) ?_
    refine oGo W0 [.iconst 0] (by decide +kernel) (ls' := #[sI a.toInt8.toInt32, sI b.toInt8.toInt32, sI (a.toInt8.toInt32 &&& (223 : Int32))]) (st' := [(.int 0)]) rfl rfl (pc' := 62) rfl ?_
    exact oRetN (by simp) W0 rfl (by decide +kernel) (lb rfl) (lb rfl) (fun vm' hv => ⟨_, rfl, rfl, Or.inr ⟨rfl, ci_0 ha hb hne (fun q => q.1.2.elim (fun z => z hc3) (fun z => z.1 hc5))⟩⟩)
  refine oIcF W0 (cd := .lt) (o := 30) (by decide +kernel) (XT.ii_lt_f hc5) (pc' := 34) rfl ?_
  refine oGo W0 [.iload_n 2, .sipush 222] (by decide +kernel) (ls' := #[sI a.toInt8.toInt32, sI b.toInt8.toInt32, sI (a.toInt8.toInt32 &&& (223 : Int32))]) (st' := [(.int 222), (.int (a.toInt8.toInt32 &&& (223 : Int32)))]) rfl rfl (pc' := 38) rfl ?_
  by_cases hc6 : (222 : Int32) < (a.toInt8.toInt32 &&& (223 : Int32))
  · refine oIcT W0 (cd := .gt) (o := 23) (by decide +kernel) (XT.ii_gt_t hc6) (pc' := 61) (by decide) (by decide) ?_
    refine oGo W0 [.iconst 0] (by decide +kernel) (ls' := #[sI a.toInt8.toInt32, sI b.toInt8.toInt32, sI (a.toInt8.toInt32 &&& (223 : Int32))]) (st' := [(.int 0)]) rfl rfl (pc' := 62) rfl ?_
    exact oRetN (by simp) W0 rfl (by decide +kernel) (lb rfl) (lb rfl) (fun vm' hv => ⟨_, rfl, rfl, Or.inr ⟨rfl, ci_0 ha hb hne (fun q => q.1.2.elim (fun z => z hc3) (fun z => z.2.1 hc6))⟩⟩)
  refine oIcF W0 (cd := .gt) (o := 23) (by decide +kernel) (XT.ii_gt_f hc6) (pc' := 41) rfl ?_
  refine oGo W0 [.iload_n 2, .sipush 215] (by decide +kernel) (ls' := #[sI a.toInt8.toInt32, sI b.toInt8.toInt32, sI (a.toInt8.toInt32 &&& (223 : Int32))]) (st' := [(.int 215), (.int (a.toInt8.toInt32 &&& (223 : Int32)))]) rfl rfl (pc' := 45) rfl ?_
  by_cases hc7 : (a.toInt8.toInt32 &&& (223 : Int32)) = (215 : Int32)
  · refine oIcT W0 (cd := .eq) (o := 16) (by decide +kernel) (XT.ii_eq_t hc7) (pc' := 61) (by decide) (by decide) ?_
    refine oGo W0 [.iconst 0] (by decide +kernel) (ls' := #[sI a.toInt8.toInt32, sI b.toInt8.toInt32, sI (a.toInt8.toInt32 &&& (223 : Int32))]) (st' := [(.int 0)]) rfl rfl (pc' := 62) rfl ?_
    exact oRetN (by simp) W0 rfl (by decide +kernel) (lb rfl) (lb rfl) (fun vm' hv => ⟨_, rfl, rfl, Or.inr ⟨rfl, ci_0 ha hb hne (fun q => q.1.2.elim (fun z => z hc3) (fun z => z.2.2 hc7))⟩⟩)
  refine oIcF W0 (cd := .eq) (o := 16) (by decide +kernel) (XT.ii_eq_f hc7) (pc' := 48) rfl ?_
  refine oGo W0 [.iload_n 2, .iload_n 1, .sipush 223, .iand] (by decide +kernel) (ls' := #[sI a.toInt8.toInt32, sI b.toInt8.toInt32, sI (a.toInt8.toInt32 &&& (223 : Int32))]) (st' := [(.int (b.toInt8.toInt32 &&& (223 : Int32))), (.int (a.toInt8.toInt32 &&& (223 : Int32)))]) rfl rfl (pc' := 54) rfl ?_
  by_cases hc8 : (a.toInt8.toInt32 &&& (223 : Int32)) = (b.toInt8.toInt32 &&& (223 : Int32))
  · refine oIcF W0 (cd := .ne) (o := 7) (by decide +kernel) (XT.ii_ne_f hc8) (pc' := 57) rfl ?_
    refine oGo W0 [.iconst 1, .goto 4] (by decide +kernel) (ls' := #[sI a.toInt8.toInt32, sI b.toInt8.toInt32, sI (a.toInt8.toInt32 &&& (223 : Int32))]) (st' := [(.int 1)]) rfl rfl (pc' := 62) rfl ?_
    exact oRetN (by simp) W0 rfl (by decide +kernel) (lb rfl) (lb rfl) (fun vm' hv => ⟨_, rfl, rfl, Or.inl ⟨rfl, ci_1 ha hb ⟨hc2, Or.inr ⟨hc5, hc6, hc7⟩⟩ hc8⟩⟩)
  refine oIcT W0 (cd := .ne) (o := 7) (by decide +kernel) (XT.ii_ne_t hc8) (pc' := 61) (by decide) (by decide) ?_
  refine oGo W0 [.iconst 0] (by decide +kernel) (ls' := #[sI a.toInt8.toInt32, sI b.toInt8.toInt32, sI (a.toInt8.toInt32 &&& (223 : Int32))]) (st' := [(.int 0)]) rfl rfl (pc' := 62) rfl ?_
  exact oRetN (by simp) W0 rfl (by decide +kernel) (lb rfl) (lb rfl) (fun vm' hv => ⟨_, rfl, rfl, Or.inr ⟨rfl, ci_0 ha hb hne (fun q => hc8 q.2)⟩⟩)
abbrev rm_c_rci : Room := { frames := 1, cells := 0, slots := 0, locals := 14 }
set_option maxRecDepth 65536 in
set_option maxHeartbeats 40000000 in
theorem c_rci_l {l : Launch} {Z : State} {a0 : Array Value} {nb : Bool} (K : Ctx Z a0) {t u : Addr} {kt ku : ClassId} {cs ds : List Int32} {h0 : Heap} (A : OA Z h0 t kt .byte (byt cs)) (B : OA Z h0 u ku .byte (byt ds)) (P : ∀ c ∈ cs, ¬ c < 0 ∧ ¬ (255 : Int32) < c) (P2 : ∀ c ∈ ds, ¬ c < 0 ∧ ¬ (255 : Int32) < c) (hl : cs.length ≤ 4000) (hd : ds.length = cs.length) {p : Program} {e : Env} {s : State} {m : MethodId} {args : Array Value} {below : List Frame} {meth : Method} {cc : Code} :
    ∀ (rest : List Int32) (i : Nat) (s6 s7 : Slot) {vm0 : Vm} {T0 : State} {lc : List Loc} (W0 : OW p l e rm_c_rci s m args below meth cc Z a0 EL nb "java/lang/StringLatin1" jdk_43_method_30_code 8 (some .boolean) "regionMatchesCI" vm0 T0 lc 0 0 h0) (hr : cs.drop i = rest) (hi : i ≤ cs.length) (h3 : (s6 = .unset ∧ s7 = .unset) ∨ ∃ k k7, s6 = .val (.int k) ∧ s7 = .val (.int k7)) (hq : (cs.map fld = ds.map fld) ↔ ((cs.drop i).map fld = (ds.drop i).map fld)), OG p e below s Z EL nb (fun v _ h => ∃ r, v = some (.int r) ∧ h = h0 ∧ ((r = 1 ∧ cs.map fld = ds.map fld) ∨ (r = 0 ∧ ¬ (cs.map fld = ds.map fld)))) rm_c_rci.cells rm_c_rci.slots T0 (mkF m 6 #[sR t, sI (Int32.ofNat i), sR u, sI (Int32.ofNat i), sI (Int32.ofNat cs.length), sI (Int32.ofNat cs.length), s6, s7] [])
  | [], i, s6, s7, vm0, T0, lc, W0, hr, hi, h3, hq => by
    have hw := K.1
    refine oGo W0 [.iload_n 1, .iload 5] (by decide +kernel) (ls' := #[sR t, sI (Int32.ofNat i), sR u, sI (Int32.ofNat i), sI (Int32.ofNat cs.length), sI (Int32.ofNat cs.length), s6, s7]) (st' := [(.int (Int32.ofNat cs.length)), (.int (Int32.ofNat i))]) rfl rfl (pc' := 9) rfl ?_
    refine oIcT W0 (cd := .ge) (o := 34) (by decide +kernel) (XT.ii_ge_t (fun q => absurd ((n_lt (by omega) (by omega)).mp q) (by have := List.drop_eq_nil_iff.mp hr; omega))) (pc' := 43) (by decide) (by decide) ?_
    refine oGo W0 [.iconst 1] (by decide +kernel) (ls' := #[sR t, sI (Int32.ofNat i), sR u, sI (Int32.ofNat i), sI (Int32.ofNat cs.length), sI (Int32.ofNat cs.length), s6, s7]) (st' := [(.int 1)]) rfl rfl (pc' := 44) rfl ?_
    exact oRetN (by simp) W0 rfl (by decide +kernel) (lb rfl) (lb rfl) (fun vm' hv => ⟨_, rfl, rfl, Or.inl ⟨rfl, hq.mpr (by rw [hr, List.drop_eq_nil_of_le (by have := List.drop_eq_nil_iff.mp hr; omega)])⟩⟩)
  | c :: rest, i, s6, s7, vm0, T0, lc, W0, hr, hi, h3, hq => by
    have hw := K.1
    have hc : cs[i]? = some c := by have := congrArg (fun l => l[0]?) hr; simpa [List.getElem?_drop] using this
    have hr1 : cs.drop (i + 1) = rest := by have := congrArg List.tail hr; simpa [List.tail_drop] using this
    have hlt : i < cs.length := (List.getElem?_eq_some_iff.mp hc).1
    have hP := P c (List.mem_of_getElem? hc)
    have hlt2 : i < ds.length := by omega
    obtain ⟨b, hb⟩ : ∃ b, ds[i]? = some b := ⟨_, List.getElem?_eq_getElem hlt2⟩
    have hPb := P2 b (List.mem_of_getElem? hb)
    have e1 : cs.drop i = c :: cs.drop (i + 1) := by rw [List.drop_eq_getElem_cons hlt, (List.getElem?_eq_some_iff.mp hc).2]
    have e2 : ds.drop i = b :: ds.drop (i + 1) := by rw [List.drop_eq_getElem_cons hlt2, (List.getElem?_eq_some_iff.mp hb).2]
    rcases h3 with ⟨rfl, rfl⟩ | ⟨k6, k7, rfl, rfl⟩
    · refine oGo W0 [.iload_n 1, .iload 5] (by decide +kernel) (ls' := #[sR t, sI (Int32.ofNat i), sR u, sI (Int32.ofNat i), sI (Int32.ofNat cs.length), sI (Int32.ofNat cs.length), sU, sU]) (st' := [(.int (Int32.ofNat cs.length)), (.int (Int32.ofNat i))]) rfl rfl (pc' := 9) rfl ?_
      refine oIcF W0 (cd := .ge) (o := 34) (by decide +kernel) (XT.ii_ge_f ((n_lt (by omega) (by omega)).mpr hlt)) (pc' := 12) rfl ?_
      refine oGo W0 [.aload_n 0, .iload_n 1, .iinc 1 1] (by decide +kernel) (ls' := #[sR t, sI ((Int32.ofNat i) + (1 : Int32)), sR u, sI (Int32.ofNat i), sI (Int32.ofNat cs.length), sI (Int32.ofNat cs.length), sU, sU]) (st' := [(.int (Int32.ofNat i)), (.ref t)]) rfl rfl (pc' := 17) rfl ?_
      rw [n_in]
      refine oGet W0 A (v := (.int c.toInt8.toInt32)) (n_nn (by omega)) (by rw [n_cl (by omega), List.getElem?_map, hc]; rfl) (Or.inr (Or.inl ⟨rfl, rfl⟩)) (by decide +kernel) ?_
      refine oGo W0 [.istore 6, .aload_n 2, .iload_n 3, .iinc 3 1] (by decide +kernel) (ls' := #[sR t, sI (Int32.ofNat (i + 1)), sR u, sI ((Int32.ofNat i) + (1 : Int32)), sI (Int32.ofNat cs.length), sI (Int32.ofNat cs.length), sI c.toInt8.toInt32, sU]) (st' := [(.int (Int32.ofNat i)), (.ref u)]) rfl rfl (pc' := 25) rfl ?_
      rw [n_in]
      refine oGet W0 B (v := (.int b.toInt8.toInt32)) (n_nn (by omega)) (by rw [n_cl (by omega), List.getElem?_map, hb]; rfl) (Or.inr (Or.inl ⟨rfl, rfl⟩)) (by decide +kernel) ?_
      refine oGo W0 [.istore 7, .iload 6, .iload 7] (by decide +kernel) (ls' := #[sR t, sI (Int32.ofNat (i + 1)), sR u, sI (Int32.ofNat (i + 1)), sI (Int32.ofNat cs.length), sI (Int32.ofNat cs.length), sI c.toInt8.toInt32, sI b.toInt8.toInt32]) (st' := [(.int b.toInt8.toInt32), (.int c.toInt8.toInt32)]) rfl rfl (pc' := 32) rfl ?_
      obtain ⟨v101, T101, L101, h101, vm101, W101, ⟨r101, rfl, e101, Q101⟩, C101, st101⟩ := oCallS W0 (idx := 153) (pc := 32) (ls := #[sR t, sI (Int32.ofNat (i + 1)), sR u, sI (Int32.ofNat (i + 1)), sI (Int32.ofNat cs.length), sI (Int32.ofNat cs.length), sI c.toInt8.toInt32, sI b.toInt8.toInt32]) (st := []) (argsL := [(.int c.toInt8.toInt32), (.int b.toInt8.toInt32)]) (c_eqc K rfl rfl hP hPb) (fun x hx => nomatch hx) (wK K 132 rfl) (wK K 133 rfl) (wK K 98 rfl) (wK K 134 rfl) (by decide) (na := 2) rfl (by decide +kernel) rfl (stk := [(.int b.toInt8.toInt32), (.int c.toInt8.toInt32)]) rfl (by decide +kernel) (V := 0) (lb rfl) (lb rfl) (lb rfl) (lb rfl) (lb rfl)
      refine oLift st101 ?_
      rw [e101] at W101 C101
      show OG _ _ _ _ _ _ _ _ _ _ _ (mkF m 35 #[sR t, sI (Int32.ofNat (i + 1)), sR u, sI (Int32.ofNat (i + 1)), sI (Int32.ofNat cs.length), sI (Int32.ofNat cs.length), sI c.toInt8.toInt32, sI b.toInt8.toInt32] [(.int r101)])
      rcases Q101 with ⟨rfl, hz101⟩ | ⟨rfl, hz101⟩
      · refine oIfF W101 (cd := .eq) (o := 6) (by decide +kernel) (XT.i0_eq_f (by decide)) (pc' := 38) rfl ?_
        refine oGo W101 [.goto (-32)] (by decide +kernel) (ls' := #[sR t, sI (Int32.ofNat (i + 1)), sR u, sI (Int32.ofNat (i + 1)), sI (Int32.ofNat cs.length), sI (Int32.ofNat cs.length), sI c.toInt8.toInt32, sI b.toInt8.toInt32]) (st' := []) rfl rfl (pc' := 6) rfl ?_
        exact c_rci_l K A B P P2 hl hd rest (i + 1) _ _ W101 hr1 (by omega) (Or.inr ⟨_, _, rfl, rfl⟩) (hq.trans (by rw [e1, e2, List.map_cons, List.map_cons, List.cons.injEq]; exact ⟨fun q => q.2, fun q => ⟨hz101, q⟩⟩))
      · refine oIfT W101 (cd := .eq) (o := 6) (by decide +kernel) (XT.i0_eq_t rfl) (pc' := 41) (by decide) (by decide) ?_
        refine oGo W101 [.iconst 0] (by decide +kernel) (ls' := #[sR t, sI (Int32.ofNat (i + 1)), sR u, sI (Int32.ofNat (i + 1)), sI (Int32.ofNat cs.length), sI (Int32.ofNat cs.length), sI c.toInt8.toInt32, sI b.toInt8.toInt32]) (st' := [(.int 0)]) rfl rfl (pc' := 42) rfl ?_
        exact oRetN (by simp) W101 rfl (by decide +kernel) (lb rfl) (lb rfl) (fun vm' hv => ⟨_, rfl, rfl, Or.inr ⟨rfl, fun q => hz101 (by have z := hq.mp q; rw [e1, e2, List.map_cons, List.map_cons, List.cons.injEq] at z; exact z.1)⟩⟩)
    · refine oGo W0 [.iload_n 1, .iload 5] (by decide +kernel) (ls' := #[sR t, sI (Int32.ofNat i), sR u, sI (Int32.ofNat i), sI (Int32.ofNat cs.length), sI (Int32.ofNat cs.length), sI k6, sI k7]) (st' := [(.int (Int32.ofNat cs.length)), (.int (Int32.ofNat i))]) rfl rfl (pc' := 9) rfl ?_
      refine oIcF W0 (cd := .ge) (o := 34) (by decide +kernel) (XT.ii_ge_f ((n_lt (by omega) (by omega)).mpr hlt)) (pc' := 12) rfl ?_
      refine oGo W0 [.aload_n 0, .iload_n 1, .iinc 1 1] (by decide +kernel) (ls' := #[sR t, sI ((Int32.ofNat i) + (1 : Int32)), sR u, sI (Int32.ofNat i), sI (Int32.ofNat cs.length), sI (Int32.ofNat cs.length), sI k6, sI k7]) (st' := [(.int (Int32.ofNat i)), (.ref t)]) rfl rfl (pc' := 17) rfl ?_
      rw [n_in]
      refine oGet W0 A (v := (.int c.toInt8.toInt32)) (n_nn (by omega)) (by rw [n_cl (by omega), List.getElem?_map, hc]; rfl) (Or.inr (Or.inl ⟨rfl, rfl⟩)) (by decide +kernel) ?_
      refine oGo W0 [.istore 6, .aload_n 2, .iload_n 3, .iinc 3 1] (by decide +kernel) (ls' := #[sR t, sI (Int32.ofNat (i + 1)), sR u, sI ((Int32.ofNat i) + (1 : Int32)), sI (Int32.ofNat cs.length), sI (Int32.ofNat cs.length), sI c.toInt8.toInt32, sI k7]) (st' := [(.int (Int32.ofNat i)), (.ref u)]) rfl rfl (pc' := 25) rfl ?_
      rw [n_in]
      refine oGet W0 B (v := (.int b.toInt8.toInt32)) (n_nn (by omega)) (by rw [n_cl (by omega), List.getElem?_map, hb]; rfl) (Or.inr (Or.inl ⟨rfl, rfl⟩)) (by decide +kernel) ?_
      refine oGo W0 [.istore 7, .iload 6, .iload 7] (by decide +kernel) (ls' := #[sR t, sI (Int32.ofNat (i + 1)), sR u, sI (Int32.ofNat (i + 1)), sI (Int32.ofNat cs.length), sI (Int32.ofNat cs.length), sI c.toInt8.toInt32, sI b.toInt8.toInt32]) (st' := [(.int b.toInt8.toInt32), (.int c.toInt8.toInt32)]) rfl rfl (pc' := 32) rfl ?_
      obtain ⟨v102, T102, L102, h102, vm102, W102, ⟨r102, rfl, e102, Q102⟩, C102, st102⟩ := oCallS W0 (idx := 153) (pc := 32) (ls := #[sR t, sI (Int32.ofNat (i + 1)), sR u, sI (Int32.ofNat (i + 1)), sI (Int32.ofNat cs.length), sI (Int32.ofNat cs.length), sI c.toInt8.toInt32, sI b.toInt8.toInt32]) (st := []) (argsL := [(.int c.toInt8.toInt32), (.int b.toInt8.toInt32)]) (c_eqc K rfl rfl hP hPb) (fun x hx => nomatch hx) (wK K 132 rfl) (wK K 133 rfl) (wK K 98 rfl) (wK K 134 rfl) (by decide) (na := 2) rfl (by decide +kernel) rfl (stk := [(.int b.toInt8.toInt32), (.int c.toInt8.toInt32)]) rfl (by decide +kernel) (V := 0) (lb rfl) (lb rfl) (lb rfl) (lb rfl) (lb rfl)
      refine oLift st102 ?_
      rw [e102] at W102 C102
      show OG _ _ _ _ _ _ _ _ _ _ _ (mkF m 35 #[sR t, sI (Int32.ofNat (i + 1)), sR u, sI (Int32.ofNat (i + 1)), sI (Int32.ofNat cs.length), sI (Int32.ofNat cs.length), sI c.toInt8.toInt32, sI b.toInt8.toInt32] [(.int r102)])
      rcases Q102 with ⟨rfl, hz102⟩ | ⟨rfl, hz102⟩
      · refine oIfF W102 (cd := .eq) (o := 6) (by decide +kernel) (XT.i0_eq_f (by decide)) (pc' := 38) rfl ?_
        refine oGo W102 [.goto (-32)] (by decide +kernel) (ls' := #[sR t, sI (Int32.ofNat (i + 1)), sR u, sI (Int32.ofNat (i + 1)), sI (Int32.ofNat cs.length), sI (Int32.ofNat cs.length), sI c.toInt8.toInt32, sI b.toInt8.toInt32]) (st' := []) rfl rfl (pc' := 6) rfl ?_
        exact c_rci_l K A B P P2 hl hd rest (i + 1) _ _ W102 hr1 (by omega) (Or.inr ⟨_, _, rfl, rfl⟩) (hq.trans (by rw [e1, e2, List.map_cons, List.map_cons, List.cons.injEq]; exact ⟨fun q => q.2, fun q => ⟨hz102, q⟩⟩))
      · refine oIfT W102 (cd := .eq) (o := 6) (by decide +kernel) (XT.i0_eq_t rfl) (pc' := 41) (by decide) (by decide) ?_
        refine oGo W102 [.iconst 0] (by decide +kernel) (ls' := #[sR t, sI (Int32.ofNat (i + 1)), sR u, sI (Int32.ofNat (i + 1)), sI (Int32.ofNat cs.length), sI (Int32.ofNat cs.length), sI c.toInt8.toInt32, sI b.toInt8.toInt32]) (st' := [(.int 0)]) rfl rfl (pc' := 42) rfl ?_
        exact oRetN (by simp) W102 rfl (by decide +kernel) (lb rfl) (lb rfl) (fun vm' hv => ⟨_, rfl, rfl, Or.inr ⟨rfl, fun q => hz102 (by have z := hq.mp q; rw [e1, e2, List.map_cons, List.map_cons, List.cons.injEq] at z; exact z.1)⟩⟩)
set_option maxRecDepth 65536 in
set_option maxHeartbeats 40000000 in
theorem c_rci {l : Launch} {Z : State} {a0 : Array Value} {nb : Bool} (K : Ctx Z a0) {t u : Addr} {kt ku : ClassId} {cs ds : List Int32} {h0 : Heap} (A : OA Z h0 t kt .byte (byt cs)) (B : OA Z h0 u ku .byte (byt ds)) (P : ∀ c ∈ cs, ¬ c < 0 ∧ ¬ (255 : Int32) < c) (P2 : ∀ c ∈ ds, ¬ c < 0 ∧ ¬ (255 : Int32) < c) (hl : cs.length ≤ 4000) (hd : ds.length = cs.length) :
    OC l Z EL nb [] (⟨"java/lang/StringLatin1", "regionMatchesCI", "([BI[BII)Z"⟩ : MethodName) jdk_43_method_30_code 8 (some .boolean) rm_c_rci #[(.ref t), (.int 0), (.ref u), (.int 0), (.int (Int32.ofNat cs.length))] h0 [] (fun v _ h => ∃ r, v = some (.int r) ∧ h = h0 ∧ ((r = 1 ∧ cs.map fld = ds.map fld) ∨ (r = 0 ∧ ¬ (cs.map fld = ds.map fld)))) := by
  have hw := K.1
  have hS : ∀ a ∈ Bundle.stringAtoms, a.before a0 Z = true := K.2.2.1
  refine oEnter (by decide +kernel) K.2.1.2.1 ?_
  intro _p _e _s m _below _meth _c T0 W0 S0
  refine oEq (g' := mkF m 0 #[.val (.ref t), .val (.int 0), .val (.ref u), .val (.int 0), .val (.int (Int32.ofNat cs.length)), .unset, .unset, .unset] []) (by first | (simp [entryFrame, mkF, argsToLocals, Value.category]; done) | rfl) ?_
  refine oGo W0 [.iload_n 1, .iload 4, .iadd, .istore 5] (by decide +kernel) (ls' := #[sR t, sI 0, sR u, sI 0, sI (Int32.ofNat cs.length), sI ((0 : Int32) + (Int32.ofNat cs.length)), sU, sU]) (st' := []) rfl rfl (pc' := 6) rfl ?_
  rw [Int32.zero_add]
  exact c_rci_l K A B P P2 hl hd cs 0 .unset .unset W0 (by simp) (by omega) (Or.inl ⟨rfl, rfl⟩) (by rw [List.drop_zero, List.drop_zero])
abbrev rm_c_rgm : Room := { frames := 2, cells := 0, slots := 0, locals := 33 }
set_option maxRecDepth 65536 in
set_option maxHeartbeats 40000000 in
theorem c_rgm {l : Launch} {Z : State} {a0 : Array Value} {nb : Bool} (K : Ctx Z a0) {x y : Addr} {cs ds : List Int32} {h0 : Heap} (F : Str Z h0 x cs) (G : Str Z h0 y ds) (hl : cs.length ≤ 4000) (hd : ds.length = cs.length) :
    OC l Z EL nb [] (⟨"java/lang/String", "regionMatches", "(ZILjava/lang/String;II)Z"⟩ : MethodName) jdk_42_method_74_code 9 (some .boolean) rm_c_rgm #[(.ref x), (.int 1), (.int 0), (.ref y), (.int 0), (.int (Int32.ofNat cs.length))] h0 [] (fun v _ h => ∃ r, v = some (.int r) ∧ h = h0 ∧ ((r = 1 ∧ cs.map fld = ds.map fld) ∨ (r = 0 ∧ ¬ (cs.map fld = ds.map fld)))) := by
  have hw := K.1
  have hS : ∀ a ∈ Bundle.stringAtoms, a.before a0 Z = true := K.2.2.1
  obtain ⟨t, kt, X1, Fc, Fv, A, P⟩ := id F
  obtain ⟨u, ku, X2, Gc, Gv, B, P2⟩ := id G
  refine oEnter (by decide +kernel) K.2.1.2.1 ?_
  intro _p _e _s m _below _meth _c T0 W0 S0
  refine oEq (g' := mkF m 0 #[.val (.ref x), .val (.int 1), .val (.int 0), .val (.ref y), .val (.int 0), .val (.int (Int32.ofNat cs.length)), .unset, .unset, .unset] []) (by first | (simp [entryFrame, mkF, argsToLocals, Value.category]; done) | rfl) ?_
  refine oGo W0 [.iload_n 1] (by decide +kernel) (ls' := #[sR x, sI 1, sI 0, sR y, sI 0, sI (Int32.ofNat cs.length), sU, sU, sU]) (st' := [(.int 1)]) rfl rfl (pc' := 1) rfl ?_
  refine oIfT W0 (cd := .ne) (o := 14) (by decide +kernel) (XT.i0_ne_t (by decide)) (pc' := 15) (by decide) (by decide) ?_
  refine oGo W0 [.iload 4] (by decide +kernel) (ls' := #[sR x, sI 1, sI 0, sR y, sI 0, sI (Int32.ofNat cs.length), sU, sU, sU]) (st' := [(.int 0)]) rfl rfl (pc' := 17) rfl ?_
  refine oIfF W0 (cd := .lt) (o := 38) (by decide +kernel) (XT.i0_lt_f (by decide)) (pc' := 20) rfl ?_
  refine oGo W0 [.iload_n 2] (by decide +kernel) (ls' := #[sR x, sI 1, sI 0, sR y, sI 0, sI (Int32.ofNat cs.length), sU, sU, sU]) (st' := [(.int 0)]) rfl rfl (pc' := 21) rfl ?_
  refine oIfF W0 (cd := .lt) (o := 34) (by decide +kernel) (XT.i0_lt_f (by decide)) (pc' := 24) rfl ?_
  refine oGo W0 [.iload_n 2, .i2l, .aload_n 0] (by decide +kernel) (ls' := #[sR x, sI 1, sI 0, sR y, sI 0, sI (Int32.ofNat cs.length), sU, sU, sU]) (st' := [(.ref x), (.long ((0 : Int32).toInt64))]) rfl rfl (pc' := 27) rfl ?_
  obtain ⟨v1, T1, L1, h1, vm1, W1, ⟨rfl, e1⟩, C1, st1⟩ := oCallV W0 (idx := 505) (pc := 27) (ls := #[sR x, sI 1, sI 0, sR y, sI 0, sI (Int32.ofNat cs.length), sU, sU, sU]) (st := [(.long ((0 : Int32).toInt64))]) (argsL := []) X1 (c_len K F) (fun x hx => nomatch hx) (wK K 56 rfl) (wK K 57 rfl) (notFace_of_selects (args := #[]) (mvT W0.warm (wK K 59 rfl))) (wK K 59 rfl) (wK K 58 rfl) (wK K 7 rfl) (wK K 60 rfl) (by decide) (na := 0) rfl (by decide +kernel) rfl (stk := [(.ref x), (.long ((0 : Int32).toInt64))]) rfl (by decide +kernel) (V := 2) (lb rfl) (lb rfl) (lb rfl) (lb rfl) (lb rfl)
  refine oLift st1 ?_
  rw [e1] at W1 C1
  show OG _ _ _ _ _ _ _ _ _ _ _ (mkF m 30 #[sR x, sI 1, sI 0, sR y, sI 0, sI (Int32.ofNat cs.length), sU, sU, sU] [(.int (Int32.ofNat cs.length)), (.long ((0 : Int32).toInt64))])
  refine oGo W1 [.i2l, .iload 5, .i2l, .lsub, .lcmp] (by decide +kernel) (ls' := #[sR x, sI 1, sI 0, sR y, sI 0, sI (Int32.ofNat cs.length), sU, sU, sU]) (st' := [(.int (XT.cmpL ((0 : Int32).toInt64) (((Int32.ofNat cs.length).toInt64) - ((Int32.ofNat cs.length).toInt64))))]) rfl rfl (pc' := 36) rfl ?_
  rw [Int64.sub_self]
  refine oIfF W1 (cd := .gt) (o := 19) (by decide +kernel) (XT.i0_gt_f (by decide)) (pc' := 39) rfl ?_
  refine oGo W1 [.iload 4, .i2l, .aload_n 3] (by decide +kernel) (ls' := #[sR x, sI 1, sI 0, sR y, sI 0, sI (Int32.ofNat cs.length), sU, sU, sU]) (st' := [(.ref y), (.long ((0 : Int32).toInt64))]) rfl rfl (pc' := 43) rfl ?_
  obtain ⟨v2, T2, L2, h2, vm2, W2, ⟨rfl, e2⟩, C2, st2⟩ := oCallV W1 (idx := 505) (pc := 43) (ls := #[sR x, sI 1, sI 0, sR y, sI 0, sI (Int32.ofNat cs.length), sU, sU, sU]) (st := [(.long ((0 : Int32).toInt64))]) (argsL := []) X2 (c_len K G) (fun x hx => nomatch hx) (wK K 56 rfl) (wK K 57 rfl) (notFace_of_selects (args := #[]) (mvT W1.warm (wK K 59 rfl))) (wK K 59 rfl) (wK K 58 rfl) (wK K 7 rfl) (wK K 60 rfl) (by decide) (na := 0) rfl (by decide +kernel) rfl (stk := [(.ref y), (.long ((0 : Int32).toInt64))]) rfl (by decide +kernel) (V := 2) (lb rfl) (lb rfl) (lb rfl) (lb rfl) (lb rfl)
  refine oLift st2 ?_
  rw [e2] at W2 C2
  show OG _ _ _ _ _ _ _ _ _ _ _ (mkF m 46 #[sR x, sI 1, sI 0, sR y, sI 0, sI (Int32.ofNat cs.length), sU, sU, sU] [(.int (Int32.ofNat ds.length)), (.long ((0 : Int32).toInt64))])
  refine oGo W2 [.i2l, .iload 5, .i2l, .lsub, .lcmp] (by decide +kernel) (ls' := #[sR x, sI 1, sI 0, sR y, sI 0, sI (Int32.ofNat cs.length), sU, sU, sU]) (st' := [(.int (XT.cmpL ((0 : Int32).toInt64) (((Int32.ofNat ds.length).toInt64) - ((Int32.ofNat cs.length).toInt64))))]) rfl rfl (pc' := 52) rfl ?_
  rw [hd, Int64.sub_self]
  refine oIfT W2 (cd := .le) (o := 5) (by decide +kernel) (XT.i0_le_t (by decide)) (pc' := 57) (by decide) (by decide) ?_
  refine oGo W2 [.aload_n 0] (by decide +kernel) (ls' := #[sR x, sI 1, sI 0, sR y, sI 0, sI (Int32.ofNat cs.length), sU, sU, sU]) (st' := [(.ref x)]) rfl rfl (pc' := 58) rfl ?_
  obtain ⟨T3, W3, st3⟩ := oGetF W2 (pc := 58) (ls := #[sR x, sI 1, sI 0, sR y, sI 0, sI (Int32.ofNat cs.length), sU, sU, sU]) (st := []) (wK K 32 rfl) Via.refl Fv (by decide +kernel)
  refine oLift st3 ?_
  refine oGo W3 [.astore 6, .aload_n 3] (by decide +kernel) (ls' := #[sR x, sI 1, sI 0, sR y, sI 0, sI (Int32.ofNat cs.length), sR t, sU, sU]) (st' := [(.ref y)]) rfl rfl (pc' := 64) rfl ?_
  obtain ⟨T4, W4, st4⟩ := oGetF W3 (pc := 64) (ls := #[sR x, sI 1, sI 0, sR y, sI 0, sI (Int32.ofNat cs.length), sR t, sU, sU]) (st := []) (wK K 32 rfl) Via.refl Gv (by decide +kernel)
  refine oLift st4 ?_
  refine oGo W4 [.astore 7, .aload_n 0] (by decide +kernel) (ls' := #[sR x, sI 1, sI 0, sR y, sI 0, sI (Int32.ofNat cs.length), sR t, sR u, sU]) (st' := [(.ref x)]) rfl rfl (pc' := 70) rfl ?_
  obtain ⟨v5, T5, L5, h5, vm5, W5, ⟨rfl, e5⟩, C5, st5⟩ := oCallV W4 (idx := 335) (pc := 70) (ls := #[sR x, sI 1, sI 0, sR y, sI 0, sI (Int32.ofNat cs.length), sR t, sR u, sU]) (st := []) (argsL := []) X1 (c_coder K rfl Fc) (fun x hx => nomatch hx) (wK K 61 rfl) (wK K 62 rfl) (notFace_of_selects (args := #[]) (mvT W4.warm (wK K 64 rfl))) (wK K 64 rfl) (wK K 63 rfl) (wK K 7 rfl) (wK K 65 rfl) (by decide) (na := 0) rfl (by decide +kernel) rfl (stk := [(.ref x)]) rfl (by decide +kernel) (V := 0) (lb rfl) (lb rfl) (lb rfl) (lb rfl) (lb rfl)
  refine oLift st5 ?_
  rw [e5] at W5 C5
  show OG _ _ _ _ _ _ _ _ _ _ _ (mkF m 73 #[sR x, sI 1, sI 0, sR y, sI 0, sI (Int32.ofNat cs.length), sR t, sR u, sU] [(.int 0)])
  refine oGo W5 [.istore 8, .iload 8, .aload_n 3] (by decide +kernel) (ls' := #[sR x, sI 1, sI 0, sR y, sI 0, sI (Int32.ofNat cs.length), sR t, sR u, sI 0]) (st' := [(.ref y), (.int 0)]) rfl rfl (pc' := 78) rfl ?_
  obtain ⟨v6, T6, L6, h6, vm6, W6, ⟨rfl, e6⟩, C6, st6⟩ := oCallV W5 (idx := 335) (pc := 78) (ls := #[sR x, sI 1, sI 0, sR y, sI 0, sI (Int32.ofNat cs.length), sR t, sR u, sI 0]) (st := [(.int 0)]) (argsL := []) X2 (c_coder K rfl Gc) (fun x hx => nomatch hx) (wK K 61 rfl) (wK K 62 rfl) (notFace_of_selects (args := #[]) (mvT W5.warm (wK K 64 rfl))) (wK K 64 rfl) (wK K 63 rfl) (wK K 7 rfl) (wK K 65 rfl) (by decide) (na := 0) rfl (by decide +kernel) rfl (stk := [(.ref y), (.int 0)]) rfl (by decide +kernel) (V := 1) (lb rfl) (lb rfl) (lb rfl) (lb rfl) (lb rfl)
  refine oLift st6 ?_
  rw [e6] at W6 C6
  show OG _ _ _ _ _ _ _ _ _ _ _ (mkF m 81 #[sR x, sI 1, sI 0, sR y, sI 0, sI (Int32.ofNat cs.length), sR t, sR u, sI 0] [(.int 0), (.int 0)])
  refine oIcF W6 (cd := .ne) (o := 36) (by decide +kernel) (XT.ii_ne_f (by decide)) (pc' := 84) rfl ?_
  refine oGo W6 [.iload 8] (by decide +kernel) (ls' := #[sR x, sI 1, sI 0, sR y, sI 0, sI (Int32.ofNat cs.length), sR t, sR u, sI 0]) (st' := [(.int 0)]) rfl rfl (pc' := 86) rfl ?_
  refine oIfF W6 (cd := .ne) (o := 18) (by decide +kernel) (XT.i0_ne_f (by decide)) (pc' := 89) rfl ?_
  refine oGo W6 [.aload 6, .iload_n 2, .aload 7, .iload 4, .iload 5] (by decide +kernel) (ls' := #[sR x, sI 1, sI 0, sR y, sI 0, sI (Int32.ofNat cs.length), sR t, sR u, sI 0]) (st' := [(.int (Int32.ofNat cs.length)), (.int 0), (.ref u), (.int 0), (.ref t)]) rfl rfl (pc' := 98) rfl ?_
  obtain ⟨v7, T7, L7, h7, vm7, W7, ⟨r7, rfl, e7, Q7⟩, C7, st7⟩ := oCallS W6 (idx := 613) (pc := 98) (ls := #[sR x, sI 1, sI 0, sR y, sI 0, sI (Int32.ofNat cs.length), sR t, sR u, sI 0]) (st := []) (argsL := [(.ref t), (.int 0), (.ref u), (.int 0), (.int (Int32.ofNat cs.length))]) (c_rci K A B P P2 hl hd) (fun x hx => nomatch hx) (wK K 129 rfl) (wK K 130 rfl) (wK K 68 rfl) (wK K 131 rfl) (by decide) (na := 5) rfl (by decide +kernel) rfl (stk := [(.int (Int32.ofNat cs.length)), (.int 0), (.ref u), (.int 0), (.ref t)]) rfl (by decide +kernel) (V := 0) (lb rfl) (lb rfl) (lb rfl) (lb rfl) (lb rfl)
  refine oLift st7 ?_
  rw [e7] at W7 C7
  show OG _ _ _ _ _ _ _ _ _ _ _ (mkF m 101 #[sR x, sI 1, sI 0, sR y, sI 0, sI (Int32.ofNat cs.length), sR t, sR u, sI 0] [(.int r7)])
  rcases Q7 with ⟨rfl, hq7⟩ | ⟨rfl, hq7⟩
  · refine oGo W7 [.goto 15] (by decide +kernel) (ls' := #[sR x, sI 1, sI 0, sR y, sI 0, sI (Int32.ofNat cs.length), sR t, sR u, sI 0]) (st' := [(.int 1)]) rfl rfl (pc' := 116) rfl ?_
    exact oRetN (by simp) W7 rfl (by decide +kernel) (lb rfl) (lb rfl) (fun vm' hv => ⟨_, rfl, rfl, Or.inl ⟨rfl, hq7⟩⟩)
  · refine oGo W7 [.goto 15] (by decide +kernel) (ls' := #[sR x, sI 1, sI 0, sR y, sI 0, sI (Int32.ofNat cs.length), sR t, sR u, sI 0]) (st' := [(.int 0)]) rfl rfl (pc' := 116) rfl ?_
    exact oRetN (by simp) W7 rfl (by decide +kernel) (lb rfl) (lb rfl) (fun vm' hv => ⟨_, rfl, rfl, Or.inr ⟨rfl, hq7⟩⟩)
abbrev rm_c_eqi : Room := { frames := 3, cells := 0, slots := 0, locals := 53 }
set_option maxRecDepth 65536 in
set_option maxHeartbeats 40000000 in
theorem c_eqi {l : Launch} {Z : State} {a0 : Array Value} {nb : Bool} (K : Ctx Z a0) {x y : Addr} {cs ds : List Int32} {h0 : Heap} (F : Str Z h0 x cs) (G : Str Z h0 y ds) (hl : cs.length ≤ 4000) (hl2 : ds.length ≤ 4000) :
    OC l Z EL nb [] (⟨"java/lang/String", "equalsIgnoreCase", "(Ljava/lang/String;)Z"⟩ : MethodName) jdk_42_method_70_code 2 (some .boolean) rm_c_eqi #[(.ref x), (.ref y)] h0 [] (fun v _ h => ∃ r, v = some (.int r) ∧ h = h0 ∧ ((r = 1 ∧ cs.map fld = ds.map fld) ∨ (r = 0 ∧ ¬ (cs.map fld = ds.map fld)))) := by
  have hw := K.1
  have hS : ∀ a ∈ Bundle.stringAtoms, a.before a0 Z = true := K.2.2.1
  refine oEnter (by decide +kernel) K.2.1.2.1 ?_
  intro _p _e _s m _below _meth _c T0 W0 S0
  refine oEq (g' := mkF m 0 #[.val (.ref x), .val (.ref y)] []) (by first | (simp [entryFrame, mkF, argsToLocals, Value.category]; done) | rfl) ?_
  refine oGo W0 [.aload_n 0, .aload_n 1] (by decide +kernel) (ls' := #[sR x, sR y]) (st' := [(.ref y), (.ref x)]) rfl rfl (pc' := 2) rfl ?_
  by_cases hxy : x = y
  · refine oAcF W0 (cd := .ne) (o := 7) (by decide +kernel) rfl rfl (by simp [XT.acmp, hxy]) (pc' := 5) rfl ?_
    refine oGo W0 [.iconst 1, .goto 38] (by decide +kernel) (ls' := #[sR x, sR y]) (st' := [(.int 1)]) rfl rfl (pc' := 44) rfl ?_
    exact oRetN (by simp) W0 rfl (by decide +kernel) (lb rfl) (lb rfl) (fun vm' hv => ⟨_, rfl, rfl, Or.inl ⟨rfl, by subst hxy; rw [F.uniq G]⟩⟩)
  · refine oAcT W0 (cd := .ne) (o := 7) (by decide +kernel) rfl rfl (by simp [XT.acmp, hxy]) (pc' := 9) (by decide) (by decide) ?_
    refine oGo W0 [.aload_n 1] (by decide +kernel) (ls' := #[sR x, sR y]) (st' := [(.ref y)]) rfl rfl (pc' := 10) rfl ?_
    refine oNuF W0 (o := 33) (by decide +kernel) (pc' := 13) rfl ?_
    refine oGo W0 [.aload_n 1] (by decide +kernel) (ls' := #[sR x, sR y]) (st' := [(.ref y)]) rfl rfl (pc' := 14) rfl ?_
    obtain ⟨v1, T1, L1, h1, vm1, W1, ⟨rfl, e1⟩, C1, st1⟩ := oCallV W0 (idx := 505) (pc := 14) (ls := #[sR x, sR y]) (st := []) (argsL := []) G.exa (c_len K G) (fun x hx => nomatch hx) (wK K 56 rfl) (wK K 57 rfl) (notFace_of_selects (args := #[]) (mvT W0.warm (wK K 59 rfl))) (wK K 59 rfl) (wK K 58 rfl) (wK K 7 rfl) (wK K 60 rfl) (by decide) (na := 0) rfl (by decide +kernel) rfl (stk := [(.ref y)]) rfl (by decide +kernel) (V := 0) (lb rfl) (lb rfl) (lb rfl) (lb rfl) (lb rfl)
    refine oLift st1 ?_
    rw [e1] at W1 C1
    show OG _ _ _ _ _ _ _ _ _ _ _ (mkF m 17 #[sR x, sR y] [(.int (Int32.ofNat ds.length))])
    refine oGo W1 [.aload_n 0] (by decide +kernel) (ls' := #[sR x, sR y]) (st' := [(.ref x), (.int (Int32.ofNat ds.length))]) rfl rfl (pc' := 18) rfl ?_
    obtain ⟨v2, T2, L2, h2, vm2, W2, ⟨rfl, e2⟩, C2, st2⟩ := oCallV W1 (idx := 505) (pc := 18) (ls := #[sR x, sR y]) (st := [(.int (Int32.ofNat ds.length))]) (argsL := []) F.exa (c_len K F) (fun x hx => nomatch hx) (wK K 56 rfl) (wK K 57 rfl) (notFace_of_selects (args := #[]) (mvT W1.warm (wK K 59 rfl))) (wK K 59 rfl) (wK K 58 rfl) (wK K 7 rfl) (wK K 60 rfl) (by decide) (na := 0) rfl (by decide +kernel) rfl (stk := [(.ref x), (.int (Int32.ofNat ds.length))]) rfl (by decide +kernel) (V := 1) (lb rfl) (lb rfl) (lb rfl) (lb rfl) (lb rfl)
    refine oLift st2 ?_
    rw [e2] at W2 C2
    show OG _ _ _ _ _ _ _ _ _ _ _ (mkF m 21 #[sR x, sR y] [(.int (Int32.ofNat cs.length)), (.int (Int32.ofNat ds.length))])
    by_cases hc3 : (Int32.ofNat ds.length) = (Int32.ofNat cs.length)
    rotate_left
    · refine oIcT W2 (cd := .ne) (o := 22) (by decide +kernel) (XT.ii_ne_t hc3) (pc' := 43) (by decide) (by decide) ?_
      refine oGo W2 [.iconst 0] (by decide +kernel) (ls' := #[sR x, sR y]) (st' := [(.int 0)]) rfl rfl (pc' := 44) rfl ?_
      exact oRetN (by simp) W2 rfl (by decide +kernel) (lb rfl) (lb rfl) (fun vm' hv => ⟨_, rfl, rfl, Or.inr ⟨rfl, fun q => hc3 (by have z := congrArg List.length q; rw [List.length_map, List.length_map] at z; rw [z])⟩⟩)
    refine oIcF W2 (cd := .ne) (o := 22) (by decide +kernel) (XT.ii_ne_f hc3) (pc' := 24) rfl ?_
    have hd : ds.length = cs.length := ofNat_inj hl2 hl hc3
    refine oGo W2 [.aload_n 0, .iconst 1, .iconst 0, .aload_n 1, .iconst 0, .aload_n 0] (by decide +kernel) (ls' := #[sR x, sR y]) (st' := [(.ref x), (.int 0), (.ref y), (.int 0), (.int 1), (.ref x)]) rfl rfl (pc' := 30) rfl ?_
    obtain ⟨v4, T4, L4, h4, vm4, W4, ⟨rfl, e4⟩, C4, st4⟩ := oCallV W2 (idx := 505) (pc := 30) (ls := #[sR x, sR y]) (st := [(.int 0), (.ref y), (.int 0), (.int 1), (.ref x)]) (argsL := []) F.exa (c_len K F) (fun x hx => nomatch hx) (wK K 56 rfl) (wK K 57 rfl) (notFace_of_selects (args := #[]) (mvT W2.warm (wK K 59 rfl))) (wK K 59 rfl) (wK K 58 rfl) (wK K 7 rfl) (wK K 60 rfl) (by decide) (na := 0) rfl (by decide +kernel) rfl (stk := [(.ref x), (.int 0), (.ref y), (.int 0), (.int 1), (.ref x)]) rfl (by decide +kernel) (V := 5) (lb rfl) (lb rfl) (lb rfl) (lb rfl) (lb rfl)
    refine oLift st4 ?_
    rw [e4] at W4 C4
    show OG _ _ _ _ _ _ _ _ _ _ _ (mkF m 33 #[sR x, sR y] [(.int (Int32.ofNat cs.length)), (.int 0), (.ref y), (.int 0), (.int 1), (.ref x)])
    obtain ⟨v5, T5, L5, h5, vm5, W5, ⟨r5, rfl, e5, Q5⟩, C5, st5⟩ := oCallV W4 (idx := 582) (pc := 33) (ls := #[sR x, sR y]) (st := []) (argsL := [(.int 1), (.int 0), (.ref y), (.int 0), (.int (Int32.ofNat cs.length))]) F.exa (c_rgm K F G hl hd) (fun x hx => nomatch hx) (wK K 124 rfl) (wK K 125 rfl) (notFace_of_selects (args := #[]) (mvT W4.warm (wK K 127 rfl))) (wK K 127 rfl) (wK K 126 rfl) (wK K 7 rfl) (wK K 128 rfl) (by decide) (na := 5) rfl (by decide +kernel) rfl (stk := [(.int (Int32.ofNat cs.length)), (.int 0), (.ref y), (.int 0), (.int 1), (.ref x)]) rfl (by decide +kernel) (V := 0) (lb rfl) (lb rfl) (lb rfl) (lb rfl) (lb rfl)
    refine oLift st5 ?_
    rw [e5] at W5 C5
    show OG _ _ _ _ _ _ _ _ _ _ _ (mkF m 36 #[sR x, sR y] [(.int r5)])
    rcases Q5 with ⟨rfl, hq5⟩ | ⟨rfl, hq5⟩
    · refine oIfF W5 (cd := .eq) (o := 7) (by decide +kernel) (XT.i0_eq_f (by decide)) (pc' := 39) rfl ?_
      refine oGo W5 [.iconst 1, .goto 4] (by decide +kernel) (ls' := #[sR x, sR y]) (st' := [(.int 1)]) rfl rfl (pc' := 44) rfl ?_
      exact oRetN (by simp) W5 rfl (by decide +kernel) (lb rfl) (lb rfl) (fun vm' hv => ⟨_, rfl, rfl, Or.inl ⟨rfl, hq5⟩⟩)
    · refine oIfT W5 (cd := .eq) (o := 7) (by decide +kernel) (XT.i0_eq_t rfl) (pc' := 43) (by decide) (by decide) ?_
      refine oGo W5 [.iconst 0] (by decide +kernel) (ls' := #[sR x, sR y]) (st' := [(.int 0)]) rfl rfl (pc' := 44) rfl ?_
      exact oRetN (by simp) W5 rfl (by decide +kernel) (lb rfl) (lb rfl) (fun vm' hv => ⟨_, rfl, rfl, Or.inr ⟨rfl, hq5⟩⟩)
theorem strp_len (cs : List Int32) : (strp cs).length ≤ cs.length := by
  rw [strp, List.length_take, List.length_drop]; omega
abbrev rm_c_nam : Room := { frames := 6, cells := 4, slots := 72, locals := 114 }
set_option maxRecDepth 65536 in
set_option maxHeartbeats 40000000 in
theorem c_nam {l : Launch} {Z : State} {a0 : Array Value} (K : Ctx Z a0) {x y : Addr} {cs ds : List Int32} {h0 : Heap} (F : Str Z h0 x cs) (G : Str Z h0 y ds) (hl : cs.length ≤ 4) (hl2 : ds.length ≤ 4) :
    OC l Z EL false [] (⟨"com/example/gentle_hub/gentlehub/server/MediaTypes", "names", "(Ljava/lang/String;Ljava/lang/String;)Z"⟩ : MethodName) prog_25_method_2_code 4 (some .boolean) rm_c_nam #[(.ref x), (.ref y)] h0 [] (fun v _ h => ∃ r, v = some (.int r) ∧ Ext h0 h ∧ ((r = 1 ∧ Nm cs ds) ∨ (r = 0 ∧ ¬ Nm cs ds))) := by
  have hw := K.1
  have hS : ∀ a ∈ Bundle.stringAtoms, a.before a0 Z = true := K.2.2.1
  have hel := ess_len cs
  have hsl := strp_len (ess cs)
  refine oEnter (by decide +kernel) K.2.1.2.1 ?_
  intro _p _e _s m _below _meth _c T0 W0 S0
  refine oEq (g' := mkF m 0 #[.val (.ref x), .val (.ref y), .unset, .unset] []) (by first | (simp [entryFrame, mkF, argsToLocals, Value.category]; done) | rfl) ?_
  refine oGo W0 [.aload_n 0, .bipush 59] (by decide +kernel) (ls' := #[sR x, sR y, sU, sU]) (st' := [(.int 59), (.ref x)]) rfl rfl (pc' := 3) rfl ?_
  obtain ⟨v1, T1, L1, h1, vm1, W1, ⟨rfl, e1⟩, C1, st1⟩ := oCallV W0 (idx := 7) (pc := 3) (ls := #[sR x, sR y, sU, sU]) (st := []) (argsL := [(.int 59)]) F.exa (c_ix1 K F (by omega) (by decide)) (fun x hx => nomatch hx) (wK K 41 rfl) (wK K 42 rfl) (notFace_of_selects (args := #[]) (mvT W0.warm (wK K 44 rfl))) (wK K 44 rfl) (wK K 43 rfl) (wK K 7 rfl) (wK K 45 rfl) (by decide) (na := 1) rfl (by decide +kernel) rfl (stk := [(.int 59), (.ref x)]) rfl (by decide +kernel) (V := 0) (lb rfl) (lb rfl) (lb rfl) (lb rfl) (lb rfl)
  refine oLift st1 ?_
  rw [e1] at W1 C1
  show OG _ _ _ _ _ _ _ _ _ _ _ (mkF m 6 #[sR x, sR y, sU, sU] [(.int (ixf cs 59 0))])
  rcases ix_ess cs 0 with ⟨he, hx⟩ | ⟨he, hx, ht⟩
  · rw [hx]
    refine oGo W1 [.istore_n 2, .iload_n 2] (by decide +kernel) (ls' := #[sR x, sR y, sI (-1), sU]) (st' := [(.int (-1))]) rfl rfl (pc' := 8) rfl ?_
    refine oIfF W1 (cd := .ge) (o := 7) (by decide +kernel) (XT.i0_ge_f (by decide)) (pc' := 11) rfl ?_
    have Fe : Str Z h0 x (ess cs) := by rw [he]; exact F
    refine oGo W1 [.aload_n 0, .goto 9, .astore_n 3, .aload_n 3] (by decide +kernel) (ls' := #[sR x, sR y, sI (-1), sR x]) (st' := [(.ref x)]) rfl rfl (pc' := 23) rfl ?_
    obtain ⟨v2, T2, L2, h2, vm2, W2, ⟨sx, rfl, F2, E2⟩, C2, st2⟩ := oCallV W1 (idx := 17) (pc := 23) (ls := #[sR x, sR y, sI (-1), sR x]) (st := []) (argsL := []) F.exa (c_str K Fe (by omega)) (fun x hx => nomatch hx) (wK K 83 rfl) (wK K 84 rfl) (notFace_of_selects (args := #[]) (mvT W1.warm (wK K 86 rfl))) (wK K 86 rfl) (wK K 85 rfl) (wK K 7 rfl) (wK K 87 rfl) (by decide) (na := 0) rfl (by decide +kernel) rfl (stk := [(.ref x)]) rfl (by decide +kernel) (V := 0) (lb rfl) (lb rfl) (lb rfl) (lb rfl) (lb rfl)
    refine oLift st2 ?_
    show OG _ _ _ _ _ _ _ _ _ _ _ (mkF m 26 #[sR x, sR y, sI (-1), sR x] [(.ref sx)])
    refine oGo W2 [.aload_n 1] (by decide +kernel) (ls' := #[sR x, sR y, sI (-1), sR x]) (st' := [(.ref y), (.ref sx)]) rfl rfl (pc' := 27) rfl ?_
    obtain ⟨v3, T3, L3, h3, vm3, W3, ⟨r3, rfl, e3, Q3⟩, C3, st3⟩ := oCallV W2 (idx := 21) (pc := 27) (ls := #[sR x, sR y, sI (-1), sR x]) (st := []) (argsL := [(.ref y)]) F2.exa (c_eqi K F2 (G.ext E2) (by omega) (by omega)) (fun x hx => nomatch hx) (wK K 113 rfl) (wK K 114 rfl) (notFace_of_selects (args := #[]) (mvT W2.warm (wK K 116 rfl))) (wK K 116 rfl) (wK K 115 rfl) (wK K 7 rfl) (wK K 117 rfl) (by decide) (na := 1) rfl (by decide +kernel) rfl (stk := [(.ref y), (.ref sx)]) rfl (by decide +kernel) (V := 0) (lb rfl) (lb rfl) (lb rfl) (lb rfl) (lb rfl)
    refine oLift st3 ?_
    rw [e3] at W3 C3
    show OG _ _ _ _ _ _ _ _ _ _ _ (mkF m 30 #[sR x, sR y, sI (-1), sR x] [(.int r3)])
    rcases Q3 with ⟨rfl, hq3⟩ | ⟨rfl, hq3⟩
    · exact oRetN (by simp) W3 rfl (by decide +kernel) (lb rfl) (lb rfl) (fun vm' hv => ⟨_, rfl, E2, Or.inl ⟨rfl, hq3⟩⟩)
    · exact oRetN (by simp) W3 rfl (by decide +kernel) (lb rfl) (lb rfl) (fun vm' hv => ⟨_, rfl, E2, Or.inr ⟨rfl, hq3⟩⟩)
  · rw [hx, Nat.zero_add]
    refine oGo W1 [.istore_n 2, .iload_n 2] (by decide +kernel) (ls' := #[sR x, sR y, sI (Int32.ofNat (ess cs).length), sU]) (st' := [(.int (Int32.ofNat (ess cs).length))]) rfl rfl (pc' := 8) rfl ?_
    refine oIfT W1 (cd := .ge) (o := 7) (by decide +kernel) (XT.i0_ge_t (n_nn (by omega))) (pc' := 15) (by decide) (by decide) ?_
    refine oGo W1 [.aload_n 0, .iconst 0, .iload_n 2] (by decide +kernel) (ls' := #[sR x, sR y, sI (Int32.ofNat (ess cs).length), sU]) (st' := [(.int (Int32.ofNat (ess cs).length)), (.int 0), (.ref x)]) rfl rfl (pc' := 18) rfl ?_
    obtain ⟨v4, T4, L4, h4, vm4, W4, ⟨z, rfl, F4, E4⟩, C4, st4⟩ := oCallV W1 (idx := 13) (pc := 18) (ls := #[sR x, sR y, sI (Int32.ofNat (ess cs).length), sU]) (st := []) (argsL := [(.int 0), (.int (Int32.ofNat (ess cs).length))]) F.exa (c_sub2 K K.2.2.2.1 F (by omega) (o := 0) (j := (ess cs).length) (Nat.zero_le _) (by omega) (fun _ => he)) (fun x hx => nomatch hx) (wK K 161 rfl) (wK K 162 rfl) (notFace_of_selects (args := #[]) (mvT W1.warm (wK K 164 rfl))) (wK K 164 rfl) (wK K 163 rfl) (wK K 7 rfl) (wK K 165 rfl) (by decide) (na := 2) rfl (by decide +kernel) rfl (stk := [(.int (Int32.ofNat (ess cs).length)), (.int 0), (.ref x)]) rfl (by decide +kernel) (V := 0) (lb rfl) (lb rfl) (lb rfl) (lb rfl) (lb rfl)
    refine oLift st4 ?_
    show OG _ _ _ _ _ _ _ _ _ _ _ (mkF m 21 #[sR x, sR y, sI (Int32.ofNat (ess cs).length), sU] [(.ref z)])
    have Fe : Str Z h4 z (ess cs) := by have q := F4; rw [List.drop_zero, Nat.sub_zero, ← ht] at q; exact q
    refine oGo W4 [.astore_n 3, .aload_n 3] (by decide +kernel) (ls' := #[sR x, sR y, sI (Int32.ofNat (ess cs).length), sR z]) (st' := [(.ref z)]) rfl rfl (pc' := 23) rfl ?_
    obtain ⟨v5, T5, L5, h5, vm5, W5, ⟨sx, rfl, F5, E5⟩, C5, st5⟩ := oCallV W4 (idx := 17) (pc := 23) (ls := #[sR x, sR y, sI (Int32.ofNat (ess cs).length), sR z]) (st := []) (argsL := []) Fe.exa (c_str K Fe (by omega)) (fun x hx => nomatch hx) (wK K 83 rfl) (wK K 84 rfl) (notFace_of_selects (args := #[]) (mvT W4.warm (wK K 86 rfl))) (wK K 86 rfl) (wK K 85 rfl) (wK K 7 rfl) (wK K 87 rfl) (by decide) (na := 0) rfl (by decide +kernel) rfl (stk := [(.ref z)]) rfl (by decide +kernel) (V := 0) (lb rfl) (lb rfl) (lb rfl) (lb rfl) (lb rfl)
    refine oLift st5 ?_
    show OG _ _ _ _ _ _ _ _ _ _ _ (mkF m 26 #[sR x, sR y, sI (Int32.ofNat (ess cs).length), sR z] [(.ref sx)])
    refine oGo W5 [.aload_n 1] (by decide +kernel) (ls' := #[sR x, sR y, sI (Int32.ofNat (ess cs).length), sR z]) (st' := [(.ref y), (.ref sx)]) rfl rfl (pc' := 27) rfl ?_
    obtain ⟨v6, T6, L6, h6, vm6, W6, ⟨r6, rfl, e6, Q6⟩, C6, st6⟩ := oCallV W5 (idx := 21) (pc := 27) (ls := #[sR x, sR y, sI (Int32.ofNat (ess cs).length), sR z]) (st := []) (argsL := [(.ref y)]) F5.exa (c_eqi K F5 ((G.ext E4).ext E5) (by omega) (by omega)) (fun x hx => nomatch hx) (wK K 113 rfl) (wK K 114 rfl) (notFace_of_selects (args := #[]) (mvT W5.warm (wK K 116 rfl))) (wK K 116 rfl) (wK K 115 rfl) (wK K 7 rfl) (wK K 117 rfl) (by decide) (na := 1) rfl (by decide +kernel) rfl (stk := [(.ref y), (.ref sx)]) rfl (by decide +kernel) (V := 0) (lb rfl) (lb rfl) (lb rfl) (lb rfl) (lb rfl)
    refine oLift st6 ?_
    rw [e6] at W6 C6
    show OG _ _ _ _ _ _ _ _ _ _ _ (mkF m 30 #[sR x, sR y, sI (Int32.ofNat (ess cs).length), sR z] [(.int r6)])
    rcases Q6 with ⟨rfl, hq6⟩ | ⟨rfl, hq6⟩
    · exact oRetN (by simp) W6 rfl (by decide +kernel) (lb rfl) (lb rfl) (fun vm' hv => ⟨_, rfl, (exT E4 E5), Or.inl ⟨rfl, hq6⟩⟩)
    · exact oRetN (by simp) W6 rfl (by decide +kernel) (lb rfl) (lb rfl) (fun vm' hv => ⟨_, rfl, (exT E4 E5), Or.inr ⟨rfl, hq6⟩⟩)
abbrev rm_c_mk : Room := { frames := 4, cells := 6, slots := 12, locals := 66 }
set_option maxRecDepth 65536 in
set_option maxHeartbeats 40000000 in
theorem c_mk {l : Launch} {Z : State} {a0 : Array Value} (K : Ctx Z a0) {a : Addr} {ka : ClassId} {e0 e1 e2 e3 : Int32} {V : Nat} {h0 : Heap} (hV : V ≤ 4) (A : OA Z h0 a ka .char [.int e0, .int e1, .int e2, .int e3]) (p0 : ¬ e0 < 0 ∧ ¬ (255 : Int32) < e0) (p1 : ¬ e1 < 0 ∧ ¬ (255 : Int32) < e1) (p2 : ¬ e2 < 0 ∧ ¬ (255 : Int32) < e2) (p3 : ¬ e3 < 0 ∧ ¬ (255 : Int32) < e3) :
    OC l Z EL false [] (⟨"com/example/gentle_hub/gentlehub/server/MediaTypesNamesPinLaw", "str", "([CI)Ljava/lang/String;"⟩ : MethodName) method_3_code 2 (some (.object "java/lang/String")) rm_c_mk #[(.ref a), (.int (Int32.ofNat V))] h0 [] (fun v _ h => ∃ x, v = some (.ref x) ∧ Str Z h x (([e0, e1, e2, e3] : List Int32).take V) ∧ Ext h0 h) := by
  have hw := K.1
  have hS : ∀ a ∈ Bundle.stringAtoms, a.before a0 Z = true := K.2.2.1
  have hv : V = 0 ∨ V = 1 ∨ V = 2 ∨ V = 3 ∨ V = 4 := by omega
  refine oEnter (by decide +kernel) K.2.1.2.1 ?_
  intro _p _e _s m _below _meth _c T0 W0 S0
  refine oEq (g' := mkF m 0 #[.val (.ref a), .val (.int (Int32.ofNat V))] []) (by first | (simp [entryFrame, mkF, argsToLocals, Value.category]; done) | rfl) ?_
  rcases hv with rfl | rfl | rfl | rfl | rfl
  · show OG _ _ _ _ _ _ _ _ _ _ _ (mkF m 0 #[sR a, sI 0] [])
    refine oGo W0 [.iload_n 1] (by decide +kernel) (ls' := #[sR a, sI 0]) (st' := [(.int 0)]) rfl rfl (pc' := 1) rfl ?_
    refine oIfF W0 (cd := .ne) (o := 14) (by decide +kernel) (XT.i0_ne_f (by decide)) (pc' := 4) rfl ?_
    obtain ⟨T1, h1, a1, W1, g1, E1, A1, D1, S1, C1, st1⟩ := oNew W0 (pc := 4) (ls := #[sR a, sI 0]) (st := []) (wK K 5 rfl) (wK K 6 rfl) (wK K 7 rfl) (by decide +kernel) (lb rfl) (lb rfl)
    refine oLift st1 ?_
    refine oGo W1 [.dup, .iconst 0] (by decide +kernel) (ls' := #[sR a, sI 0]) (st' := [(.int 0), (.ref a1), (.ref a1)]) rfl rfl (pc' := 9) rfl ?_
    obtain ⟨T2, h2, a2, k2, W2, g2, E2, A2, S2, C2, st2⟩ := oNewA W1 (aty := .char) (pc := 9) (ls := #[sR a, sI 0]) (st := [(.ref a1), (.ref a1)]) (wK K 0 rfl) (by decide +kernel) (n := (0 : Int32)) (by decide) (cap := 0) (lb rfl) (lb rfl) (lb rfl) (lb rfl)
    refine oLift st2 ?_
    have A2 : OA Z h2 a2 k2 .char [] := A2
    obtain ⟨v3, T3, L3, h3, vm3, W3, ⟨rfl, K3, F3⟩, C3, st3⟩ := oCallN W2 (idx := 25) (pc := 11) (ls := #[sR a, sI 0]) (st := [(.ref a1)]) (a := a1) (argsL := [(.ref a2)]) (k_I1e K.2.1 hS (wK K 34 rfl) (by decide) A2 (Nat.le_trans W0.ext.1 g1) (A1.ext E2) ((D1 (Or.inr (wK K 31 rfl)) (ty := .byte) (by decide)).ext E2) ((D1 (Or.inr (wK K 33 rfl)) (ty := (.array .byte)) (by decide)).ext E2)) (fun y hy => by cases List.mem_singleton.mp hy; exact ⟨(A1.ext E2).lt, (C2.safe A1.lt S1)⟩) rfl (wK K 8 rfl) (wK K 9 rfl) (wK K 7 rfl) (wK K 10 rfl) (by decide) (na := 1) rfl (by decide +kernel) rfl (stk := [(.ref a2), (.ref a1), (.ref a1)]) rfl (by decide +kernel) (V := 1) (lb rfl) (lb rfl) (lb rfl) (lb rfl) (lb rfl)
    refine oLift st3 ?_
    show OG _ _ _ _ _ _ _ _ _ _ _ (mkF m 14 #[sR a, sI 0] [(.ref a1)])
    exact oRetA rfl W3 rfl rfl (by decide +kernel) (lb rfl) (lb rfl) (fun vm' hv => ⟨_, rfl, F3, (exK (exT E1 E2) K3 (fun y hy => by cases List.mem_singleton.mp hy; exact g1))⟩)
  · show OG _ _ _ _ _ _ _ _ _ _ _ (mkF m 0 #[sR a, sI 1] [])
    refine oGo W0 [.iload_n 1] (by decide +kernel) (ls' := #[sR a, sI 1]) (st' := [(.int 1)]) rfl rfl (pc' := 1) rfl ?_
    refine oIfT W0 (cd := .ne) (o := 14) (by decide +kernel) (XT.i0_ne_t (by decide)) (pc' := 15) (by decide) (by decide) ?_
    refine oGo W0 [.iload_n 1, .iconst 1] (by decide +kernel) (ls' := #[sR a, sI 1]) (st' := [(.int 1), (.int 1)]) rfl rfl (pc' := 17) rfl ?_
    refine oIcF W0 (cd := .ne) (o := 20) (by decide +kernel) (XT.ii_ne_f (by decide)) (pc' := 20) rfl ?_
    obtain ⟨T4, h4, a4, W4, g4, E4, A4, D4, S4, C4, st4⟩ := oNew W0 (pc := 20) (ls := #[sR a, sI 1]) (st := []) (wK K 5 rfl) (wK K 6 rfl) (wK K 7 rfl) (by decide +kernel) (lb rfl) (lb rfl)
    refine oLift st4 ?_
    refine oGo W4 [.dup, .iconst 1] (by decide +kernel) (ls' := #[sR a, sI 1]) (st' := [(.int 1), (.ref a4), (.ref a4)]) rfl rfl (pc' := 25) rfl ?_
    obtain ⟨T5, h5, a5, k5, W5, g5, E5, A5, S5, C5, st5⟩ := oNewA W4 (aty := .char) (pc := 25) (ls := #[sR a, sI 1]) (st := [(.ref a4), (.ref a4)]) (wK K 0 rfl) (by decide +kernel) (n := (1 : Int32)) (by decide) (cap := 1) (lb rfl) (lb rfl) (lb rfl) (lb rfl)
    refine oLift st5 ?_
    have A5 : OA Z h5 a5 k5 .char [.int 0] := A5
    refine oGo W5 [.dup, .iconst 0, .aload_n 0, .iconst 0] (by decide +kernel) (ls' := #[sR a, sI 1]) (st' := [(.int 0), (.ref a), (.int 0), (.ref a5), (.ref a5), (.ref a4), (.ref a4)]) rfl rfl (pc' := 31) rfl ?_
    refine oGet W5 ((A.ext E4).ext E5) (v := (.int e0)) (by decide) rfl (Or.inl ⟨rfl, rfl⟩) (by decide +kernel) ?_
    obtain ⟨T6, h6, W6, Wr6, A6, C6, st6⟩ := oPut W5 A5 (j := (0 : Int32)) (x := e0) (x' := e0) (pc := 32) (ls := #[sR a, sI 1]) (st := [(.ref a5), (.ref a4), (.ref a4)]) (by decide) (i := 0) (by decide) (by simp) (Nat.le_trans W4.ext.1 g5) (A5.safe W5.warm.alike (by decide)) (ins := .castore) (Or.inl ⟨rfl, rfl, (narC p0)⟩) (by decide +kernel)
    refine oLift st6 ?_
    have A6 : OA Z h6 a5 k5 .char [.int e0] := A6
    obtain ⟨v7, T7, L7, h7, vm7, W7, ⟨rfl, K7, F7⟩, C7, st7⟩ := oCallN W6 (idx := 25) (pc := 33) (ls := #[sR a, sI 1]) (st := [(.ref a4)]) (a := a4) (argsL := [(.ref a5)]) (k_I1 K.2.1 [e0] (lb rfl) (lb rfl) A6 (own_cons p0 own_nil) (Nat.le_trans W0.ext.1 g4) (A4.ext (exW E5 Wr6 g5)) ((D4 (Or.inr (wK K 31 rfl)) (ty := .byte) (by decide)).ext (exW E5 Wr6 g5)) ((D4 (Or.inr (wK K 33 rfl)) (ty := (.array .byte)) (by decide)).ext (exW E5 Wr6 g5))) (fun y hy => by cases List.mem_singleton.mp hy; exact ⟨(A4.ext (exW E5 Wr6 g5)).lt, (C6.safe (A4.ext E5).lt (C5.safe A4.lt S4))⟩) rfl (wK K 8 rfl) (wK K 9 rfl) (wK K 7 rfl) (wK K 10 rfl) (by decide) (na := 1) rfl (by decide +kernel) rfl (stk := [(.ref a5), (.ref a4), (.ref a4)]) rfl (by decide +kernel) (V := 1) (lb rfl) (lb rfl) (lb rfl) (lb rfl) (lb rfl)
    refine oLift st7 ?_
    show OG _ _ _ _ _ _ _ _ _ _ _ (mkF m 36 #[sR a, sI 1] [(.ref a4)])
    exact oRetA rfl W7 rfl rfl (by decide +kernel) (lb rfl) (lb rfl) (fun vm' hv => ⟨_, rfl, F7, (exK (exT E4 (exW E5 Wr6 g5)) K7 (fun y hy => by cases List.mem_singleton.mp hy; exact g4))⟩)
  · show OG _ _ _ _ _ _ _ _ _ _ _ (mkF m 0 #[sR a, sI 2] [])
    refine oGo W0 [.iload_n 1] (by decide +kernel) (ls' := #[sR a, sI 2]) (st' := [(.int 2)]) rfl rfl (pc' := 1) rfl ?_
    refine oIfT W0 (cd := .ne) (o := 14) (by decide +kernel) (XT.i0_ne_t (by decide)) (pc' := 15) (by decide) (by decide) ?_
    refine oGo W0 [.iload_n 1, .iconst 1] (by decide +kernel) (ls' := #[sR a, sI 2]) (st' := [(.int 1), (.int 2)]) rfl rfl (pc' := 17) rfl ?_
    refine oIcT W0 (cd := .ne) (o := 20) (by decide +kernel) (XT.ii_ne_t (by decide)) (pc' := 37) (by decide) (by decide) ?_
    refine oGo W0 [.iload_n 1, .iconst 2] (by decide +kernel) (ls' := #[sR a, sI 2]) (st' := [(.int 2), (.int 2)]) rfl rfl (pc' := 39) rfl ?_
    refine oIcF W0 (cd := .ne) (o := 26) (by decide +kernel) (XT.ii_ne_f (by decide)) (pc' := 42) rfl ?_
    obtain ⟨T8, h8, a8, W8, g8, E8, A8, D8, S8, C8, st8⟩ := oNew W0 (pc := 42) (ls := #[sR a, sI 2]) (st := []) (wK K 5 rfl) (wK K 6 rfl) (wK K 7 rfl) (by decide +kernel) (lb rfl) (lb rfl)
    refine oLift st8 ?_
    refine oGo W8 [.dup, .iconst 2] (by decide +kernel) (ls' := #[sR a, sI 2]) (st' := [(.int 2), (.ref a8), (.ref a8)]) rfl rfl (pc' := 47) rfl ?_
    obtain ⟨T9, h9, a9, k9, W9, g9, E9, A9, S9, C9, st9⟩ := oNewA W8 (aty := .char) (pc := 47) (ls := #[sR a, sI 2]) (st := [(.ref a8), (.ref a8)]) (wK K 0 rfl) (by decide +kernel) (n := (2 : Int32)) (by decide) (cap := 2) (lb rfl) (lb rfl) (lb rfl) (lb rfl)
    refine oLift st9 ?_
    have A9 : OA Z h9 a9 k9 .char [.int 0, .int 0] := A9
    refine oGo W9 [.dup, .iconst 0, .aload_n 0, .iconst 0] (by decide +kernel) (ls' := #[sR a, sI 2]) (st' := [(.int 0), (.ref a), (.int 0), (.ref a9), (.ref a9), (.ref a8), (.ref a8)]) rfl rfl (pc' := 53) rfl ?_
    refine oGet W9 ((A.ext E8).ext E9) (v := (.int e0)) (by decide) rfl (Or.inl ⟨rfl, rfl⟩) (by decide +kernel) ?_
    obtain ⟨T10, h10, W10, Wr10, A10, C10, st10⟩ := oPut W9 A9 (j := (0 : Int32)) (x := e0) (x' := e0) (pc := 54) (ls := #[sR a, sI 2]) (st := [(.ref a9), (.ref a8), (.ref a8)]) (by decide) (i := 0) (by decide) (by simp) (Nat.le_trans W8.ext.1 g9) (A9.safe W9.warm.alike (by decide)) (ins := .castore) (Or.inl ⟨rfl, rfl, (narC p0)⟩) (by decide +kernel)
    refine oLift st10 ?_
    have A10 : OA Z h10 a9 k9 .char [.int e0, .int 0] := A10
    refine oGo W10 [.dup, .iconst 1, .aload_n 0, .iconst 1] (by decide +kernel) (ls' := #[sR a, sI 2]) (st' := [(.int 1), (.ref a), (.int 1), (.ref a9), (.ref a9), (.ref a8), (.ref a8)]) rfl rfl (pc' := 59) rfl ?_
    refine oGet W10 ((A.ext E8).ext (exW E9 Wr10 g9)) (v := (.int e1)) (by decide) rfl (Or.inl ⟨rfl, rfl⟩) (by decide +kernel) ?_
    obtain ⟨T11, h11, W11, Wr11, A11, C11, st11⟩ := oPut W10 A10 (j := (1 : Int32)) (x := e1) (x' := e1) (pc := 60) (ls := #[sR a, sI 2]) (st := [(.ref a9), (.ref a8), (.ref a8)]) (by decide) (i := 1) (by decide) (by simp) (Nat.le_trans W8.ext.1 g9) (A10.safe W10.warm.alike (by decide)) (ins := .castore) (Or.inl ⟨rfl, rfl, (narC p1)⟩) (by decide +kernel)
    refine oLift st11 ?_
    have A11 : OA Z h11 a9 k9 .char [.int e0, .int e1] := A11
    obtain ⟨v12, T12, L12, h12, vm12, W12, ⟨rfl, K12, F12⟩, C12, st12⟩ := oCallN W11 (idx := 25) (pc := 61) (ls := #[sR a, sI 2]) (st := [(.ref a8)]) (a := a8) (argsL := [(.ref a9)]) (k_I1 K.2.1 [e0, e1] (lb rfl) (lb rfl) A11 (own_cons p0 (own_cons p1 own_nil)) (Nat.le_trans W0.ext.1 g8) (A8.ext (exW (exW E9 Wr10 g9) Wr11 g9)) ((D8 (Or.inr (wK K 31 rfl)) (ty := .byte) (by decide)).ext (exW (exW E9 Wr10 g9) Wr11 g9)) ((D8 (Or.inr (wK K 33 rfl)) (ty := (.array .byte)) (by decide)).ext (exW (exW E9 Wr10 g9) Wr11 g9))) (fun y hy => by cases List.mem_singleton.mp hy; exact ⟨(A8.ext (exW (exW E9 Wr10 g9) Wr11 g9)).lt, (C11.safe (A8.ext (exW E9 Wr10 g9)).lt (C10.safe (A8.ext E9).lt (C9.safe A8.lt S8)))⟩) rfl (wK K 8 rfl) (wK K 9 rfl) (wK K 7 rfl) (wK K 10 rfl) (by decide) (na := 1) rfl (by decide +kernel) rfl (stk := [(.ref a9), (.ref a8), (.ref a8)]) rfl (by decide +kernel) (V := 1) (lb rfl) (lb rfl) (lb rfl) (lb rfl) (lb rfl)
    refine oLift st12 ?_
    show OG _ _ _ _ _ _ _ _ _ _ _ (mkF m 64 #[sR a, sI 2] [(.ref a8)])
    exact oRetA rfl W12 rfl rfl (by decide +kernel) (lb rfl) (lb rfl) (fun vm' hv => ⟨_, rfl, F12, (exK (exT E8 (exW (exW E9 Wr10 g9) Wr11 g9)) K12 (fun y hy => by cases List.mem_singleton.mp hy; exact g8))⟩)
  · show OG _ _ _ _ _ _ _ _ _ _ _ (mkF m 0 #[sR a, sI 3] [])
    refine oGo W0 [.iload_n 1] (by decide +kernel) (ls' := #[sR a, sI 3]) (st' := [(.int 3)]) rfl rfl (pc' := 1) rfl ?_
    refine oIfT W0 (cd := .ne) (o := 14) (by decide +kernel) (XT.i0_ne_t (by decide)) (pc' := 15) (by decide) (by decide) ?_
    refine oGo W0 [.iload_n 1, .iconst 1] (by decide +kernel) (ls' := #[sR a, sI 3]) (st' := [(.int 1), (.int 3)]) rfl rfl (pc' := 17) rfl ?_
    refine oIcT W0 (cd := .ne) (o := 20) (by decide +kernel) (XT.ii_ne_t (by decide)) (pc' := 37) (by decide) (by decide) ?_
    refine oGo W0 [.iload_n 1, .iconst 2] (by decide +kernel) (ls' := #[sR a, sI 3]) (st' := [(.int 2), (.int 3)]) rfl rfl (pc' := 39) rfl ?_
    refine oIcT W0 (cd := .ne) (o := 26) (by decide +kernel) (XT.ii_ne_t (by decide)) (pc' := 65) (by decide) (by decide) ?_
    refine oGo W0 [.iload_n 1, .iconst 3] (by decide +kernel) (ls' := #[sR a, sI 3]) (st' := [(.int 3), (.int 3)]) rfl rfl (pc' := 67) rfl ?_
    refine oIcF W0 (cd := .ne) (o := 32) (by decide +kernel) (XT.ii_ne_f (by decide)) (pc' := 70) rfl ?_
    obtain ⟨T13, h13, a13, W13, g13, E13, A13, D13, S13, C13, st13⟩ := oNew W0 (pc := 70) (ls := #[sR a, sI 3]) (st := []) (wK K 5 rfl) (wK K 6 rfl) (wK K 7 rfl) (by decide +kernel) (lb rfl) (lb rfl)
    refine oLift st13 ?_
    refine oGo W13 [.dup, .iconst 3] (by decide +kernel) (ls' := #[sR a, sI 3]) (st' := [(.int 3), (.ref a13), (.ref a13)]) rfl rfl (pc' := 75) rfl ?_
    obtain ⟨T14, h14, a14, k14, W14, g14, E14, A14, S14, C14, st14⟩ := oNewA W13 (aty := .char) (pc := 75) (ls := #[sR a, sI 3]) (st := [(.ref a13), (.ref a13)]) (wK K 0 rfl) (by decide +kernel) (n := (3 : Int32)) (by decide) (cap := 3) (lb rfl) (lb rfl) (lb rfl) (lb rfl)
    refine oLift st14 ?_
    have A14 : OA Z h14 a14 k14 .char [.int 0, .int 0, .int 0] := A14
    refine oGo W14 [.dup, .iconst 0, .aload_n 0, .iconst 0] (by decide +kernel) (ls' := #[sR a, sI 3]) (st' := [(.int 0), (.ref a), (.int 0), (.ref a14), (.ref a14), (.ref a13), (.ref a13)]) rfl rfl (pc' := 81) rfl ?_
    refine oGet W14 ((A.ext E13).ext E14) (v := (.int e0)) (by decide) rfl (Or.inl ⟨rfl, rfl⟩) (by decide +kernel) ?_
    obtain ⟨T15, h15, W15, Wr15, A15, C15, st15⟩ := oPut W14 A14 (j := (0 : Int32)) (x := e0) (x' := e0) (pc := 82) (ls := #[sR a, sI 3]) (st := [(.ref a14), (.ref a13), (.ref a13)]) (by decide) (i := 0) (by decide) (by simp) (Nat.le_trans W13.ext.1 g14) (A14.safe W14.warm.alike (by decide)) (ins := .castore) (Or.inl ⟨rfl, rfl, (narC p0)⟩) (by decide +kernel)
    refine oLift st15 ?_
    have A15 : OA Z h15 a14 k14 .char [.int e0, .int 0, .int 0] := A15
    refine oGo W15 [.dup, .iconst 1, .aload_n 0, .iconst 1] (by decide +kernel) (ls' := #[sR a, sI 3]) (st' := [(.int 1), (.ref a), (.int 1), (.ref a14), (.ref a14), (.ref a13), (.ref a13)]) rfl rfl (pc' := 87) rfl ?_
    refine oGet W15 ((A.ext E13).ext (exW E14 Wr15 g14)) (v := (.int e1)) (by decide) rfl (Or.inl ⟨rfl, rfl⟩) (by decide +kernel) ?_
    obtain ⟨T16, h16, W16, Wr16, A16, C16, st16⟩ := oPut W15 A15 (j := (1 : Int32)) (x := e1) (x' := e1) (pc := 88) (ls := #[sR a, sI 3]) (st := [(.ref a14), (.ref a13), (.ref a13)]) (by decide) (i := 1) (by decide) (by simp) (Nat.le_trans W13.ext.1 g14) (A15.safe W15.warm.alike (by decide)) (ins := .castore) (Or.inl ⟨rfl, rfl, (narC p1)⟩) (by decide +kernel)
    refine oLift st16 ?_
    have A16 : OA Z h16 a14 k14 .char [.int e0, .int e1, .int 0] := A16
    refine oGo W16 [.dup, .iconst 2, .aload_n 0, .iconst 2] (by decide +kernel) (ls' := #[sR a, sI 3]) (st' := [(.int 2), (.ref a), (.int 2), (.ref a14), (.ref a14), (.ref a13), (.ref a13)]) rfl rfl (pc' := 93) rfl ?_
    refine oGet W16 ((A.ext E13).ext (exW (exW E14 Wr15 g14) Wr16 g14)) (v := (.int e2)) (by decide) rfl (Or.inl ⟨rfl, rfl⟩) (by decide +kernel) ?_
    obtain ⟨T17, h17, W17, Wr17, A17, C17, st17⟩ := oPut W16 A16 (j := (2 : Int32)) (x := e2) (x' := e2) (pc := 94) (ls := #[sR a, sI 3]) (st := [(.ref a14), (.ref a13), (.ref a13)]) (by decide) (i := 2) (by decide) (by simp) (Nat.le_trans W13.ext.1 g14) (A16.safe W16.warm.alike (by decide)) (ins := .castore) (Or.inl ⟨rfl, rfl, (narC p2)⟩) (by decide +kernel)
    refine oLift st17 ?_
    have A17 : OA Z h17 a14 k14 .char [.int e0, .int e1, .int e2] := A17
    obtain ⟨v18, T18, L18, h18, vm18, W18, ⟨rfl, K18, F18⟩, C18, st18⟩ := oCallN W17 (idx := 25) (pc := 95) (ls := #[sR a, sI 3]) (st := [(.ref a13)]) (a := a13) (argsL := [(.ref a14)]) (k_I1 K.2.1 [e0, e1, e2] (lb rfl) (lb rfl) A17 (own_cons p0 (own_cons p1 (own_cons p2 own_nil))) (Nat.le_trans W0.ext.1 g13) (A13.ext (exW (exW (exW E14 Wr15 g14) Wr16 g14) Wr17 g14)) ((D13 (Or.inr (wK K 31 rfl)) (ty := .byte) (by decide)).ext (exW (exW (exW E14 Wr15 g14) Wr16 g14) Wr17 g14)) ((D13 (Or.inr (wK K 33 rfl)) (ty := (.array .byte)) (by decide)).ext (exW (exW (exW E14 Wr15 g14) Wr16 g14) Wr17 g14))) (fun y hy => by cases List.mem_singleton.mp hy; exact ⟨(A13.ext (exW (exW (exW E14 Wr15 g14) Wr16 g14) Wr17 g14)).lt, (C17.safe (A13.ext (exW (exW E14 Wr15 g14) Wr16 g14)).lt (C16.safe (A13.ext (exW E14 Wr15 g14)).lt (C15.safe (A13.ext E14).lt (C14.safe A13.lt S13))))⟩) rfl (wK K 8 rfl) (wK K 9 rfl) (wK K 7 rfl) (wK K 10 rfl) (by decide) (na := 1) rfl (by decide +kernel) rfl (stk := [(.ref a14), (.ref a13), (.ref a13)]) rfl (by decide +kernel) (V := 1) (lb rfl) (lb rfl) (lb rfl) (lb rfl) (lb rfl)
    refine oLift st18 ?_
    show OG _ _ _ _ _ _ _ _ _ _ _ (mkF m 98 #[sR a, sI 3] [(.ref a13)])
    exact oRetA rfl W18 rfl rfl (by decide +kernel) (lb rfl) (lb rfl) (fun vm' hv => ⟨_, rfl, F18, (exK (exT E13 (exW (exW (exW E14 Wr15 g14) Wr16 g14) Wr17 g14)) K18 (fun y hy => by cases List.mem_singleton.mp hy; exact g13))⟩)
  · show OG _ _ _ _ _ _ _ _ _ _ _ (mkF m 0 #[sR a, sI 4] [])
    refine oGo W0 [.iload_n 1] (by decide +kernel) (ls' := #[sR a, sI 4]) (st' := [(.int 4)]) rfl rfl (pc' := 1) rfl ?_
    refine oIfT W0 (cd := .ne) (o := 14) (by decide +kernel) (XT.i0_ne_t (by decide)) (pc' := 15) (by decide) (by decide) ?_
    refine oGo W0 [.iload_n 1, .iconst 1] (by decide +kernel) (ls' := #[sR a, sI 4]) (st' := [(.int 1), (.int 4)]) rfl rfl (pc' := 17) rfl ?_
    refine oIcT W0 (cd := .ne) (o := 20) (by decide +kernel) (XT.ii_ne_t (by decide)) (pc' := 37) (by decide) (by decide) ?_
    refine oGo W0 [.iload_n 1, .iconst 2] (by decide +kernel) (ls' := #[sR a, sI 4]) (st' := [(.int 2), (.int 4)]) rfl rfl (pc' := 39) rfl ?_
    refine oIcT W0 (cd := .ne) (o := 26) (by decide +kernel) (XT.ii_ne_t (by decide)) (pc' := 65) (by decide) (by decide) ?_
    refine oGo W0 [.iload_n 1, .iconst 3] (by decide +kernel) (ls' := #[sR a, sI 4]) (st' := [(.int 3), (.int 4)]) rfl rfl (pc' := 67) rfl ?_
    refine oIcT W0 (cd := .ne) (o := 32) (by decide +kernel) (XT.ii_ne_t (by decide)) (pc' := 99) (by decide) (by decide) ?_
    obtain ⟨T19, h19, a19, W19, g19, E19, A19, D19, S19, C19, st19⟩ := oNew W0 (pc := 99) (ls := #[sR a, sI 4]) (st := []) (wK K 5 rfl) (wK K 6 rfl) (wK K 7 rfl) (by decide +kernel) (lb rfl) (lb rfl)
    refine oLift st19 ?_
    refine oGo W19 [.dup, .iconst 4] (by decide +kernel) (ls' := #[sR a, sI 4]) (st' := [(.int 4), (.ref a19), (.ref a19)]) rfl rfl (pc' := 104) rfl ?_
    obtain ⟨T20, h20, a20, k20, W20, g20, E20, A20, S20, C20, st20⟩ := oNewA W19 (aty := .char) (pc := 104) (ls := #[sR a, sI 4]) (st := [(.ref a19), (.ref a19)]) (wK K 0 rfl) (by decide +kernel) (n := (4 : Int32)) (by decide) (cap := 4) (lb rfl) (lb rfl) (lb rfl) (lb rfl)
    refine oLift st20 ?_
    have A20 : OA Z h20 a20 k20 .char [.int 0, .int 0, .int 0, .int 0] := A20
    refine oGo W20 [.dup, .iconst 0, .aload_n 0, .iconst 0] (by decide +kernel) (ls' := #[sR a, sI 4]) (st' := [(.int 0), (.ref a), (.int 0), (.ref a20), (.ref a20), (.ref a19), (.ref a19)]) rfl rfl (pc' := 110) rfl ?_
    refine oGet W20 ((A.ext E19).ext E20) (v := (.int e0)) (by decide) rfl (Or.inl ⟨rfl, rfl⟩) (by decide +kernel) ?_
    obtain ⟨T21, h21, W21, Wr21, A21, C21, st21⟩ := oPut W20 A20 (j := (0 : Int32)) (x := e0) (x' := e0) (pc := 111) (ls := #[sR a, sI 4]) (st := [(.ref a20), (.ref a19), (.ref a19)]) (by decide) (i := 0) (by decide) (by simp) (Nat.le_trans W19.ext.1 g20) (A20.safe W20.warm.alike (by decide)) (ins := .castore) (Or.inl ⟨rfl, rfl, (narC p0)⟩) (by decide +kernel)
    refine oLift st21 ?_
    have A21 : OA Z h21 a20 k20 .char [.int e0, .int 0, .int 0, .int 0] := A21
    refine oGo W21 [.dup, .iconst 1, .aload_n 0, .iconst 1] (by decide +kernel) (ls' := #[sR a, sI 4]) (st' := [(.int 1), (.ref a), (.int 1), (.ref a20), (.ref a20), (.ref a19), (.ref a19)]) rfl rfl (pc' := 116) rfl ?_
    refine oGet W21 ((A.ext E19).ext (exW E20 Wr21 g20)) (v := (.int e1)) (by decide) rfl (Or.inl ⟨rfl, rfl⟩) (by decide +kernel) ?_
    obtain ⟨T22, h22, W22, Wr22, A22, C22, st22⟩ := oPut W21 A21 (j := (1 : Int32)) (x := e1) (x' := e1) (pc := 117) (ls := #[sR a, sI 4]) (st := [(.ref a20), (.ref a19), (.ref a19)]) (by decide) (i := 1) (by decide) (by simp) (Nat.le_trans W19.ext.1 g20) (A21.safe W21.warm.alike (by decide)) (ins := .castore) (Or.inl ⟨rfl, rfl, (narC p1)⟩) (by decide +kernel)
    refine oLift st22 ?_
    have A22 : OA Z h22 a20 k20 .char [.int e0, .int e1, .int 0, .int 0] := A22
    refine oGo W22 [.dup, .iconst 2, .aload_n 0, .iconst 2] (by decide +kernel) (ls' := #[sR a, sI 4]) (st' := [(.int 2), (.ref a), (.int 2), (.ref a20), (.ref a20), (.ref a19), (.ref a19)]) rfl rfl (pc' := 122) rfl ?_
    refine oGet W22 ((A.ext E19).ext (exW (exW E20 Wr21 g20) Wr22 g20)) (v := (.int e2)) (by decide) rfl (Or.inl ⟨rfl, rfl⟩) (by decide +kernel) ?_
    obtain ⟨T23, h23, W23, Wr23, A23, C23, st23⟩ := oPut W22 A22 (j := (2 : Int32)) (x := e2) (x' := e2) (pc := 123) (ls := #[sR a, sI 4]) (st := [(.ref a20), (.ref a19), (.ref a19)]) (by decide) (i := 2) (by decide) (by simp) (Nat.le_trans W19.ext.1 g20) (A22.safe W22.warm.alike (by decide)) (ins := .castore) (Or.inl ⟨rfl, rfl, (narC p2)⟩) (by decide +kernel)
    refine oLift st23 ?_
    have A23 : OA Z h23 a20 k20 .char [.int e0, .int e1, .int e2, .int 0] := A23
    refine oGo W23 [.dup, .iconst 3, .aload_n 0, .iconst 3] (by decide +kernel) (ls' := #[sR a, sI 4]) (st' := [(.int 3), (.ref a), (.int 3), (.ref a20), (.ref a20), (.ref a19), (.ref a19)]) rfl rfl (pc' := 128) rfl ?_
    refine oGet W23 ((A.ext E19).ext (exW (exW (exW E20 Wr21 g20) Wr22 g20) Wr23 g20)) (v := (.int e3)) (by decide) rfl (Or.inl ⟨rfl, rfl⟩) (by decide +kernel) ?_
    obtain ⟨T24, h24, W24, Wr24, A24, C24, st24⟩ := oPut W23 A23 (j := (3 : Int32)) (x := e3) (x' := e3) (pc := 129) (ls := #[sR a, sI 4]) (st := [(.ref a20), (.ref a19), (.ref a19)]) (by decide) (i := 3) (by decide) (by simp) (Nat.le_trans W19.ext.1 g20) (A23.safe W23.warm.alike (by decide)) (ins := .castore) (Or.inl ⟨rfl, rfl, (narC p3)⟩) (by decide +kernel)
    refine oLift st24 ?_
    have A24 : OA Z h24 a20 k20 .char [.int e0, .int e1, .int e2, .int e3] := A24
    obtain ⟨v25, T25, L25, h25, vm25, W25, ⟨rfl, K25, F25⟩, C25, st25⟩ := oCallN W24 (idx := 25) (pc := 130) (ls := #[sR a, sI 4]) (st := [(.ref a19)]) (a := a19) (argsL := [(.ref a20)]) (k_I1 K.2.1 [e0, e1, e2, e3] (lb rfl) (lb rfl) A24 (own_cons p0 (own_cons p1 (own_cons p2 (own_cons p3 own_nil)))) (Nat.le_trans W0.ext.1 g19) (A19.ext (exW (exW (exW (exW E20 Wr21 g20) Wr22 g20) Wr23 g20) Wr24 g20)) ((D19 (Or.inr (wK K 31 rfl)) (ty := .byte) (by decide)).ext (exW (exW (exW (exW E20 Wr21 g20) Wr22 g20) Wr23 g20) Wr24 g20)) ((D19 (Or.inr (wK K 33 rfl)) (ty := (.array .byte)) (by decide)).ext (exW (exW (exW (exW E20 Wr21 g20) Wr22 g20) Wr23 g20) Wr24 g20))) (fun y hy => by cases List.mem_singleton.mp hy; exact ⟨(A19.ext (exW (exW (exW (exW E20 Wr21 g20) Wr22 g20) Wr23 g20) Wr24 g20)).lt, (C24.safe (A19.ext (exW (exW (exW E20 Wr21 g20) Wr22 g20) Wr23 g20)).lt (C23.safe (A19.ext (exW (exW E20 Wr21 g20) Wr22 g20)).lt (C22.safe (A19.ext (exW E20 Wr21 g20)).lt (C21.safe (A19.ext E20).lt (C20.safe A19.lt S19)))))⟩) rfl (wK K 8 rfl) (wK K 9 rfl) (wK K 7 rfl) (wK K 10 rfl) (by decide) (na := 1) rfl (by decide +kernel) rfl (stk := [(.ref a20), (.ref a19), (.ref a19)]) rfl (by decide +kernel) (V := 1) (lb rfl) (lb rfl) (lb rfl) (lb rfl) (lb rfl)
    refine oLift st25 ?_
    show OG _ _ _ _ _ _ _ _ _ _ _ (mkF m 133 #[sR a, sI 4] [(.ref a19)])
    exact oRetA rfl W25 rfl rfl (by decide +kernel) (lb rfl) (lb rfl) (fun vm' hv => ⟨_, rfl, F25, (exK (exT E19 (exW (exW (exW (exW E20 Wr21 g20) Wr22 g20) Wr23 g20) Wr24 g20)) K25 (fun y hy => by cases List.mem_singleton.mp hy; exact g19))⟩)
abbrev rm_c_ws : Room := { frames := 0, cells := 0, slots := 0, locals := 0 }
set_option maxRecDepth 65536 in
set_option maxHeartbeats 40000000 in
theorem c_ws {l : Launch} {Z : State} {a0 : Array Value} {nb : Bool} (K : Ctx Z a0) {c : Int32} {h0 : Heap} :
    OC l Z EL nb [] (⟨"com/example/gentle_hub/gentlehub/server/MediaTypesNamesPinLaw", "ws", "(C)Z"⟩ : MethodName) method_4_code 1 (some .boolean) rm_c_ws #[(.int c)] h0 [] (fun v _ h => ∃ r, v = some (.int r) ∧ h = h0 ∧ ((r = 1 ∧ Ws c) ∨ (r = 0 ∧ ¬ (Ws c)))) := by
  have hw := K.1
  have hS : ∀ a ∈ Bundle.stringAtoms, a.before a0 Z = true := K.2.2.1
  refine oEnter (by decide +kernel) K.2.1.2.1 ?_
  intro _p _e _s m _below _meth _c T0 W0 S0
  refine oEq (g' := mkF m 0 #[.val (.int c)] []) (by first | (simp [entryFrame, mkF, argsToLocals, Value.category]; done) | rfl) ?_
  refine oGo W0 [.iload_n 0, .bipush 32] (by decide +kernel) (ls' := #[sI c]) (st' := [(.int 32), (.int c)]) rfl rfl (pc' := 3) rfl ?_
  by_cases hc1 : c = (32 : Int32)
  · refine oIcT W0 (cd := .eq) (o := 27) (by decide +kernel) (XT.ii_eq_t hc1) (pc' := 30) (by decide) (by decide) ?_
    refine oGo W0 [.iconst 1, .goto 4] (by decide +kernel) (ls' := #[sI c]) (st' := [(.int 1)]) rfl rfl (pc' := 35) rfl ?_
    exact oRetN (by simp) W0 rfl (by decide +kernel) (lb rfl) (lb rfl) (fun vm' hv => ⟨_, rfl, rfl, Or.inl ⟨rfl, Or.inl hc1⟩⟩)
  refine oIcF W0 (cd := .eq) (o := 27) (by decide +kernel) (XT.ii_eq_f hc1) (pc' := 6) rfl ?_
  refine oGo W0 [.iload_n 0, .bipush 9] (by decide +kernel) (ls' := #[sI c]) (st' := [(.int 9), (.int c)]) rfl rfl (pc' := 9) rfl ?_
  by_cases hc2 : c < (9 : Int32)
  · refine oIcT W0 (cd := .lt) (o := 9) (by decide +kernel) (XT.ii_lt_t hc2) (pc' := 18) (by decide) (by decide) ?_
    refine oGo W0 [.iload_n 0, .bipush 28] (by decide +kernel) (ls' := #[sI c]) (st' := [(.int 28), (.int c)]) rfl rfl (pc' := 21) rfl ?_
    by_cases hc3 : c < (28 : Int32)
    · refine oIcT W0 (cd := .lt) (o := 13) (by decide +kernel) (XT.ii_lt_t hc3) (pc' := 34) (by decide) (by decide) ?_
      refine oGo W0 [.iconst 0] (by decide +kernel) (ls' := #[sI c]) (st' := [(.int 0)]) rfl rfl (pc' := 35) rfl ?_
      exact oRetN (by simp) W0 rfl (by decide +kernel) (lb rfl) (lb rfl) (fun vm' hv => ⟨_, rfl, rfl, Or.inr ⟨rfl, fun z => z.elim hc1 (fun z => z.elim (fun z => z.1 hc2) (fun z => z.1 hc3))⟩⟩)
    refine oIcF W0 (cd := .lt) (o := 13) (by decide +kernel) (XT.ii_lt_f hc3) (pc' := 24) rfl ?_
    refine oGo W0 [.iload_n 0, .bipush 31] (by decide +kernel) (ls' := #[sI c]) (st' := [(.int 31), (.int c)]) rfl rfl (pc' := 27) rfl ?_
    by_cases hc4 : (31 : Int32) < c
    · refine oIcT W0 (cd := .gt) (o := 7) (by decide +kernel) (XT.ii_gt_t hc4) (pc' := 34) (by decide) (by decide) ?_
      refine oGo W0 [.iconst 0] (by decide +kernel) (ls' := #[sI c]) (st' := [(.int 0)]) rfl rfl (pc' := 35) rfl ?_
      exact oRetN (by simp) W0 rfl (by decide +kernel) (lb rfl) (lb rfl) (fun vm' hv => ⟨_, rfl, rfl, Or.inr ⟨rfl, fun z => z.elim hc1 (fun z => z.elim (fun z => z.1 hc2) (fun z => z.2 hc4))⟩⟩)
    refine oIcF W0 (cd := .gt) (o := 7) (by decide +kernel) (XT.ii_gt_f hc4) (pc' := 30) rfl ?_
    refine oGo W0 [.iconst 1, .goto 4] (by decide +kernel) (ls' := #[sI c]) (st' := [(.int 1)]) rfl rfl (pc' := 35) rfl ?_
    exact oRetN (by simp) W0 rfl (by decide +kernel) (lb rfl) (lb rfl) (fun vm' hv => ⟨_, rfl, rfl, Or.inl ⟨rfl, Or.inr (Or.inr ⟨hc3, hc4⟩)⟩⟩)
  refine oIcF W0 (cd := .lt) (o := 9) (by decide +kernel) (XT.ii_lt_f hc2) (pc' := 12) rfl ?_
  refine oGo W0 [.iload_n 0, .bipush 13] (by decide +kernel) (ls' := #[sI c]) (st' := [(.int 13), (.int c)]) rfl rfl (pc' := 15) rfl ?_
  by_cases hc5 : (13 : Int32) < c
  rotate_left
  · refine oIcT W0 (cd := .le) (o := 15) (by decide +kernel) (XT.ii_le_t hc5) (pc' := 30) (by decide) (by decide) ?_
    refine oGo W0 [.iconst 1, .goto 4] (by decide +kernel) (ls' := #[sI c]) (st' := [(.int 1)]) rfl rfl (pc' := 35) rfl ?_
    exact oRetN (by simp) W0 rfl (by decide +kernel) (lb rfl) (lb rfl) (fun vm' hv => ⟨_, rfl, rfl, Or.inl ⟨rfl, Or.inr (Or.inl ⟨hc2, hc5⟩)⟩⟩)
  refine oIcF W0 (cd := .le) (o := 15) (by decide +kernel) (XT.ii_le_f hc5) (pc' := 18) rfl ?_
  refine oGo W0 [.iload_n 0, .bipush 28] (by decide +kernel) (ls' := #[sI c]) (st' := [(.int 28), (.int c)]) rfl rfl (pc' := 21) rfl ?_
  by_cases hc6 : c < (28 : Int32)
  · refine oIcT W0 (cd := .lt) (o := 13) (by decide +kernel) (XT.ii_lt_t hc6) (pc' := 34) (by decide) (by decide) ?_
    refine oGo W0 [.iconst 0] (by decide +kernel) (ls' := #[sI c]) (st' := [(.int 0)]) rfl rfl (pc' := 35) rfl ?_
    exact oRetN (by simp) W0 rfl (by decide +kernel) (lb rfl) (lb rfl) (fun vm' hv => ⟨_, rfl, rfl, Or.inr ⟨rfl, fun z => z.elim hc1 (fun z => z.elim (fun z => z.2 hc5) (fun z => z.1 hc6))⟩⟩)
  refine oIcF W0 (cd := .lt) (o := 13) (by decide +kernel) (XT.ii_lt_f hc6) (pc' := 24) rfl ?_
  refine oGo W0 [.iload_n 0, .bipush 31] (by decide +kernel) (ls' := #[sI c]) (st' := [(.int 31), (.int c)]) rfl rfl (pc' := 27) rfl ?_
  by_cases hc7 : (31 : Int32) < c
  · refine oIcT W0 (cd := .gt) (o := 7) (by decide +kernel) (XT.ii_gt_t hc7) (pc' := 34) (by decide) (by decide) ?_
    refine oGo W0 [.iconst 0] (by decide +kernel) (ls' := #[sI c]) (st' := [(.int 0)]) rfl rfl (pc' := 35) rfl ?_
    exact oRetN (by simp) W0 rfl (by decide +kernel) (lb rfl) (lb rfl) (fun vm' hv => ⟨_, rfl, rfl, Or.inr ⟨rfl, fun z => z.elim hc1 (fun z => z.elim (fun z => z.2 hc5) (fun z => z.2 hc7))⟩⟩)
  refine oIcF W0 (cd := .gt) (o := 7) (by decide +kernel) (XT.ii_gt_f hc7) (pc' := 30) rfl ?_
  refine oGo W0 [.iconst 1, .goto 4] (by decide +kernel) (ls' := #[sI c]) (st' := [(.int 1)]) rfl rfl (pc' := 35) rfl ?_
  exact oRetN (by simp) W0 rfl (by decide +kernel) (lb rfl) (lb rfl) (fun vm' hv => ⟨_, rfl, rfl, Or.inl ⟨rfl, Or.inr (Or.inr ⟨hc6, hc7⟩)⟩⟩)
abbrev rm_c_fo : Room := { frames := 0, cells := 0, slots := 0, locals := 0 }
set_option maxRecDepth 65536 in
set_option maxHeartbeats 40000000 in
theorem c_fo {l : Launch} {Z : State} {a0 : Array Value} {nb : Bool} (K : Ctx Z a0) {c : Int32} {h0 : Heap} :
    OC l Z EL nb [] (⟨"com/example/gentle_hub/gentlehub/server/MediaTypesNamesPinLaw", "fold", "(C)I"⟩ : MethodName) method_5_code 1 (some .int) rm_c_fo #[(.int c)] h0 [] (fun v _ h => v = some (.int (fld c)) ∧ h = h0) := by
  have hw := K.1
  have hS : ∀ a ∈ Bundle.stringAtoms, a.before a0 Z = true := K.2.2.1
  refine oEnter (by decide +kernel) K.2.1.2.1 ?_
  intro _p _e _s m _below _meth _c T0 W0 S0
  refine oEq (g' := mkF m 0 #[.val (.int c)] []) (by first | (simp [entryFrame, mkF, argsToLocals, Value.category]; done) | rfl) ?_
  refine oGo W0 [.iload_n 0, .bipush 65] (by decide +kernel) (ls' := #[sI c]) (st' := [(.int 65), (.int c)]) rfl rfl (pc' := 3) rfl ?_
  by_cases hc1 : c < (65 : Int32)
  · refine oIcT W0 (cd := .lt) (o := 14) (by decide +kernel) (XT.ii_lt_t hc1) (pc' := 17) (by decide) (by decide) ?_
    refine oGo W0 [.iload_n 0, .sipush 192] (by decide +kernel) (ls' := #[sI c]) (st' := [(.int 192), (.int c)]) rfl rfl (pc' := 21) rfl ?_
    by_cases hc2 : c < (192 : Int32)
    · refine oIcT W0 (cd := .lt) (o := 22) (by decide +kernel) (XT.ii_lt_t hc2) (pc' := 43) (by decide) (by decide) ?_
      refine oGo W0 [.iload_n 0] (by decide +kernel) (ls' := #[sI c]) (st' := [(.int c)]) rfl rfl (pc' := 44) rfl ?_
      exact oRetI W0 (by decide +kernel) (lb rfl) (lb rfl) (fun vm' hv => ⟨by rw [fld, if_neg (fun z => z.1 hc1), if_neg (fun z => z.1 hc2)], rfl⟩)
    refine oIcF W0 (cd := .lt) (o := 22) (by decide +kernel) (XT.ii_lt_f hc2) (pc' := 24) rfl ?_
    refine oGo W0 [.iload_n 0, .sipush 222] (by decide +kernel) (ls' := #[sI c]) (st' := [(.int 222), (.int c)]) rfl rfl (pc' := 28) rfl ?_
    by_cases hc3 : (222 : Int32) < c
    · refine oIcT W0 (cd := .gt) (o := 15) (by decide +kernel) (XT.ii_gt_t hc3) (pc' := 43) (by decide) (by decide) ?_
      refine oGo W0 [.iload_n 0] (by decide +kernel) (ls' := #[sI c]) (st' := [(.int c)]) rfl rfl (pc' := 44) rfl ?_
      exact oRetI W0 (by decide +kernel) (lb rfl) (lb rfl) (fun vm' hv => ⟨by rw [fld, if_neg (fun z => z.1 hc1), if_neg (fun z => z.2.1 hc3)], rfl⟩)
    refine oIcF W0 (cd := .gt) (o := 15) (by decide +kernel) (XT.ii_gt_f hc3) (pc' := 31) rfl ?_
    refine oGo W0 [.iload_n 0, .sipush 215] (by decide +kernel) (ls' := #[sI c]) (st' := [(.int 215), (.int c)]) rfl rfl (pc' := 35) rfl ?_
    by_cases hc4 : c = (215 : Int32)
    · refine oIcT W0 (cd := .eq) (o := 8) (by decide +kernel) (XT.ii_eq_t hc4) (pc' := 43) (by decide) (by decide) ?_
      refine oGo W0 [.iload_n 0] (by decide +kernel) (ls' := #[sI c]) (st' := [(.int c)]) rfl rfl (pc' := 44) rfl ?_
      exact oRetI W0 (by decide +kernel) (lb rfl) (lb rfl) (fun vm' hv => ⟨by rw [fld, if_neg (fun z => z.1 hc1), if_neg (fun z => z.2.2 hc4)], rfl⟩)
    refine oIcF W0 (cd := .eq) (o := 8) (by decide +kernel) (XT.ii_eq_f hc4) (pc' := 38) rfl ?_
    refine oGo W0 [.iload_n 0, .bipush 32, .iadd] (by decide +kernel) (ls' := #[sI c]) (st' := [(.int (c + (32 : Int32)))]) rfl rfl (pc' := 42) rfl ?_
    exact oRetI W0 (by decide +kernel) (lb rfl) (lb rfl) (fun vm' hv => ⟨by rw [fld, if_neg (fun z => z.1 hc1), if_pos ⟨hc2, hc3, hc4⟩], rfl⟩)
  refine oIcF W0 (cd := .lt) (o := 14) (by decide +kernel) (XT.ii_lt_f hc1) (pc' := 6) rfl ?_
  refine oGo W0 [.iload_n 0, .bipush 90] (by decide +kernel) (ls' := #[sI c]) (st' := [(.int 90), (.int c)]) rfl rfl (pc' := 9) rfl ?_
  by_cases hc5 : (90 : Int32) < c
  · refine oIcT W0 (cd := .gt) (o := 8) (by decide +kernel) (XT.ii_gt_t hc5) (pc' := 17) (by decide) (by decide) ?_
    refine oGo W0 [.iload_n 0, .sipush 192] (by decide +kernel) (ls' := #[sI c]) (st' := [(.int 192), (.int c)]) rfl rfl (pc' := 21) rfl ?_
    by_cases hc6 : c < (192 : Int32)
    · refine oIcT W0 (cd := .lt) (o := 22) (by decide +kernel) (XT.ii_lt_t hc6) (pc' := 43) (by decide) (by decide) ?_
      refine oGo W0 [.iload_n 0] (by decide +kernel) (ls' := #[sI c]) (st' := [(.int c)]) rfl rfl (pc' := 44) rfl ?_
      exact oRetI W0 (by decide +kernel) (lb rfl) (lb rfl) (fun vm' hv => ⟨by rw [fld, if_neg (fun z => z.2 hc5), if_neg (fun z => z.1 hc6)], rfl⟩)
    refine oIcF W0 (cd := .lt) (o := 22) (by decide +kernel) (XT.ii_lt_f hc6) (pc' := 24) rfl ?_
    refine oGo W0 [.iload_n 0, .sipush 222] (by decide +kernel) (ls' := #[sI c]) (st' := [(.int 222), (.int c)]) rfl rfl (pc' := 28) rfl ?_
    by_cases hc7 : (222 : Int32) < c
    · refine oIcT W0 (cd := .gt) (o := 15) (by decide +kernel) (XT.ii_gt_t hc7) (pc' := 43) (by decide) (by decide) ?_
      refine oGo W0 [.iload_n 0] (by decide +kernel) (ls' := #[sI c]) (st' := [(.int c)]) rfl rfl (pc' := 44) rfl ?_
      exact oRetI W0 (by decide +kernel) (lb rfl) (lb rfl) (fun vm' hv => ⟨by rw [fld, if_neg (fun z => z.2 hc5), if_neg (fun z => z.2.1 hc7)], rfl⟩)
    refine oIcF W0 (cd := .gt) (o := 15) (by decide +kernel) (XT.ii_gt_f hc7) (pc' := 31) rfl ?_
    refine oGo W0 [.iload_n 0, .sipush 215] (by decide +kernel) (ls' := #[sI c]) (st' := [(.int 215), (.int c)]) rfl rfl (pc' := 35) rfl ?_
    by_cases hc8 : c = (215 : Int32)
    · refine oIcT W0 (cd := .eq) (o := 8) (by decide +kernel) (XT.ii_eq_t hc8) (pc' := 43) (by decide) (by decide) ?_
      refine oGo W0 [.iload_n 0] (by decide +kernel) (ls' := #[sI c]) (st' := [(.int c)]) rfl rfl (pc' := 44) rfl ?_
      exact oRetI W0 (by decide +kernel) (lb rfl) (lb rfl) (fun vm' hv => ⟨by rw [fld, if_neg (fun z => z.2 hc5), if_neg (fun z => z.2.2 hc8)], rfl⟩)
    refine oIcF W0 (cd := .eq) (o := 8) (by decide +kernel) (XT.ii_eq_f hc8) (pc' := 38) rfl ?_
    refine oGo W0 [.iload_n 0, .bipush 32, .iadd] (by decide +kernel) (ls' := #[sI c]) (st' := [(.int (c + (32 : Int32)))]) rfl rfl (pc' := 42) rfl ?_
    exact oRetI W0 (by decide +kernel) (lb rfl) (lb rfl) (fun vm' hv => ⟨by rw [fld, if_neg (fun z => z.2 hc5), if_pos ⟨hc6, hc7, hc8⟩], rfl⟩)
  refine oIcF W0 (cd := .gt) (o := 8) (by decide +kernel) (XT.ii_gt_f hc5) (pc' := 12) rfl ?_
  refine oGo W0 [.iload_n 0, .bipush 32, .iadd] (by decide +kernel) (ls' := #[sI c]) (st' := [(.int (c + (32 : Int32)))]) rfl rfl (pc' := 16) rfl ?_
  exact oRetI W0 (by decide +kernel) (lb rfl) (lb rfl) (fun vm' hv => ⟨by rw [fld, if_pos ⟨hc1, hc5⟩], rfl⟩)
abbrev rm_c_exp : Room := { frames := 1, cells := 0, slots := 0, locals := 13 }
set_option maxRecDepth 65536 in
set_option maxHeartbeats 40000000 in
theorem c_exp_c0_1 {l : Launch} {Z : State} {a0 : Array Value} (K : Ctx Z a0) {nb : Bool} {a b : Addr} {ka kb : ClassId} {c0 c1 c2 c3 d0 d1 d2 d3 : Int32} {V U : Nat} (hV : V ≤ 4) (hU : U ≤ 4) {vl kk : Int32} {p : Program} {e : Env} {s : State} {m : MethodId} {args : Array Value} {below : List Frame} {meth : Method} {cc : Code} {h0 : Heap} {vm0 : Vm} {T0 : State} {lc : List Loc}
    (W0 : OW p l e rm_c_exp s m args below meth cc Z a0 EL nb "com/example/gentle_hub/gentlehub/server/MediaTypesNamesPinLaw" method_6_code 9 (some .boolean) "expected" vm0 T0 lc 0 0 h0) (A : OA Z h0 a ka .char [.int c0, .int c1, .int c2, .int c3]) (B : OA Z h0 b kb .char [.int d0, .int d1, .int d2, .int d3]) (hz : strp (ess (([c0, c1, c2, c3] : List Int32).take V)) = [c0]) :
    OG p e below s Z EL nb (fun v _ h => ∃ r, v = some (.int r) ∧ h = h0 ∧ ((r = 1 ∧ Nm (([c0, c1, c2, c3] : List Int32).take V) (([d0, d1, d2, d3] : List Int32).take U)) ∨ (r = 0 ∧ ¬ (Nm (([c0, c1, c2, c3] : List Int32).take V) (([d0, d1, d2, d3] : List Int32).take U))))) rm_c_exp.cells rm_c_exp.slots T0 (mkF m 215 #[sR a, sI vl, sR b, sI (Int32.ofNat U), sI kk, sI 0, sI 0, sU, sU] []) := by
  have hw := K.1
  have hS : ∀ a ∈ Bundle.stringAtoms, a.before a0 Z = true := K.2.2.1
  refine oGo W0 [.iload 5, .iload 6] (by decide +kernel) (ls' := #[sR a, sI vl, sR b, sI (Int32.ofNat U), sI kk, sI 0, sI 0, sU, sU]) (st' := [(.int 0), (.int 0)]) rfl rfl (pc' := 219) rfl ?_
  refine oIcF W0 (cd := .gt) (o := 13) (by decide +kernel) (XT.ii_gt_f (by decide)) (pc' := 222) rfl ?_
  refine oGo W0 [.iload 6, .iload 5, .isub, .iconst 1, .iadd, .goto 4, .istore 7, .iload 7, .iload_n 3] (by decide +kernel) (ls' := #[sR a, sI vl, sR b, sI (Int32.ofNat U), sI kk, sI 0, sI 0, sI 1, sU]) (st' := [(.int (Int32.ofNat U)), (.int 1)]) rfl rfl (pc' := 238) rfl ?_
  by_cases hc101 : (1 : Int32) = (Int32.ofNat U)
  rotate_left
  · refine oIcF W0 (cd := .eq) (o := 5) (by decide +kernel) (XT.ii_eq_f hc101) (pc' := 241) rfl ?_
    refine oGo W0 [.iconst 0] (by decide +kernel) (ls' := #[sR a, sI vl, sR b, sI (Int32.ofNat U), sI kk, sI 0, sI 0, sI 1, sU]) (st' := [(.int 0)]) rfl rfl (pc' := 242) rfl ?_
    exact oRetN (by simp) W0 rfl (by decide +kernel) (lb rfl) (lb rfl) (fun vm' hv => ⟨_, rfl, rfl, Or.inr ⟨rfl, fun q => hc101 (by have z := congrArg List.length q; rw [hz, List.length_map, List.length_map, List.length_take] at z; rw [show U = 1 from by simp at z; omega]; rfl)⟩⟩)
  refine oIcT W0 (cd := .eq) (o := 5) (by decide +kernel) (XT.ii_eq_t hc101) (pc' := 243) (by decide) (by decide) ?_
  obtain rfl : U = 1 := ofNat_inj (b := 1) (by omega) (by omega) hc101.symm
  refine oGo W0 [.iconst 1, .istore 8, .iload 7] (by decide +kernel) (ls' := #[sR a, sI vl, sR b, sI (Int32.ofNat 1), sI kk, sI 0, sI 0, sI 1, sI 1]) (st' := [(.int 1)]) rfl rfl (pc' := 248) rfl ?_
  refine oIfF W0 (cd := .le) (o := 31) (by decide +kernel) (XT.i0_le_f (by decide)) (pc' := 251) rfl ?_
  refine oGo W0 [.iload 8] (by decide +kernel) (ls' := #[sR a, sI vl, sR b, sI (Int32.ofNat 1), sI kk, sI 0, sI 0, sI 1, sI 1]) (st' := [(.int 1)]) rfl rfl (pc' := 253) rfl ?_
  refine oIfF W0 (cd := .eq) (o := 23) (by decide +kernel) (XT.i0_eq_f (by decide)) (pc' := 256) rfl ?_
  refine oGo W0 [.aload_n 0, .iload 5] (by decide +kernel) (ls' := #[sR a, sI vl, sR b, sI (Int32.ofNat 1), sI kk, sI 0, sI 0, sI 1, sI 1]) (st' := [(.int 0), (.ref a)]) rfl rfl (pc' := 259) rfl ?_
  refine oGet W0 A (v := (.int c0)) (by decide) rfl (Or.inl ⟨rfl, rfl⟩) (by decide +kernel) ?_
  obtain ⟨v102, T102, L102, h102, vm102, W102, ⟨rfl, e102⟩, C102, st102⟩ := oCallS W0 (idx := 32) (pc := 260) (ls := #[sR a, sI vl, sR b, sI (Int32.ofNat 1), sI kk, sI 0, sI 0, sI 1, sI 1]) (st := []) (argsL := [(.int c0)]) (c_fo K) (fun x hx => nomatch hx) (wK K 135 rfl) (wK K 136 rfl) (wK K 3 rfl) (wK K 137 rfl) (by decide) (na := 1) rfl (by decide +kernel) rfl (stk := [(.int c0)]) rfl (by decide +kernel) (V := 0) (lb rfl) (lb rfl) (lb rfl) (lb rfl) (lb rfl)
  refine oLift st102 ?_
  rw [e102] at W102 C102
  show OG _ _ _ _ _ _ _ _ _ _ _ (mkF m 263 #[sR a, sI vl, sR b, sI (Int32.ofNat 1), sI kk, sI 0, sI 0, sI 1, sI 1] [(.int (fld c0))])
  refine oGo W102 [.aload_n 2, .iconst 0] (by decide +kernel) (ls' := #[sR a, sI vl, sR b, sI (Int32.ofNat 1), sI kk, sI 0, sI 0, sI 1, sI 1]) (st' := [(.int 0), (.ref b), (.int (fld c0))]) rfl rfl (pc' := 265) rfl ?_
  refine oGet W102 B (v := (.int d0)) (by decide) rfl (Or.inl ⟨rfl, rfl⟩) (by decide +kernel) ?_
  obtain ⟨v103, T103, L103, h103, vm103, W103, ⟨rfl, e103⟩, C103, st103⟩ := oCallS W102 (idx := 32) (pc := 266) (ls := #[sR a, sI vl, sR b, sI (Int32.ofNat 1), sI kk, sI 0, sI 0, sI 1, sI 1]) (st := [(.int (fld c0))]) (argsL := [(.int d0)]) (c_fo K) (fun x hx => nomatch hx) (wK K 135 rfl) (wK K 136 rfl) (wK K 3 rfl) (wK K 137 rfl) (by decide) (na := 1) rfl (by decide +kernel) rfl (stk := [(.int d0), (.int (fld c0))]) rfl (by decide +kernel) (V := 1) (lb rfl) (lb rfl) (lb rfl) (lb rfl) (lb rfl)
  refine oLift st103 ?_
  rw [e103] at W103 C103
  show OG _ _ _ _ _ _ _ _ _ _ _ (mkF m 269 #[sR a, sI vl, sR b, sI (Int32.ofNat 1), sI kk, sI 0, sI 0, sI 1, sI 1] [(.int (fld d0)), (.int (fld c0))])
  by_cases hc104 : (fld c0) = (fld d0)
  rotate_left
  · refine oIcT W103 (cd := .ne) (o := 7) (by decide +kernel) (XT.ii_ne_t hc104) (pc' := 276) (by decide) (by decide) ?_
    refine oGo W103 [.iconst 0, .istore 8, .iload 7, .iconst 1] (by decide +kernel) (ls' := #[sR a, sI vl, sR b, sI (Int32.ofNat 1), sI kk, sI 0, sI 0, sI 1, sI 0]) (st' := [(.int 1), (.int 1)]) rfl rfl (pc' := 282) rfl ?_
    refine oIcT W103 (cd := .le) (o := 33) (by decide +kernel) (XT.ii_le_t (by decide)) (pc' := 315) (by decide) (by decide) ?_
    refine oGo W103 [.iload 7, .iconst 2] (by decide +kernel) (ls' := #[sR a, sI vl, sR b, sI (Int32.ofNat 1), sI kk, sI 0, sI 0, sI 1, sI 0]) (st' := [(.int 2), (.int 1)]) rfl rfl (pc' := 318) rfl ?_
    refine oIcT W103 (cd := .le) (o := 33) (by decide +kernel) (XT.ii_le_t (by decide)) (pc' := 351) (by decide) (by decide) ?_
    refine oGo W103 [.iload 7, .iconst 3] (by decide +kernel) (ls' := #[sR a, sI vl, sR b, sI (Int32.ofNat 1), sI kk, sI 0, sI 0, sI 1, sI 0]) (st' := [(.int 3), (.int 1)]) rfl rfl (pc' := 354) rfl ?_
    refine oIcT W103 (cd := .le) (o := 33) (by decide +kernel) (XT.ii_le_t (by decide)) (pc' := 387) (by decide) (by decide) ?_
    refine oGo W103 [.iload 8] (by decide +kernel) (ls' := #[sR a, sI vl, sR b, sI (Int32.ofNat 1), sI kk, sI 0, sI 0, sI 1, sI 0]) (st' := [(.int 0)]) rfl rfl (pc' := 389) rfl ?_
    exact oRetN (by simp) W103 rfl (by decide +kernel) (lb rfl) (lb rfl) (fun vm' hv => ⟨_, rfl, rfl, Or.inr ⟨rfl, fun q => hc104 (by rw [Nm, hz] at q; simp at q; simp [q])⟩⟩)
  refine oIcF W103 (cd := .ne) (o := 7) (by decide +kernel) (XT.ii_ne_f hc104) (pc' := 272) rfl ?_
  refine oGo W103 [.iconst 1, .goto 4, .istore 8, .iload 7, .iconst 1] (by decide +kernel) (ls' := #[sR a, sI vl, sR b, sI (Int32.ofNat 1), sI kk, sI 0, sI 0, sI 1, sI 1]) (st' := [(.int 1), (.int 1)]) rfl rfl (pc' := 282) rfl ?_
  refine oIcT W103 (cd := .le) (o := 33) (by decide +kernel) (XT.ii_le_t (by decide)) (pc' := 315) (by decide) (by decide) ?_
  refine oGo W103 [.iload 7, .iconst 2] (by decide +kernel) (ls' := #[sR a, sI vl, sR b, sI (Int32.ofNat 1), sI kk, sI 0, sI 0, sI 1, sI 1]) (st' := [(.int 2), (.int 1)]) rfl rfl (pc' := 318) rfl ?_
  refine oIcT W103 (cd := .le) (o := 33) (by decide +kernel) (XT.ii_le_t (by decide)) (pc' := 351) (by decide) (by decide) ?_
  refine oGo W103 [.iload 7, .iconst 3] (by decide +kernel) (ls' := #[sR a, sI vl, sR b, sI (Int32.ofNat 1), sI kk, sI 0, sI 0, sI 1, sI 1]) (st' := [(.int 3), (.int 1)]) rfl rfl (pc' := 354) rfl ?_
  refine oIcT W103 (cd := .le) (o := 33) (by decide +kernel) (XT.ii_le_t (by decide)) (pc' := 387) (by decide) (by decide) ?_
  refine oGo W103 [.iload 8] (by decide +kernel) (ls' := #[sR a, sI vl, sR b, sI (Int32.ofNat 1), sI kk, sI 0, sI 0, sI 1, sI 1]) (st' := [(.int 1)]) rfl rfl (pc' := 389) rfl ?_
  exact oRetN (by simp) W103 rfl (by decide +kernel) (lb rfl) (lb rfl) (fun vm' hv => ⟨_, rfl, rfl, Or.inl ⟨rfl, by rw [Nm, hz]; simp [hc104]⟩⟩)

set_option maxRecDepth 65536 in
set_option maxHeartbeats 40000000 in
theorem c_exp_c0_2 {l : Launch} {Z : State} {a0 : Array Value} (K : Ctx Z a0) {nb : Bool} {a b : Addr} {ka kb : ClassId} {c0 c1 c2 c3 d0 d1 d2 d3 : Int32} {V U : Nat} (hV : V ≤ 4) (hU : U ≤ 4) {vl kk : Int32} {p : Program} {e : Env} {s : State} {m : MethodId} {args : Array Value} {below : List Frame} {meth : Method} {cc : Code} {h0 : Heap} {vm0 : Vm} {T0 : State} {lc : List Loc}
    (W0 : OW p l e rm_c_exp s m args below meth cc Z a0 EL nb "com/example/gentle_hub/gentlehub/server/MediaTypesNamesPinLaw" method_6_code 9 (some .boolean) "expected" vm0 T0 lc 0 0 h0) (A : OA Z h0 a ka .char [.int c0, .int c1, .int c2, .int c3]) (B : OA Z h0 b kb .char [.int d0, .int d1, .int d2, .int d3]) (hz : strp (ess (([c0, c1, c2, c3] : List Int32).take V)) = [c0, c1]) :
    OG p e below s Z EL nb (fun v _ h => ∃ r, v = some (.int r) ∧ h = h0 ∧ ((r = 1 ∧ Nm (([c0, c1, c2, c3] : List Int32).take V) (([d0, d1, d2, d3] : List Int32).take U)) ∨ (r = 0 ∧ ¬ (Nm (([c0, c1, c2, c3] : List Int32).take V) (([d0, d1, d2, d3] : List Int32).take U))))) rm_c_exp.cells rm_c_exp.slots T0 (mkF m 215 #[sR a, sI vl, sR b, sI (Int32.ofNat U), sI kk, sI 0, sI 1, sU, sU] []) := by
  have hw := K.1
  have hS : ∀ a ∈ Bundle.stringAtoms, a.before a0 Z = true := K.2.2.1
  refine oGo W0 [.iload 5, .iload 6] (by decide +kernel) (ls' := #[sR a, sI vl, sR b, sI (Int32.ofNat U), sI kk, sI 0, sI 1, sU, sU]) (st' := [(.int 1), (.int 0)]) rfl rfl (pc' := 219) rfl ?_
  refine oIcF W0 (cd := .gt) (o := 13) (by decide +kernel) (XT.ii_gt_f (by decide)) (pc' := 222) rfl ?_
  refine oGo W0 [.iload 6, .iload 5, .isub, .iconst 1, .iadd, .goto 4, .istore 7, .iload 7, .iload_n 3] (by decide +kernel) (ls' := #[sR a, sI vl, sR b, sI (Int32.ofNat U), sI kk, sI 0, sI 1, sI 2, sU]) (st' := [(.int (Int32.ofNat U)), (.int 2)]) rfl rfl (pc' := 238) rfl ?_
  by_cases hc101 : (2 : Int32) = (Int32.ofNat U)
  rotate_left
  · refine oIcF W0 (cd := .eq) (o := 5) (by decide +kernel) (XT.ii_eq_f hc101) (pc' := 241) rfl ?_
    refine oGo W0 [.iconst 0] (by decide +kernel) (ls' := #[sR a, sI vl, sR b, sI (Int32.ofNat U), sI kk, sI 0, sI 1, sI 2, sU]) (st' := [(.int 0)]) rfl rfl (pc' := 242) rfl ?_
    exact oRetN (by simp) W0 rfl (by decide +kernel) (lb rfl) (lb rfl) (fun vm' hv => ⟨_, rfl, rfl, Or.inr ⟨rfl, fun q => hc101 (by have z := congrArg List.length q; rw [hz, List.length_map, List.length_map, List.length_take] at z; rw [show U = 2 from by simp at z; omega]; rfl)⟩⟩)
  refine oIcT W0 (cd := .eq) (o := 5) (by decide +kernel) (XT.ii_eq_t hc101) (pc' := 243) (by decide) (by decide) ?_
  obtain rfl : U = 2 := ofNat_inj (b := 2) (by omega) (by omega) hc101.symm
  refine oGo W0 [.iconst 1, .istore 8, .iload 7] (by decide +kernel) (ls' := #[sR a, sI vl, sR b, sI (Int32.ofNat 2), sI kk, sI 0, sI 1, sI 2, sI 1]) (st' := [(.int 2)]) rfl rfl (pc' := 248) rfl ?_
  refine oIfF W0 (cd := .le) (o := 31) (by decide +kernel) (XT.i0_le_f (by decide)) (pc' := 251) rfl ?_
  refine oGo W0 [.iload 8] (by decide +kernel) (ls' := #[sR a, sI vl, sR b, sI (Int32.ofNat 2), sI kk, sI 0, sI 1, sI 2, sI 1]) (st' := [(.int 1)]) rfl rfl (pc' := 253) rfl ?_
  refine oIfF W0 (cd := .eq) (o := 23) (by decide +kernel) (XT.i0_eq_f (by decide)) (pc' := 256) rfl ?_
  refine oGo W0 [.aload_n 0, .iload 5] (by decide +kernel) (ls' := #[sR a, sI vl, sR b, sI (Int32.ofNat 2), sI kk, sI 0, sI 1, sI 2, sI 1]) (st' := [(.int 0), (.ref a)]) rfl rfl (pc' := 259) rfl ?_
  refine oGet W0 A (v := (.int c0)) (by decide) rfl (Or.inl ⟨rfl, rfl⟩) (by decide +kernel) ?_
  obtain ⟨v102, T102, L102, h102, vm102, W102, ⟨rfl, e102⟩, C102, st102⟩ := oCallS W0 (idx := 32) (pc := 260) (ls := #[sR a, sI vl, sR b, sI (Int32.ofNat 2), sI kk, sI 0, sI 1, sI 2, sI 1]) (st := []) (argsL := [(.int c0)]) (c_fo K) (fun x hx => nomatch hx) (wK K 135 rfl) (wK K 136 rfl) (wK K 3 rfl) (wK K 137 rfl) (by decide) (na := 1) rfl (by decide +kernel) rfl (stk := [(.int c0)]) rfl (by decide +kernel) (V := 0) (lb rfl) (lb rfl) (lb rfl) (lb rfl) (lb rfl)
  refine oLift st102 ?_
  rw [e102] at W102 C102
  show OG _ _ _ _ _ _ _ _ _ _ _ (mkF m 263 #[sR a, sI vl, sR b, sI (Int32.ofNat 2), sI kk, sI 0, sI 1, sI 2, sI 1] [(.int (fld c0))])
  refine oGo W102 [.aload_n 2, .iconst 0] (by decide +kernel) (ls' := #[sR a, sI vl, sR b, sI (Int32.ofNat 2), sI kk, sI 0, sI 1, sI 2, sI 1]) (st' := [(.int 0), (.ref b), (.int (fld c0))]) rfl rfl (pc' := 265) rfl ?_
  refine oGet W102 B (v := (.int d0)) (by decide) rfl (Or.inl ⟨rfl, rfl⟩) (by decide +kernel) ?_
  obtain ⟨v103, T103, L103, h103, vm103, W103, ⟨rfl, e103⟩, C103, st103⟩ := oCallS W102 (idx := 32) (pc := 266) (ls := #[sR a, sI vl, sR b, sI (Int32.ofNat 2), sI kk, sI 0, sI 1, sI 2, sI 1]) (st := [(.int (fld c0))]) (argsL := [(.int d0)]) (c_fo K) (fun x hx => nomatch hx) (wK K 135 rfl) (wK K 136 rfl) (wK K 3 rfl) (wK K 137 rfl) (by decide) (na := 1) rfl (by decide +kernel) rfl (stk := [(.int d0), (.int (fld c0))]) rfl (by decide +kernel) (V := 1) (lb rfl) (lb rfl) (lb rfl) (lb rfl) (lb rfl)
  refine oLift st103 ?_
  rw [e103] at W103 C103
  show OG _ _ _ _ _ _ _ _ _ _ _ (mkF m 269 #[sR a, sI vl, sR b, sI (Int32.ofNat 2), sI kk, sI 0, sI 1, sI 2, sI 1] [(.int (fld d0)), (.int (fld c0))])
  by_cases hc104 : (fld c0) = (fld d0)
  rotate_left
  · refine oIcT W103 (cd := .ne) (o := 7) (by decide +kernel) (XT.ii_ne_t hc104) (pc' := 276) (by decide) (by decide) ?_
    refine oGo W103 [.iconst 0, .istore 8, .iload 7, .iconst 1] (by decide +kernel) (ls' := #[sR a, sI vl, sR b, sI (Int32.ofNat 2), sI kk, sI 0, sI 1, sI 2, sI 0]) (st' := [(.int 1), (.int 2)]) rfl rfl (pc' := 282) rfl ?_
    refine oIcF W103 (cd := .le) (o := 33) (by decide +kernel) (XT.ii_le_f (by decide)) (pc' := 285) rfl ?_
    refine oGo W103 [.iload 8] (by decide +kernel) (ls' := #[sR a, sI vl, sR b, sI (Int32.ofNat 2), sI kk, sI 0, sI 1, sI 2, sI 0]) (st' := [(.int 0)]) rfl rfl (pc' := 287) rfl ?_
    refine oIfT W103 (cd := .eq) (o := 25) (by decide +kernel) (XT.i0_eq_t (by decide)) (pc' := 312) (by decide) (by decide) ?_
    refine oGo W103 [.iconst 0, .istore 8, .iload 7, .iconst 2] (by decide +kernel) (ls' := #[sR a, sI vl, sR b, sI (Int32.ofNat 2), sI kk, sI 0, sI 1, sI 2, sI 0]) (st' := [(.int 2), (.int 2)]) rfl rfl (pc' := 318) rfl ?_
    refine oIcT W103 (cd := .le) (o := 33) (by decide +kernel) (XT.ii_le_t (by decide)) (pc' := 351) (by decide) (by decide) ?_
    refine oGo W103 [.iload 7, .iconst 3] (by decide +kernel) (ls' := #[sR a, sI vl, sR b, sI (Int32.ofNat 2), sI kk, sI 0, sI 1, sI 2, sI 0]) (st' := [(.int 3), (.int 2)]) rfl rfl (pc' := 354) rfl ?_
    refine oIcT W103 (cd := .le) (o := 33) (by decide +kernel) (XT.ii_le_t (by decide)) (pc' := 387) (by decide) (by decide) ?_
    refine oGo W103 [.iload 8] (by decide +kernel) (ls' := #[sR a, sI vl, sR b, sI (Int32.ofNat 2), sI kk, sI 0, sI 1, sI 2, sI 0]) (st' := [(.int 0)]) rfl rfl (pc' := 389) rfl ?_
    exact oRetN (by simp) W103 rfl (by decide +kernel) (lb rfl) (lb rfl) (fun vm' hv => ⟨_, rfl, rfl, Or.inr ⟨rfl, fun q => hc104 (by rw [Nm, hz] at q; simp at q; simp [q])⟩⟩)
  refine oIcF W103 (cd := .ne) (o := 7) (by decide +kernel) (XT.ii_ne_f hc104) (pc' := 272) rfl ?_
  refine oGo W103 [.iconst 1, .goto 4, .istore 8, .iload 7, .iconst 1] (by decide +kernel) (ls' := #[sR a, sI vl, sR b, sI (Int32.ofNat 2), sI kk, sI 0, sI 1, sI 2, sI 1]) (st' := [(.int 1), (.int 2)]) rfl rfl (pc' := 282) rfl ?_
  refine oIcF W103 (cd := .le) (o := 33) (by decide +kernel) (XT.ii_le_f (by decide)) (pc' := 285) rfl ?_
  refine oGo W103 [.iload 8] (by decide +kernel) (ls' := #[sR a, sI vl, sR b, sI (Int32.ofNat 2), sI kk, sI 0, sI 1, sI 2, sI 1]) (st' := [(.int 1)]) rfl rfl (pc' := 287) rfl ?_
  refine oIfF W103 (cd := .eq) (o := 25) (by decide +kernel) (XT.i0_eq_f (by decide)) (pc' := 290) rfl ?_
  refine oGo W103 [.aload_n 0, .iload 5, .iconst 1, .iadd] (by decide +kernel) (ls' := #[sR a, sI vl, sR b, sI (Int32.ofNat 2), sI kk, sI 0, sI 1, sI 2, sI 1]) (st' := [(.int 1), (.ref a)]) rfl rfl (pc' := 295) rfl ?_
  refine oGet W103 A (v := (.int c1)) (by decide) rfl (Or.inl ⟨rfl, rfl⟩) (by decide +kernel) ?_
  obtain ⟨v105, T105, L105, h105, vm105, W105, ⟨rfl, e105⟩, C105, st105⟩ := oCallS W103 (idx := 32) (pc := 296) (ls := #[sR a, sI vl, sR b, sI (Int32.ofNat 2), sI kk, sI 0, sI 1, sI 2, sI 1]) (st := []) (argsL := [(.int c1)]) (c_fo K) (fun x hx => nomatch hx) (wK K 135 rfl) (wK K 136 rfl) (wK K 3 rfl) (wK K 137 rfl) (by decide) (na := 1) rfl (by decide +kernel) rfl (stk := [(.int c1)]) rfl (by decide +kernel) (V := 0) (lb rfl) (lb rfl) (lb rfl) (lb rfl) (lb rfl)
  refine oLift st105 ?_
  rw [e105] at W105 C105
  show OG _ _ _ _ _ _ _ _ _ _ _ (mkF m 299 #[sR a, sI vl, sR b, sI (Int32.ofNat 2), sI kk, sI 0, sI 1, sI 2, sI 1] [(.int (fld c1))])
  refine oGo W105 [.aload_n 2, .iconst 1] (by decide +kernel) (ls' := #[sR a, sI vl, sR b, sI (Int32.ofNat 2), sI kk, sI 0, sI 1, sI 2, sI 1]) (st' := [(.int 1), (.ref b), (.int (fld c1))]) rfl rfl (pc' := 301) rfl ?_
  refine oGet W105 B (v := (.int d1)) (by decide) rfl (Or.inl ⟨rfl, rfl⟩) (by decide +kernel) ?_
  obtain ⟨v106, T106, L106, h106, vm106, W106, ⟨rfl, e106⟩, C106, st106⟩ := oCallS W105 (idx := 32) (pc := 302) (ls := #[sR a, sI vl, sR b, sI (Int32.ofNat 2), sI kk, sI 0, sI 1, sI 2, sI 1]) (st := [(.int (fld c1))]) (argsL := [(.int d1)]) (c_fo K) (fun x hx => nomatch hx) (wK K 135 rfl) (wK K 136 rfl) (wK K 3 rfl) (wK K 137 rfl) (by decide) (na := 1) rfl (by decide +kernel) rfl (stk := [(.int d1), (.int (fld c1))]) rfl (by decide +kernel) (V := 1) (lb rfl) (lb rfl) (lb rfl) (lb rfl) (lb rfl)
  refine oLift st106 ?_
  rw [e106] at W106 C106
  show OG _ _ _ _ _ _ _ _ _ _ _ (mkF m 305 #[sR a, sI vl, sR b, sI (Int32.ofNat 2), sI kk, sI 0, sI 1, sI 2, sI 1] [(.int (fld d1)), (.int (fld c1))])
  by_cases hc107 : (fld c1) = (fld d1)
  rotate_left
  · refine oIcT W106 (cd := .ne) (o := 7) (by decide +kernel) (XT.ii_ne_t hc107) (pc' := 312) (by decide) (by decide) ?_
    refine oGo W106 [.iconst 0, .istore 8, .iload 7, .iconst 2] (by decide +kernel) (ls' := #[sR a, sI vl, sR b, sI (Int32.ofNat 2), sI kk, sI 0, sI 1, sI 2, sI 0]) (st' := [(.int 2), (.int 2)]) rfl rfl (pc' := 318) rfl ?_
    refine oIcT W106 (cd := .le) (o := 33) (by decide +kernel) (XT.ii_le_t (by decide)) (pc' := 351) (by decide) (by decide) ?_
    refine oGo W106 [.iload 7, .iconst 3] (by decide +kernel) (ls' := #[sR a, sI vl, sR b, sI (Int32.ofNat 2), sI kk, sI 0, sI 1, sI 2, sI 0]) (st' := [(.int 3), (.int 2)]) rfl rfl (pc' := 354) rfl ?_
    refine oIcT W106 (cd := .le) (o := 33) (by decide +kernel) (XT.ii_le_t (by decide)) (pc' := 387) (by decide) (by decide) ?_
    refine oGo W106 [.iload 8] (by decide +kernel) (ls' := #[sR a, sI vl, sR b, sI (Int32.ofNat 2), sI kk, sI 0, sI 1, sI 2, sI 0]) (st' := [(.int 0)]) rfl rfl (pc' := 389) rfl ?_
    exact oRetN (by simp) W106 rfl (by decide +kernel) (lb rfl) (lb rfl) (fun vm' hv => ⟨_, rfl, rfl, Or.inr ⟨rfl, fun q => hc107 (by rw [Nm, hz] at q; simp at q; simp [q])⟩⟩)
  refine oIcF W106 (cd := .ne) (o := 7) (by decide +kernel) (XT.ii_ne_f hc107) (pc' := 308) rfl ?_
  refine oGo W106 [.iconst 1, .goto 4, .istore 8, .iload 7, .iconst 2] (by decide +kernel) (ls' := #[sR a, sI vl, sR b, sI (Int32.ofNat 2), sI kk, sI 0, sI 1, sI 2, sI 1]) (st' := [(.int 2), (.int 2)]) rfl rfl (pc' := 318) rfl ?_
  refine oIcT W106 (cd := .le) (o := 33) (by decide +kernel) (XT.ii_le_t (by decide)) (pc' := 351) (by decide) (by decide) ?_
  refine oGo W106 [.iload 7, .iconst 3] (by decide +kernel) (ls' := #[sR a, sI vl, sR b, sI (Int32.ofNat 2), sI kk, sI 0, sI 1, sI 2, sI 1]) (st' := [(.int 3), (.int 2)]) rfl rfl (pc' := 354) rfl ?_
  refine oIcT W106 (cd := .le) (o := 33) (by decide +kernel) (XT.ii_le_t (by decide)) (pc' := 387) (by decide) (by decide) ?_
  refine oGo W106 [.iload 8] (by decide +kernel) (ls' := #[sR a, sI vl, sR b, sI (Int32.ofNat 2), sI kk, sI 0, sI 1, sI 2, sI 1]) (st' := [(.int 1)]) rfl rfl (pc' := 389) rfl ?_
  exact oRetN (by simp) W106 rfl (by decide +kernel) (lb rfl) (lb rfl) (fun vm' hv => ⟨_, rfl, rfl, Or.inl ⟨rfl, by rw [Nm, hz]; simp [hc104, hc107]⟩⟩)

set_option maxRecDepth 65536 in
set_option maxHeartbeats 40000000 in
theorem c_exp_c1_2 {l : Launch} {Z : State} {a0 : Array Value} (K : Ctx Z a0) {nb : Bool} {a b : Addr} {ka kb : ClassId} {c0 c1 c2 c3 d0 d1 d2 d3 : Int32} {V U : Nat} (hV : V ≤ 4) (hU : U ≤ 4) {vl kk : Int32} {p : Program} {e : Env} {s : State} {m : MethodId} {args : Array Value} {below : List Frame} {meth : Method} {cc : Code} {h0 : Heap} {vm0 : Vm} {T0 : State} {lc : List Loc}
    (W0 : OW p l e rm_c_exp s m args below meth cc Z a0 EL nb "com/example/gentle_hub/gentlehub/server/MediaTypesNamesPinLaw" method_6_code 9 (some .boolean) "expected" vm0 T0 lc 0 0 h0) (A : OA Z h0 a ka .char [.int c0, .int c1, .int c2, .int c3]) (B : OA Z h0 b kb .char [.int d0, .int d1, .int d2, .int d3]) (hz : strp (ess (([c0, c1, c2, c3] : List Int32).take V)) = [c1]) :
    OG p e below s Z EL nb (fun v _ h => ∃ r, v = some (.int r) ∧ h = h0 ∧ ((r = 1 ∧ Nm (([c0, c1, c2, c3] : List Int32).take V) (([d0, d1, d2, d3] : List Int32).take U)) ∨ (r = 0 ∧ ¬ (Nm (([c0, c1, c2, c3] : List Int32).take V) (([d0, d1, d2, d3] : List Int32).take U))))) rm_c_exp.cells rm_c_exp.slots T0 (mkF m 215 #[sR a, sI vl, sR b, sI (Int32.ofNat U), sI kk, sI 1, sI 1, sU, sU] []) := by
  have hw := K.1
  have hS : ∀ a ∈ Bundle.stringAtoms, a.before a0 Z = true := K.2.2.1
  refine oGo W0 [.iload 5, .iload 6] (by decide +kernel) (ls' := #[sR a, sI vl, sR b, sI (Int32.ofNat U), sI kk, sI 1, sI 1, sU, sU]) (st' := [(.int 1), (.int 1)]) rfl rfl (pc' := 219) rfl ?_
  refine oIcF W0 (cd := .gt) (o := 13) (by decide +kernel) (XT.ii_gt_f (by decide)) (pc' := 222) rfl ?_
  refine oGo W0 [.iload 6, .iload 5, .isub, .iconst 1, .iadd, .goto 4, .istore 7, .iload 7, .iload_n 3] (by decide +kernel) (ls' := #[sR a, sI vl, sR b, sI (Int32.ofNat U), sI kk, sI 1, sI 1, sI 1, sU]) (st' := [(.int (Int32.ofNat U)), (.int 1)]) rfl rfl (pc' := 238) rfl ?_
  by_cases hc101 : (1 : Int32) = (Int32.ofNat U)
  rotate_left
  · refine oIcF W0 (cd := .eq) (o := 5) (by decide +kernel) (XT.ii_eq_f hc101) (pc' := 241) rfl ?_
    refine oGo W0 [.iconst 0] (by decide +kernel) (ls' := #[sR a, sI vl, sR b, sI (Int32.ofNat U), sI kk, sI 1, sI 1, sI 1, sU]) (st' := [(.int 0)]) rfl rfl (pc' := 242) rfl ?_
    exact oRetN (by simp) W0 rfl (by decide +kernel) (lb rfl) (lb rfl) (fun vm' hv => ⟨_, rfl, rfl, Or.inr ⟨rfl, fun q => hc101 (by have z := congrArg List.length q; rw [hz, List.length_map, List.length_map, List.length_take] at z; rw [show U = 1 from by simp at z; omega]; rfl)⟩⟩)
  refine oIcT W0 (cd := .eq) (o := 5) (by decide +kernel) (XT.ii_eq_t hc101) (pc' := 243) (by decide) (by decide) ?_
  obtain rfl : U = 1 := ofNat_inj (b := 1) (by omega) (by omega) hc101.symm
  refine oGo W0 [.iconst 1, .istore 8, .iload 7] (by decide +kernel) (ls' := #[sR a, sI vl, sR b, sI (Int32.ofNat 1), sI kk, sI 1, sI 1, sI 1, sI 1]) (st' := [(.int 1)]) rfl rfl (pc' := 248) rfl ?_
  refine oIfF W0 (cd := .le) (o := 31) (by decide +kernel) (XT.i0_le_f (by decide)) (pc' := 251) rfl ?_
  refine oGo W0 [.iload 8] (by decide +kernel) (ls' := #[sR a, sI vl, sR b, sI (Int32.ofNat 1), sI kk, sI 1, sI 1, sI 1, sI 1]) (st' := [(.int 1)]) rfl rfl (pc' := 253) rfl ?_
  refine oIfF W0 (cd := .eq) (o := 23) (by decide +kernel) (XT.i0_eq_f (by decide)) (pc' := 256) rfl ?_
  refine oGo W0 [.aload_n 0, .iload 5] (by decide +kernel) (ls' := #[sR a, sI vl, sR b, sI (Int32.ofNat 1), sI kk, sI 1, sI 1, sI 1, sI 1]) (st' := [(.int 1), (.ref a)]) rfl rfl (pc' := 259) rfl ?_
  refine oGet W0 A (v := (.int c1)) (by decide) rfl (Or.inl ⟨rfl, rfl⟩) (by decide +kernel) ?_
  obtain ⟨v102, T102, L102, h102, vm102, W102, ⟨rfl, e102⟩, C102, st102⟩ := oCallS W0 (idx := 32) (pc := 260) (ls := #[sR a, sI vl, sR b, sI (Int32.ofNat 1), sI kk, sI 1, sI 1, sI 1, sI 1]) (st := []) (argsL := [(.int c1)]) (c_fo K) (fun x hx => nomatch hx) (wK K 135 rfl) (wK K 136 rfl) (wK K 3 rfl) (wK K 137 rfl) (by decide) (na := 1) rfl (by decide +kernel) rfl (stk := [(.int c1)]) rfl (by decide +kernel) (V := 0) (lb rfl) (lb rfl) (lb rfl) (lb rfl) (lb rfl)
  refine oLift st102 ?_
  rw [e102] at W102 C102
  show OG _ _ _ _ _ _ _ _ _ _ _ (mkF m 263 #[sR a, sI vl, sR b, sI (Int32.ofNat 1), sI kk, sI 1, sI 1, sI 1, sI 1] [(.int (fld c1))])
  refine oGo W102 [.aload_n 2, .iconst 0] (by decide +kernel) (ls' := #[sR a, sI vl, sR b, sI (Int32.ofNat 1), sI kk, sI 1, sI 1, sI 1, sI 1]) (st' := [(.int 0), (.ref b), (.int (fld c1))]) rfl rfl (pc' := 265) rfl ?_
  refine oGet W102 B (v := (.int d0)) (by decide) rfl (Or.inl ⟨rfl, rfl⟩) (by decide +kernel) ?_
  obtain ⟨v103, T103, L103, h103, vm103, W103, ⟨rfl, e103⟩, C103, st103⟩ := oCallS W102 (idx := 32) (pc := 266) (ls := #[sR a, sI vl, sR b, sI (Int32.ofNat 1), sI kk, sI 1, sI 1, sI 1, sI 1]) (st := [(.int (fld c1))]) (argsL := [(.int d0)]) (c_fo K) (fun x hx => nomatch hx) (wK K 135 rfl) (wK K 136 rfl) (wK K 3 rfl) (wK K 137 rfl) (by decide) (na := 1) rfl (by decide +kernel) rfl (stk := [(.int d0), (.int (fld c1))]) rfl (by decide +kernel) (V := 1) (lb rfl) (lb rfl) (lb rfl) (lb rfl) (lb rfl)
  refine oLift st103 ?_
  rw [e103] at W103 C103
  show OG _ _ _ _ _ _ _ _ _ _ _ (mkF m 269 #[sR a, sI vl, sR b, sI (Int32.ofNat 1), sI kk, sI 1, sI 1, sI 1, sI 1] [(.int (fld d0)), (.int (fld c1))])
  by_cases hc104 : (fld c1) = (fld d0)
  rotate_left
  · refine oIcT W103 (cd := .ne) (o := 7) (by decide +kernel) (XT.ii_ne_t hc104) (pc' := 276) (by decide) (by decide) ?_
    refine oGo W103 [.iconst 0, .istore 8, .iload 7, .iconst 1] (by decide +kernel) (ls' := #[sR a, sI vl, sR b, sI (Int32.ofNat 1), sI kk, sI 1, sI 1, sI 1, sI 0]) (st' := [(.int 1), (.int 1)]) rfl rfl (pc' := 282) rfl ?_
    refine oIcT W103 (cd := .le) (o := 33) (by decide +kernel) (XT.ii_le_t (by decide)) (pc' := 315) (by decide) (by decide) ?_
    refine oGo W103 [.iload 7, .iconst 2] (by decide +kernel) (ls' := #[sR a, sI vl, sR b, sI (Int32.ofNat 1), sI kk, sI 1, sI 1, sI 1, sI 0]) (st' := [(.int 2), (.int 1)]) rfl rfl (pc' := 318) rfl ?_
    refine oIcT W103 (cd := .le) (o := 33) (by decide +kernel) (XT.ii_le_t (by decide)) (pc' := 351) (by decide) (by decide) ?_
    refine oGo W103 [.iload 7, .iconst 3] (by decide +kernel) (ls' := #[sR a, sI vl, sR b, sI (Int32.ofNat 1), sI kk, sI 1, sI 1, sI 1, sI 0]) (st' := [(.int 3), (.int 1)]) rfl rfl (pc' := 354) rfl ?_
    refine oIcT W103 (cd := .le) (o := 33) (by decide +kernel) (XT.ii_le_t (by decide)) (pc' := 387) (by decide) (by decide) ?_
    refine oGo W103 [.iload 8] (by decide +kernel) (ls' := #[sR a, sI vl, sR b, sI (Int32.ofNat 1), sI kk, sI 1, sI 1, sI 1, sI 0]) (st' := [(.int 0)]) rfl rfl (pc' := 389) rfl ?_
    exact oRetN (by simp) W103 rfl (by decide +kernel) (lb rfl) (lb rfl) (fun vm' hv => ⟨_, rfl, rfl, Or.inr ⟨rfl, fun q => hc104 (by rw [Nm, hz] at q; simp at q; simp [q])⟩⟩)
  refine oIcF W103 (cd := .ne) (o := 7) (by decide +kernel) (XT.ii_ne_f hc104) (pc' := 272) rfl ?_
  refine oGo W103 [.iconst 1, .goto 4, .istore 8, .iload 7, .iconst 1] (by decide +kernel) (ls' := #[sR a, sI vl, sR b, sI (Int32.ofNat 1), sI kk, sI 1, sI 1, sI 1, sI 1]) (st' := [(.int 1), (.int 1)]) rfl rfl (pc' := 282) rfl ?_
  refine oIcT W103 (cd := .le) (o := 33) (by decide +kernel) (XT.ii_le_t (by decide)) (pc' := 315) (by decide) (by decide) ?_
  refine oGo W103 [.iload 7, .iconst 2] (by decide +kernel) (ls' := #[sR a, sI vl, sR b, sI (Int32.ofNat 1), sI kk, sI 1, sI 1, sI 1, sI 1]) (st' := [(.int 2), (.int 1)]) rfl rfl (pc' := 318) rfl ?_
  refine oIcT W103 (cd := .le) (o := 33) (by decide +kernel) (XT.ii_le_t (by decide)) (pc' := 351) (by decide) (by decide) ?_
  refine oGo W103 [.iload 7, .iconst 3] (by decide +kernel) (ls' := #[sR a, sI vl, sR b, sI (Int32.ofNat 1), sI kk, sI 1, sI 1, sI 1, sI 1]) (st' := [(.int 3), (.int 1)]) rfl rfl (pc' := 354) rfl ?_
  refine oIcT W103 (cd := .le) (o := 33) (by decide +kernel) (XT.ii_le_t (by decide)) (pc' := 387) (by decide) (by decide) ?_
  refine oGo W103 [.iload 8] (by decide +kernel) (ls' := #[sR a, sI vl, sR b, sI (Int32.ofNat 1), sI kk, sI 1, sI 1, sI 1, sI 1]) (st' := [(.int 1)]) rfl rfl (pc' := 389) rfl ?_
  exact oRetN (by simp) W103 rfl (by decide +kernel) (lb rfl) (lb rfl) (fun vm' hv => ⟨_, rfl, rfl, Or.inl ⟨rfl, by rw [Nm, hz]; simp [hc104]⟩⟩)

set_option maxRecDepth 65536 in
set_option maxHeartbeats 40000000 in
theorem c_exp_c0_3 {l : Launch} {Z : State} {a0 : Array Value} (K : Ctx Z a0) {nb : Bool} {a b : Addr} {ka kb : ClassId} {c0 c1 c2 c3 d0 d1 d2 d3 : Int32} {V U : Nat} (hV : V ≤ 4) (hU : U ≤ 4) {vl kk : Int32} {p : Program} {e : Env} {s : State} {m : MethodId} {args : Array Value} {below : List Frame} {meth : Method} {cc : Code} {h0 : Heap} {vm0 : Vm} {T0 : State} {lc : List Loc}
    (W0 : OW p l e rm_c_exp s m args below meth cc Z a0 EL nb "com/example/gentle_hub/gentlehub/server/MediaTypesNamesPinLaw" method_6_code 9 (some .boolean) "expected" vm0 T0 lc 0 0 h0) (A : OA Z h0 a ka .char [.int c0, .int c1, .int c2, .int c3]) (B : OA Z h0 b kb .char [.int d0, .int d1, .int d2, .int d3]) (hz : strp (ess (([c0, c1, c2, c3] : List Int32).take V)) = [c0, c1, c2]) :
    OG p e below s Z EL nb (fun v _ h => ∃ r, v = some (.int r) ∧ h = h0 ∧ ((r = 1 ∧ Nm (([c0, c1, c2, c3] : List Int32).take V) (([d0, d1, d2, d3] : List Int32).take U)) ∨ (r = 0 ∧ ¬ (Nm (([c0, c1, c2, c3] : List Int32).take V) (([d0, d1, d2, d3] : List Int32).take U))))) rm_c_exp.cells rm_c_exp.slots T0 (mkF m 215 #[sR a, sI vl, sR b, sI (Int32.ofNat U), sI kk, sI 0, sI 2, sU, sU] []) := by
  have hw := K.1
  have hS : ∀ a ∈ Bundle.stringAtoms, a.before a0 Z = true := K.2.2.1
  refine oGo W0 [.iload 5, .iload 6] (by decide +kernel) (ls' := #[sR a, sI vl, sR b, sI (Int32.ofNat U), sI kk, sI 0, sI 2, sU, sU]) (st' := [(.int 2), (.int 0)]) rfl rfl (pc' := 219) rfl ?_
  refine oIcF W0 (cd := .gt) (o := 13) (by decide +kernel) (XT.ii_gt_f (by decide)) (pc' := 222) rfl ?_
  refine oGo W0 [.iload 6, .iload 5, .isub, .iconst 1, .iadd, .goto 4, .istore 7, .iload 7, .iload_n 3] (by decide +kernel) (ls' := #[sR a, sI vl, sR b, sI (Int32.ofNat U), sI kk, sI 0, sI 2, sI 3, sU]) (st' := [(.int (Int32.ofNat U)), (.int 3)]) rfl rfl (pc' := 238) rfl ?_
  by_cases hc101 : (3 : Int32) = (Int32.ofNat U)
  rotate_left
  · refine oIcF W0 (cd := .eq) (o := 5) (by decide +kernel) (XT.ii_eq_f hc101) (pc' := 241) rfl ?_
    refine oGo W0 [.iconst 0] (by decide +kernel) (ls' := #[sR a, sI vl, sR b, sI (Int32.ofNat U), sI kk, sI 0, sI 2, sI 3, sU]) (st' := [(.int 0)]) rfl rfl (pc' := 242) rfl ?_
    exact oRetN (by simp) W0 rfl (by decide +kernel) (lb rfl) (lb rfl) (fun vm' hv => ⟨_, rfl, rfl, Or.inr ⟨rfl, fun q => hc101 (by have z := congrArg List.length q; rw [hz, List.length_map, List.length_map, List.length_take] at z; rw [show U = 3 from by simp at z; omega]; rfl)⟩⟩)
  refine oIcT W0 (cd := .eq) (o := 5) (by decide +kernel) (XT.ii_eq_t hc101) (pc' := 243) (by decide) (by decide) ?_
  obtain rfl : U = 3 := ofNat_inj (b := 3) (by omega) (by omega) hc101.symm
  refine oGo W0 [.iconst 1, .istore 8, .iload 7] (by decide +kernel) (ls' := #[sR a, sI vl, sR b, sI (Int32.ofNat 3), sI kk, sI 0, sI 2, sI 3, sI 1]) (st' := [(.int 3)]) rfl rfl (pc' := 248) rfl ?_
  refine oIfF W0 (cd := .le) (o := 31) (by decide +kernel) (XT.i0_le_f (by decide)) (pc' := 251) rfl ?_
  refine oGo W0 [.iload 8] (by decide +kernel) (ls' := #[sR a, sI vl, sR b, sI (Int32.ofNat 3), sI kk, sI 0, sI 2, sI 3, sI 1]) (st' := [(.int 1)]) rfl rfl (pc' := 253) rfl ?_
  refine oIfF W0 (cd := .eq) (o := 23) (by decide +kernel) (XT.i0_eq_f (by decide)) (pc' := 256) rfl ?_
  refine oGo W0 [.aload_n 0, .iload 5] (by decide +kernel) (ls' := #[sR a, sI vl, sR b, sI (Int32.ofNat 3), sI kk, sI 0, sI 2, sI 3, sI 1]) (st' := [(.int 0), (.ref a)]) rfl rfl (pc' := 259) rfl ?_
  refine oGet W0 A (v := (.int c0)) (by decide) rfl (Or.inl ⟨rfl, rfl⟩) (by decide +kernel) ?_
  obtain ⟨v102, T102, L102, h102, vm102, W102, ⟨rfl, e102⟩, C102, st102⟩ := oCallS W0 (idx := 32) (pc := 260) (ls := #[sR a, sI vl, sR b, sI (Int32.ofNat 3), sI kk, sI 0, sI 2, sI 3, sI 1]) (st := []) (argsL := [(.int c0)]) (c_fo K) (fun x hx => nomatch hx) (wK K 135 rfl) (wK K 136 rfl) (wK K 3 rfl) (wK K 137 rfl) (by decide) (na := 1) rfl (by decide +kernel) rfl (stk := [(.int c0)]) rfl (by decide +kernel) (V := 0) (lb rfl) (lb rfl) (lb rfl) (lb rfl) (lb rfl)
  refine oLift st102 ?_
  rw [e102] at W102 C102
  show OG _ _ _ _ _ _ _ _ _ _ _ (mkF m 263 #[sR a, sI vl, sR b, sI (Int32.ofNat 3), sI kk, sI 0, sI 2, sI 3, sI 1] [(.int (fld c0))])
  refine oGo W102 [.aload_n 2, .iconst 0] (by decide +kernel) (ls' := #[sR a, sI vl, sR b, sI (Int32.ofNat 3), sI kk, sI 0, sI 2, sI 3, sI 1]) (st' := [(.int 0), (.ref b), (.int (fld c0))]) rfl rfl (pc' := 265) rfl ?_
  refine oGet W102 B (v := (.int d0)) (by decide) rfl (Or.inl ⟨rfl, rfl⟩) (by decide +kernel) ?_
  obtain ⟨v103, T103, L103, h103, vm103, W103, ⟨rfl, e103⟩, C103, st103⟩ := oCallS W102 (idx := 32) (pc := 266) (ls := #[sR a, sI vl, sR b, sI (Int32.ofNat 3), sI kk, sI 0, sI 2, sI 3, sI 1]) (st := [(.int (fld c0))]) (argsL := [(.int d0)]) (c_fo K) (fun x hx => nomatch hx) (wK K 135 rfl) (wK K 136 rfl) (wK K 3 rfl) (wK K 137 rfl) (by decide) (na := 1) rfl (by decide +kernel) rfl (stk := [(.int d0), (.int (fld c0))]) rfl (by decide +kernel) (V := 1) (lb rfl) (lb rfl) (lb rfl) (lb rfl) (lb rfl)
  refine oLift st103 ?_
  rw [e103] at W103 C103
  show OG _ _ _ _ _ _ _ _ _ _ _ (mkF m 269 #[sR a, sI vl, sR b, sI (Int32.ofNat 3), sI kk, sI 0, sI 2, sI 3, sI 1] [(.int (fld d0)), (.int (fld c0))])
  by_cases hc104 : (fld c0) = (fld d0)
  rotate_left
  · refine oIcT W103 (cd := .ne) (o := 7) (by decide +kernel) (XT.ii_ne_t hc104) (pc' := 276) (by decide) (by decide) ?_
    refine oGo W103 [.iconst 0, .istore 8, .iload 7, .iconst 1] (by decide +kernel) (ls' := #[sR a, sI vl, sR b, sI (Int32.ofNat 3), sI kk, sI 0, sI 2, sI 3, sI 0]) (st' := [(.int 1), (.int 3)]) rfl rfl (pc' := 282) rfl ?_
    refine oIcF W103 (cd := .le) (o := 33) (by decide +kernel) (XT.ii_le_f (by decide)) (pc' := 285) rfl ?_
    refine oGo W103 [.iload 8] (by decide +kernel) (ls' := #[sR a, sI vl, sR b, sI (Int32.ofNat 3), sI kk, sI 0, sI 2, sI 3, sI 0]) (st' := [(.int 0)]) rfl rfl (pc' := 287) rfl ?_
    refine oIfT W103 (cd := .eq) (o := 25) (by decide +kernel) (XT.i0_eq_t (by decide)) (pc' := 312) (by decide) (by decide) ?_
    refine oGo W103 [.iconst 0, .istore 8, .iload 7, .iconst 2] (by decide +kernel) (ls' := #[sR a, sI vl, sR b, sI (Int32.ofNat 3), sI kk, sI 0, sI 2, sI 3, sI 0]) (st' := [(.int 2), (.int 3)]) rfl rfl (pc' := 318) rfl ?_
    refine oIcF W103 (cd := .le) (o := 33) (by decide +kernel) (XT.ii_le_f (by decide)) (pc' := 321) rfl ?_
    refine oGo W103 [.iload 8] (by decide +kernel) (ls' := #[sR a, sI vl, sR b, sI (Int32.ofNat 3), sI kk, sI 0, sI 2, sI 3, sI 0]) (st' := [(.int 0)]) rfl rfl (pc' := 323) rfl ?_
    refine oIfT W103 (cd := .eq) (o := 25) (by decide +kernel) (XT.i0_eq_t (by decide)) (pc' := 348) (by decide) (by decide) ?_
    refine oGo W103 [.iconst 0, .istore 8, .iload 7, .iconst 3] (by decide +kernel) (ls' := #[sR a, sI vl, sR b, sI (Int32.ofNat 3), sI kk, sI 0, sI 2, sI 3, sI 0]) (st' := [(.int 3), (.int 3)]) rfl rfl (pc' := 354) rfl ?_
    refine oIcT W103 (cd := .le) (o := 33) (by decide +kernel) (XT.ii_le_t (by decide)) (pc' := 387) (by decide) (by decide) ?_
    refine oGo W103 [.iload 8] (by decide +kernel) (ls' := #[sR a, sI vl, sR b, sI (Int32.ofNat 3), sI kk, sI 0, sI 2, sI 3, sI 0]) (st' := [(.int 0)]) rfl rfl (pc' := 389) rfl ?_
    exact oRetN (by simp) W103 rfl (by decide +kernel) (lb rfl) (lb rfl) (fun vm' hv => ⟨_, rfl, rfl, Or.inr ⟨rfl, fun q => hc104 (by rw [Nm, hz] at q; simp at q; simp [q])⟩⟩)
  refine oIcF W103 (cd := .ne) (o := 7) (by decide +kernel) (XT.ii_ne_f hc104) (pc' := 272) rfl ?_
  refine oGo W103 [.iconst 1, .goto 4, .istore 8, .iload 7, .iconst 1] (by decide +kernel) (ls' := #[sR a, sI vl, sR b, sI (Int32.ofNat 3), sI kk, sI 0, sI 2, sI 3, sI 1]) (st' := [(.int 1), (.int 3)]) rfl rfl (pc' := 282) rfl ?_
  refine oIcF W103 (cd := .le) (o := 33) (by decide +kernel) (XT.ii_le_f (by decide)) (pc' := 285) rfl ?_
  refine oGo W103 [.iload 8] (by decide +kernel) (ls' := #[sR a, sI vl, sR b, sI (Int32.ofNat 3), sI kk, sI 0, sI 2, sI 3, sI 1]) (st' := [(.int 1)]) rfl rfl (pc' := 287) rfl ?_
  refine oIfF W103 (cd := .eq) (o := 25) (by decide +kernel) (XT.i0_eq_f (by decide)) (pc' := 290) rfl ?_
  refine oGo W103 [.aload_n 0, .iload 5, .iconst 1, .iadd] (by decide +kernel) (ls' := #[sR a, sI vl, sR b, sI (Int32.ofNat 3), sI kk, sI 0, sI 2, sI 3, sI 1]) (st' := [(.int 1), (.ref a)]) rfl rfl (pc' := 295) rfl ?_
  refine oGet W103 A (v := (.int c1)) (by decide) rfl (Or.inl ⟨rfl, rfl⟩) (by decide +kernel) ?_
  obtain ⟨v105, T105, L105, h105, vm105, W105, ⟨rfl, e105⟩, C105, st105⟩ := oCallS W103 (idx := 32) (pc := 296) (ls := #[sR a, sI vl, sR b, sI (Int32.ofNat 3), sI kk, sI 0, sI 2, sI 3, sI 1]) (st := []) (argsL := [(.int c1)]) (c_fo K) (fun x hx => nomatch hx) (wK K 135 rfl) (wK K 136 rfl) (wK K 3 rfl) (wK K 137 rfl) (by decide) (na := 1) rfl (by decide +kernel) rfl (stk := [(.int c1)]) rfl (by decide +kernel) (V := 0) (lb rfl) (lb rfl) (lb rfl) (lb rfl) (lb rfl)
  refine oLift st105 ?_
  rw [e105] at W105 C105
  show OG _ _ _ _ _ _ _ _ _ _ _ (mkF m 299 #[sR a, sI vl, sR b, sI (Int32.ofNat 3), sI kk, sI 0, sI 2, sI 3, sI 1] [(.int (fld c1))])
  refine oGo W105 [.aload_n 2, .iconst 1] (by decide +kernel) (ls' := #[sR a, sI vl, sR b, sI (Int32.ofNat 3), sI kk, sI 0, sI 2, sI 3, sI 1]) (st' := [(.int 1), (.ref b), (.int (fld c1))]) rfl rfl (pc' := 301) rfl ?_
  refine oGet W105 B (v := (.int d1)) (by decide) rfl (Or.inl ⟨rfl, rfl⟩) (by decide +kernel) ?_
  obtain ⟨v106, T106, L106, h106, vm106, W106, ⟨rfl, e106⟩, C106, st106⟩ := oCallS W105 (idx := 32) (pc := 302) (ls := #[sR a, sI vl, sR b, sI (Int32.ofNat 3), sI kk, sI 0, sI 2, sI 3, sI 1]) (st := [(.int (fld c1))]) (argsL := [(.int d1)]) (c_fo K) (fun x hx => nomatch hx) (wK K 135 rfl) (wK K 136 rfl) (wK K 3 rfl) (wK K 137 rfl) (by decide) (na := 1) rfl (by decide +kernel) rfl (stk := [(.int d1), (.int (fld c1))]) rfl (by decide +kernel) (V := 1) (lb rfl) (lb rfl) (lb rfl) (lb rfl) (lb rfl)
  refine oLift st106 ?_
  rw [e106] at W106 C106
  show OG _ _ _ _ _ _ _ _ _ _ _ (mkF m 305 #[sR a, sI vl, sR b, sI (Int32.ofNat 3), sI kk, sI 0, sI 2, sI 3, sI 1] [(.int (fld d1)), (.int (fld c1))])
  by_cases hc107 : (fld c1) = (fld d1)
  rotate_left
  · refine oIcT W106 (cd := .ne) (o := 7) (by decide +kernel) (XT.ii_ne_t hc107) (pc' := 312) (by decide) (by decide) ?_
    refine oGo W106 [.iconst 0, .istore 8, .iload 7, .iconst 2] (by decide +kernel) (ls' := #[sR a, sI vl, sR b, sI (Int32.ofNat 3), sI kk, sI 0, sI 2, sI 3, sI 0]) (st' := [(.int 2), (.int 3)]) rfl rfl (pc' := 318) rfl ?_
    refine oIcF W106 (cd := .le) (o := 33) (by decide +kernel) (XT.ii_le_f (by decide)) (pc' := 321) rfl ?_
    refine oGo W106 [.iload 8] (by decide +kernel) (ls' := #[sR a, sI vl, sR b, sI (Int32.ofNat 3), sI kk, sI 0, sI 2, sI 3, sI 0]) (st' := [(.int 0)]) rfl rfl (pc' := 323) rfl ?_
    refine oIfT W106 (cd := .eq) (o := 25) (by decide +kernel) (XT.i0_eq_t (by decide)) (pc' := 348) (by decide) (by decide) ?_
    refine oGo W106 [.iconst 0, .istore 8, .iload 7, .iconst 3] (by decide +kernel) (ls' := #[sR a, sI vl, sR b, sI (Int32.ofNat 3), sI kk, sI 0, sI 2, sI 3, sI 0]) (st' := [(.int 3), (.int 3)]) rfl rfl (pc' := 354) rfl ?_
    refine oIcT W106 (cd := .le) (o := 33) (by decide +kernel) (XT.ii_le_t (by decide)) (pc' := 387) (by decide) (by decide) ?_
    refine oGo W106 [.iload 8] (by decide +kernel) (ls' := #[sR a, sI vl, sR b, sI (Int32.ofNat 3), sI kk, sI 0, sI 2, sI 3, sI 0]) (st' := [(.int 0)]) rfl rfl (pc' := 389) rfl ?_
    exact oRetN (by simp) W106 rfl (by decide +kernel) (lb rfl) (lb rfl) (fun vm' hv => ⟨_, rfl, rfl, Or.inr ⟨rfl, fun q => hc107 (by rw [Nm, hz] at q; simp at q; simp [q])⟩⟩)
  refine oIcF W106 (cd := .ne) (o := 7) (by decide +kernel) (XT.ii_ne_f hc107) (pc' := 308) rfl ?_
  refine oGo W106 [.iconst 1, .goto 4, .istore 8, .iload 7, .iconst 2] (by decide +kernel) (ls' := #[sR a, sI vl, sR b, sI (Int32.ofNat 3), sI kk, sI 0, sI 2, sI 3, sI 1]) (st' := [(.int 2), (.int 3)]) rfl rfl (pc' := 318) rfl ?_
  refine oIcF W106 (cd := .le) (o := 33) (by decide +kernel) (XT.ii_le_f (by decide)) (pc' := 321) rfl ?_
  refine oGo W106 [.iload 8] (by decide +kernel) (ls' := #[sR a, sI vl, sR b, sI (Int32.ofNat 3), sI kk, sI 0, sI 2, sI 3, sI 1]) (st' := [(.int 1)]) rfl rfl (pc' := 323) rfl ?_
  refine oIfF W106 (cd := .eq) (o := 25) (by decide +kernel) (XT.i0_eq_f (by decide)) (pc' := 326) rfl ?_
  refine oGo W106 [.aload_n 0, .iload 5, .iconst 2, .iadd] (by decide +kernel) (ls' := #[sR a, sI vl, sR b, sI (Int32.ofNat 3), sI kk, sI 0, sI 2, sI 3, sI 1]) (st' := [(.int 2), (.ref a)]) rfl rfl (pc' := 331) rfl ?_
  refine oGet W106 A (v := (.int c2)) (by decide) rfl (Or.inl ⟨rfl, rfl⟩) (by decide +kernel) ?_
  obtain ⟨v108, T108, L108, h108, vm108, W108, ⟨rfl, e108⟩, C108, st108⟩ := oCallS W106 (idx := 32) (pc := 332) (ls := #[sR a, sI vl, sR b, sI (Int32.ofNat 3), sI kk, sI 0, sI 2, sI 3, sI 1]) (st := []) (argsL := [(.int c2)]) (c_fo K) (fun x hx => nomatch hx) (wK K 135 rfl) (wK K 136 rfl) (wK K 3 rfl) (wK K 137 rfl) (by decide) (na := 1) rfl (by decide +kernel) rfl (stk := [(.int c2)]) rfl (by decide +kernel) (V := 0) (lb rfl) (lb rfl) (lb rfl) (lb rfl) (lb rfl)
  refine oLift st108 ?_
  rw [e108] at W108 C108
  show OG _ _ _ _ _ _ _ _ _ _ _ (mkF m 335 #[sR a, sI vl, sR b, sI (Int32.ofNat 3), sI kk, sI 0, sI 2, sI 3, sI 1] [(.int (fld c2))])
  refine oGo W108 [.aload_n 2, .iconst 2] (by decide +kernel) (ls' := #[sR a, sI vl, sR b, sI (Int32.ofNat 3), sI kk, sI 0, sI 2, sI 3, sI 1]) (st' := [(.int 2), (.ref b), (.int (fld c2))]) rfl rfl (pc' := 337) rfl ?_
  refine oGet W108 B (v := (.int d2)) (by decide) rfl (Or.inl ⟨rfl, rfl⟩) (by decide +kernel) ?_
  obtain ⟨v109, T109, L109, h109, vm109, W109, ⟨rfl, e109⟩, C109, st109⟩ := oCallS W108 (idx := 32) (pc := 338) (ls := #[sR a, sI vl, sR b, sI (Int32.ofNat 3), sI kk, sI 0, sI 2, sI 3, sI 1]) (st := [(.int (fld c2))]) (argsL := [(.int d2)]) (c_fo K) (fun x hx => nomatch hx) (wK K 135 rfl) (wK K 136 rfl) (wK K 3 rfl) (wK K 137 rfl) (by decide) (na := 1) rfl (by decide +kernel) rfl (stk := [(.int d2), (.int (fld c2))]) rfl (by decide +kernel) (V := 1) (lb rfl) (lb rfl) (lb rfl) (lb rfl) (lb rfl)
  refine oLift st109 ?_
  rw [e109] at W109 C109
  show OG _ _ _ _ _ _ _ _ _ _ _ (mkF m 341 #[sR a, sI vl, sR b, sI (Int32.ofNat 3), sI kk, sI 0, sI 2, sI 3, sI 1] [(.int (fld d2)), (.int (fld c2))])
  by_cases hc110 : (fld c2) = (fld d2)
  rotate_left
  · refine oIcT W109 (cd := .ne) (o := 7) (by decide +kernel) (XT.ii_ne_t hc110) (pc' := 348) (by decide) (by decide) ?_
    refine oGo W109 [.iconst 0, .istore 8, .iload 7, .iconst 3] (by decide +kernel) (ls' := #[sR a, sI vl, sR b, sI (Int32.ofNat 3), sI kk, sI 0, sI 2, sI 3, sI 0]) (st' := [(.int 3), (.int 3)]) rfl rfl (pc' := 354) rfl ?_
    refine oIcT W109 (cd := .le) (o := 33) (by decide +kernel) (XT.ii_le_t (by decide)) (pc' := 387) (by decide) (by decide) ?_
    refine oGo W109 [.iload 8] (by decide +kernel) (ls' := #[sR a, sI vl, sR b, sI (Int32.ofNat 3), sI kk, sI 0, sI 2, sI 3, sI 0]) (st' := [(.int 0)]) rfl rfl (pc' := 389) rfl ?_
    exact oRetN (by simp) W109 rfl (by decide +kernel) (lb rfl) (lb rfl) (fun vm' hv => ⟨_, rfl, rfl, Or.inr ⟨rfl, fun q => hc110 (by rw [Nm, hz] at q; simp at q; simp [q])⟩⟩)
  refine oIcF W109 (cd := .ne) (o := 7) (by decide +kernel) (XT.ii_ne_f hc110) (pc' := 344) rfl ?_
  refine oGo W109 [.iconst 1, .goto 4, .istore 8, .iload 7, .iconst 3] (by decide +kernel) (ls' := #[sR a, sI vl, sR b, sI (Int32.ofNat 3), sI kk, sI 0, sI 2, sI 3, sI 1]) (st' := [(.int 3), (.int 3)]) rfl rfl (pc' := 354) rfl ?_
  refine oIcT W109 (cd := .le) (o := 33) (by decide +kernel) (XT.ii_le_t (by decide)) (pc' := 387) (by decide) (by decide) ?_
  refine oGo W109 [.iload 8] (by decide +kernel) (ls' := #[sR a, sI vl, sR b, sI (Int32.ofNat 3), sI kk, sI 0, sI 2, sI 3, sI 1]) (st' := [(.int 1)]) rfl rfl (pc' := 389) rfl ?_
  exact oRetN (by simp) W109 rfl (by decide +kernel) (lb rfl) (lb rfl) (fun vm' hv => ⟨_, rfl, rfl, Or.inl ⟨rfl, by rw [Nm, hz]; simp [hc104, hc107, hc110]⟩⟩)

set_option maxRecDepth 65536 in
set_option maxHeartbeats 40000000 in
theorem c_exp_c1_3 {l : Launch} {Z : State} {a0 : Array Value} (K : Ctx Z a0) {nb : Bool} {a b : Addr} {ka kb : ClassId} {c0 c1 c2 c3 d0 d1 d2 d3 : Int32} {V U : Nat} (hV : V ≤ 4) (hU : U ≤ 4) {vl kk : Int32} {p : Program} {e : Env} {s : State} {m : MethodId} {args : Array Value} {below : List Frame} {meth : Method} {cc : Code} {h0 : Heap} {vm0 : Vm} {T0 : State} {lc : List Loc}
    (W0 : OW p l e rm_c_exp s m args below meth cc Z a0 EL nb "com/example/gentle_hub/gentlehub/server/MediaTypesNamesPinLaw" method_6_code 9 (some .boolean) "expected" vm0 T0 lc 0 0 h0) (A : OA Z h0 a ka .char [.int c0, .int c1, .int c2, .int c3]) (B : OA Z h0 b kb .char [.int d0, .int d1, .int d2, .int d3]) (hz : strp (ess (([c0, c1, c2, c3] : List Int32).take V)) = [c1, c2]) :
    OG p e below s Z EL nb (fun v _ h => ∃ r, v = some (.int r) ∧ h = h0 ∧ ((r = 1 ∧ Nm (([c0, c1, c2, c3] : List Int32).take V) (([d0, d1, d2, d3] : List Int32).take U)) ∨ (r = 0 ∧ ¬ (Nm (([c0, c1, c2, c3] : List Int32).take V) (([d0, d1, d2, d3] : List Int32).take U))))) rm_c_exp.cells rm_c_exp.slots T0 (mkF m 215 #[sR a, sI vl, sR b, sI (Int32.ofNat U), sI kk, sI 1, sI 2, sU, sU] []) := by
  have hw := K.1
  have hS : ∀ a ∈ Bundle.stringAtoms, a.before a0 Z = true := K.2.2.1
  refine oGo W0 [.iload 5, .iload 6] (by decide +kernel) (ls' := #[sR a, sI vl, sR b, sI (Int32.ofNat U), sI kk, sI 1, sI 2, sU, sU]) (st' := [(.int 2), (.int 1)]) rfl rfl (pc' := 219) rfl ?_
  refine oIcF W0 (cd := .gt) (o := 13) (by decide +kernel) (XT.ii_gt_f (by decide)) (pc' := 222) rfl ?_
  refine oGo W0 [.iload 6, .iload 5, .isub, .iconst 1, .iadd, .goto 4, .istore 7, .iload 7, .iload_n 3] (by decide +kernel) (ls' := #[sR a, sI vl, sR b, sI (Int32.ofNat U), sI kk, sI 1, sI 2, sI 2, sU]) (st' := [(.int (Int32.ofNat U)), (.int 2)]) rfl rfl (pc' := 238) rfl ?_
  by_cases hc101 : (2 : Int32) = (Int32.ofNat U)
  rotate_left
  · refine oIcF W0 (cd := .eq) (o := 5) (by decide +kernel) (XT.ii_eq_f hc101) (pc' := 241) rfl ?_
    refine oGo W0 [.iconst 0] (by decide +kernel) (ls' := #[sR a, sI vl, sR b, sI (Int32.ofNat U), sI kk, sI 1, sI 2, sI 2, sU]) (st' := [(.int 0)]) rfl rfl (pc' := 242) rfl ?_
    exact oRetN (by simp) W0 rfl (by decide +kernel) (lb rfl) (lb rfl) (fun vm' hv => ⟨_, rfl, rfl, Or.inr ⟨rfl, fun q => hc101 (by have z := congrArg List.length q; rw [hz, List.length_map, List.length_map, List.length_take] at z; rw [show U = 2 from by simp at z; omega]; rfl)⟩⟩)
  refine oIcT W0 (cd := .eq) (o := 5) (by decide +kernel) (XT.ii_eq_t hc101) (pc' := 243) (by decide) (by decide) ?_
  obtain rfl : U = 2 := ofNat_inj (b := 2) (by omega) (by omega) hc101.symm
  refine oGo W0 [.iconst 1, .istore 8, .iload 7] (by decide +kernel) (ls' := #[sR a, sI vl, sR b, sI (Int32.ofNat 2), sI kk, sI 1, sI 2, sI 2, sI 1]) (st' := [(.int 2)]) rfl rfl (pc' := 248) rfl ?_
  refine oIfF W0 (cd := .le) (o := 31) (by decide +kernel) (XT.i0_le_f (by decide)) (pc' := 251) rfl ?_
  refine oGo W0 [.iload 8] (by decide +kernel) (ls' := #[sR a, sI vl, sR b, sI (Int32.ofNat 2), sI kk, sI 1, sI 2, sI 2, sI 1]) (st' := [(.int 1)]) rfl rfl (pc' := 253) rfl ?_
  refine oIfF W0 (cd := .eq) (o := 23) (by decide +kernel) (XT.i0_eq_f (by decide)) (pc' := 256) rfl ?_
  refine oGo W0 [.aload_n 0, .iload 5] (by decide +kernel) (ls' := #[sR a, sI vl, sR b, sI (Int32.ofNat 2), sI kk, sI 1, sI 2, sI 2, sI 1]) (st' := [(.int 1), (.ref a)]) rfl rfl (pc' := 259) rfl ?_
  refine oGet W0 A (v := (.int c1)) (by decide) rfl (Or.inl ⟨rfl, rfl⟩) (by decide +kernel) ?_
  obtain ⟨v102, T102, L102, h102, vm102, W102, ⟨rfl, e102⟩, C102, st102⟩ := oCallS W0 (idx := 32) (pc := 260) (ls := #[sR a, sI vl, sR b, sI (Int32.ofNat 2), sI kk, sI 1, sI 2, sI 2, sI 1]) (st := []) (argsL := [(.int c1)]) (c_fo K) (fun x hx => nomatch hx) (wK K 135 rfl) (wK K 136 rfl) (wK K 3 rfl) (wK K 137 rfl) (by decide) (na := 1) rfl (by decide +kernel) rfl (stk := [(.int c1)]) rfl (by decide +kernel) (V := 0) (lb rfl) (lb rfl) (lb rfl) (lb rfl) (lb rfl)
  refine oLift st102 ?_
  rw [e102] at W102 C102
  show OG _ _ _ _ _ _ _ _ _ _ _ (mkF m 263 #[sR a, sI vl, sR b, sI (Int32.ofNat 2), sI kk, sI 1, sI 2, sI 2, sI 1] [(.int (fld c1))])
  refine oGo W102 [.aload_n 2, .iconst 0] (by decide +kernel) (ls' := #[sR a, sI vl, sR b, sI (Int32.ofNat 2), sI kk, sI 1, sI 2, sI 2, sI 1]) (st' := [(.int 0), (.ref b), (.int (fld c1))]) rfl rfl (pc' := 265) rfl ?_
  refine oGet W102 B (v := (.int d0)) (by decide) rfl (Or.inl ⟨rfl, rfl⟩) (by decide +kernel) ?_
  obtain ⟨v103, T103, L103, h103, vm103, W103, ⟨rfl, e103⟩, C103, st103⟩ := oCallS W102 (idx := 32) (pc := 266) (ls := #[sR a, sI vl, sR b, sI (Int32.ofNat 2), sI kk, sI 1, sI 2, sI 2, sI 1]) (st := [(.int (fld c1))]) (argsL := [(.int d0)]) (c_fo K) (fun x hx => nomatch hx) (wK K 135 rfl) (wK K 136 rfl) (wK K 3 rfl) (wK K 137 rfl) (by decide) (na := 1) rfl (by decide +kernel) rfl (stk := [(.int d0), (.int (fld c1))]) rfl (by decide +kernel) (V := 1) (lb rfl) (lb rfl) (lb rfl) (lb rfl) (lb rfl)
  refine oLift st103 ?_
  rw [e103] at W103 C103
  show OG _ _ _ _ _ _ _ _ _ _ _ (mkF m 269 #[sR a, sI vl, sR b, sI (Int32.ofNat 2), sI kk, sI 1, sI 2, sI 2, sI 1] [(.int (fld d0)), (.int (fld c1))])
  by_cases hc104 : (fld c1) = (fld d0)
  rotate_left
  · refine oIcT W103 (cd := .ne) (o := 7) (by decide +kernel) (XT.ii_ne_t hc104) (pc' := 276) (by decide) (by decide) ?_
    refine oGo W103 [.iconst 0, .istore 8, .iload 7, .iconst 1] (by decide +kernel) (ls' := #[sR a, sI vl, sR b, sI (Int32.ofNat 2), sI kk, sI 1, sI 2, sI 2, sI 0]) (st' := [(.int 1), (.int 2)]) rfl rfl (pc' := 282) rfl ?_
    refine oIcF W103 (cd := .le) (o := 33) (by decide +kernel) (XT.ii_le_f (by decide)) (pc' := 285) rfl ?_
    refine oGo W103 [.iload 8] (by decide +kernel) (ls' := #[sR a, sI vl, sR b, sI (Int32.ofNat 2), sI kk, sI 1, sI 2, sI 2, sI 0]) (st' := [(.int 0)]) rfl rfl (pc' := 287) rfl ?_
    refine oIfT W103 (cd := .eq) (o := 25) (by decide +kernel) (XT.i0_eq_t (by decide)) (pc' := 312) (by decide) (by decide) ?_
    refine oGo W103 [.iconst 0, .istore 8, .iload 7, .iconst 2] (by decide +kernel) (ls' := #[sR a, sI vl, sR b, sI (Int32.ofNat 2), sI kk, sI 1, sI 2, sI 2, sI 0]) (st' := [(.int 2), (.int 2)]) rfl rfl (pc' := 318) rfl ?_
    refine oIcT W103 (cd := .le) (o := 33) (by decide +kernel) (XT.ii_le_t (by decide)) (pc' := 351) (by decide) (by decide) ?_
    refine oGo W103 [.iload 7, .iconst 3] (by decide +kernel) (ls' := #[sR a, sI vl, sR b, sI (Int32.ofNat 2), sI kk, sI 1, sI 2, sI 2, sI 0]) (st' := [(.int 3), (.int 2)]) rfl rfl (pc' := 354) rfl ?_
    refine oIcT W103 (cd := .le) (o := 33) (by decide +kernel) (XT.ii_le_t (by decide)) (pc' := 387) (by decide) (by decide) ?_
    refine oGo W103 [.iload 8] (by decide +kernel) (ls' := #[sR a, sI vl, sR b, sI (Int32.ofNat 2), sI kk, sI 1, sI 2, sI 2, sI 0]) (st' := [(.int 0)]) rfl rfl (pc' := 389) rfl ?_
    exact oRetN (by simp) W103 rfl (by decide +kernel) (lb rfl) (lb rfl) (fun vm' hv => ⟨_, rfl, rfl, Or.inr ⟨rfl, fun q => hc104 (by rw [Nm, hz] at q; simp at q; simp [q])⟩⟩)
  refine oIcF W103 (cd := .ne) (o := 7) (by decide +kernel) (XT.ii_ne_f hc104) (pc' := 272) rfl ?_
  refine oGo W103 [.iconst 1, .goto 4, .istore 8, .iload 7, .iconst 1] (by decide +kernel) (ls' := #[sR a, sI vl, sR b, sI (Int32.ofNat 2), sI kk, sI 1, sI 2, sI 2, sI 1]) (st' := [(.int 1), (.int 2)]) rfl rfl (pc' := 282) rfl ?_
  refine oIcF W103 (cd := .le) (o := 33) (by decide +kernel) (XT.ii_le_f (by decide)) (pc' := 285) rfl ?_
  refine oGo W103 [.iload 8] (by decide +kernel) (ls' := #[sR a, sI vl, sR b, sI (Int32.ofNat 2), sI kk, sI 1, sI 2, sI 2, sI 1]) (st' := [(.int 1)]) rfl rfl (pc' := 287) rfl ?_
  refine oIfF W103 (cd := .eq) (o := 25) (by decide +kernel) (XT.i0_eq_f (by decide)) (pc' := 290) rfl ?_
  refine oGo W103 [.aload_n 0, .iload 5, .iconst 1, .iadd] (by decide +kernel) (ls' := #[sR a, sI vl, sR b, sI (Int32.ofNat 2), sI kk, sI 1, sI 2, sI 2, sI 1]) (st' := [(.int 2), (.ref a)]) rfl rfl (pc' := 295) rfl ?_
  refine oGet W103 A (v := (.int c2)) (by decide) rfl (Or.inl ⟨rfl, rfl⟩) (by decide +kernel) ?_
  obtain ⟨v105, T105, L105, h105, vm105, W105, ⟨rfl, e105⟩, C105, st105⟩ := oCallS W103 (idx := 32) (pc := 296) (ls := #[sR a, sI vl, sR b, sI (Int32.ofNat 2), sI kk, sI 1, sI 2, sI 2, sI 1]) (st := []) (argsL := [(.int c2)]) (c_fo K) (fun x hx => nomatch hx) (wK K 135 rfl) (wK K 136 rfl) (wK K 3 rfl) (wK K 137 rfl) (by decide) (na := 1) rfl (by decide +kernel) rfl (stk := [(.int c2)]) rfl (by decide +kernel) (V := 0) (lb rfl) (lb rfl) (lb rfl) (lb rfl) (lb rfl)
  refine oLift st105 ?_
  rw [e105] at W105 C105
  show OG _ _ _ _ _ _ _ _ _ _ _ (mkF m 299 #[sR a, sI vl, sR b, sI (Int32.ofNat 2), sI kk, sI 1, sI 2, sI 2, sI 1] [(.int (fld c2))])
  refine oGo W105 [.aload_n 2, .iconst 1] (by decide +kernel) (ls' := #[sR a, sI vl, sR b, sI (Int32.ofNat 2), sI kk, sI 1, sI 2, sI 2, sI 1]) (st' := [(.int 1), (.ref b), (.int (fld c2))]) rfl rfl (pc' := 301) rfl ?_
  refine oGet W105 B (v := (.int d1)) (by decide) rfl (Or.inl ⟨rfl, rfl⟩) (by decide +kernel) ?_
  obtain ⟨v106, T106, L106, h106, vm106, W106, ⟨rfl, e106⟩, C106, st106⟩ := oCallS W105 (idx := 32) (pc := 302) (ls := #[sR a, sI vl, sR b, sI (Int32.ofNat 2), sI kk, sI 1, sI 2, sI 2, sI 1]) (st := [(.int (fld c2))]) (argsL := [(.int d1)]) (c_fo K) (fun x hx => nomatch hx) (wK K 135 rfl) (wK K 136 rfl) (wK K 3 rfl) (wK K 137 rfl) (by decide) (na := 1) rfl (by decide +kernel) rfl (stk := [(.int d1), (.int (fld c2))]) rfl (by decide +kernel) (V := 1) (lb rfl) (lb rfl) (lb rfl) (lb rfl) (lb rfl)
  refine oLift st106 ?_
  rw [e106] at W106 C106
  show OG _ _ _ _ _ _ _ _ _ _ _ (mkF m 305 #[sR a, sI vl, sR b, sI (Int32.ofNat 2), sI kk, sI 1, sI 2, sI 2, sI 1] [(.int (fld d1)), (.int (fld c2))])
  by_cases hc107 : (fld c2) = (fld d1)
  rotate_left
  · refine oIcT W106 (cd := .ne) (o := 7) (by decide +kernel) (XT.ii_ne_t hc107) (pc' := 312) (by decide) (by decide) ?_
    refine oGo W106 [.iconst 0, .istore 8, .iload 7, .iconst 2] (by decide +kernel) (ls' := #[sR a, sI vl, sR b, sI (Int32.ofNat 2), sI kk, sI 1, sI 2, sI 2, sI 0]) (st' := [(.int 2), (.int 2)]) rfl rfl (pc' := 318) rfl ?_
    refine oIcT W106 (cd := .le) (o := 33) (by decide +kernel) (XT.ii_le_t (by decide)) (pc' := 351) (by decide) (by decide) ?_
    refine oGo W106 [.iload 7, .iconst 3] (by decide +kernel) (ls' := #[sR a, sI vl, sR b, sI (Int32.ofNat 2), sI kk, sI 1, sI 2, sI 2, sI 0]) (st' := [(.int 3), (.int 2)]) rfl rfl (pc' := 354) rfl ?_
    refine oIcT W106 (cd := .le) (o := 33) (by decide +kernel) (XT.ii_le_t (by decide)) (pc' := 387) (by decide) (by decide) ?_
    refine oGo W106 [.iload 8] (by decide +kernel) (ls' := #[sR a, sI vl, sR b, sI (Int32.ofNat 2), sI kk, sI 1, sI 2, sI 2, sI 0]) (st' := [(.int 0)]) rfl rfl (pc' := 389) rfl ?_
    exact oRetN (by simp) W106 rfl (by decide +kernel) (lb rfl) (lb rfl) (fun vm' hv => ⟨_, rfl, rfl, Or.inr ⟨rfl, fun q => hc107 (by rw [Nm, hz] at q; simp at q; simp [q])⟩⟩)
  refine oIcF W106 (cd := .ne) (o := 7) (by decide +kernel) (XT.ii_ne_f hc107) (pc' := 308) rfl ?_
  refine oGo W106 [.iconst 1, .goto 4, .istore 8, .iload 7, .iconst 2] (by decide +kernel) (ls' := #[sR a, sI vl, sR b, sI (Int32.ofNat 2), sI kk, sI 1, sI 2, sI 2, sI 1]) (st' := [(.int 2), (.int 2)]) rfl rfl (pc' := 318) rfl ?_
  refine oIcT W106 (cd := .le) (o := 33) (by decide +kernel) (XT.ii_le_t (by decide)) (pc' := 351) (by decide) (by decide) ?_
  refine oGo W106 [.iload 7, .iconst 3] (by decide +kernel) (ls' := #[sR a, sI vl, sR b, sI (Int32.ofNat 2), sI kk, sI 1, sI 2, sI 2, sI 1]) (st' := [(.int 3), (.int 2)]) rfl rfl (pc' := 354) rfl ?_
  refine oIcT W106 (cd := .le) (o := 33) (by decide +kernel) (XT.ii_le_t (by decide)) (pc' := 387) (by decide) (by decide) ?_
  refine oGo W106 [.iload 8] (by decide +kernel) (ls' := #[sR a, sI vl, sR b, sI (Int32.ofNat 2), sI kk, sI 1, sI 2, sI 2, sI 1]) (st' := [(.int 1)]) rfl rfl (pc' := 389) rfl ?_
  exact oRetN (by simp) W106 rfl (by decide +kernel) (lb rfl) (lb rfl) (fun vm' hv => ⟨_, rfl, rfl, Or.inl ⟨rfl, by rw [Nm, hz]; simp [hc104, hc107]⟩⟩)

set_option maxRecDepth 65536 in
set_option maxHeartbeats 40000000 in
theorem c_exp_c2_3 {l : Launch} {Z : State} {a0 : Array Value} (K : Ctx Z a0) {nb : Bool} {a b : Addr} {ka kb : ClassId} {c0 c1 c2 c3 d0 d1 d2 d3 : Int32} {V U : Nat} (hV : V ≤ 4) (hU : U ≤ 4) {vl kk : Int32} {p : Program} {e : Env} {s : State} {m : MethodId} {args : Array Value} {below : List Frame} {meth : Method} {cc : Code} {h0 : Heap} {vm0 : Vm} {T0 : State} {lc : List Loc}
    (W0 : OW p l e rm_c_exp s m args below meth cc Z a0 EL nb "com/example/gentle_hub/gentlehub/server/MediaTypesNamesPinLaw" method_6_code 9 (some .boolean) "expected" vm0 T0 lc 0 0 h0) (A : OA Z h0 a ka .char [.int c0, .int c1, .int c2, .int c3]) (B : OA Z h0 b kb .char [.int d0, .int d1, .int d2, .int d3]) (hz : strp (ess (([c0, c1, c2, c3] : List Int32).take V)) = [c2]) :
    OG p e below s Z EL nb (fun v _ h => ∃ r, v = some (.int r) ∧ h = h0 ∧ ((r = 1 ∧ Nm (([c0, c1, c2, c3] : List Int32).take V) (([d0, d1, d2, d3] : List Int32).take U)) ∨ (r = 0 ∧ ¬ (Nm (([c0, c1, c2, c3] : List Int32).take V) (([d0, d1, d2, d3] : List Int32).take U))))) rm_c_exp.cells rm_c_exp.slots T0 (mkF m 215 #[sR a, sI vl, sR b, sI (Int32.ofNat U), sI kk, sI 2, sI 2, sU, sU] []) := by
  have hw := K.1
  have hS : ∀ a ∈ Bundle.stringAtoms, a.before a0 Z = true := K.2.2.1
  refine oGo W0 [.iload 5, .iload 6] (by decide +kernel) (ls' := #[sR a, sI vl, sR b, sI (Int32.ofNat U), sI kk, sI 2, sI 2, sU, sU]) (st' := [(.int 2), (.int 2)]) rfl rfl (pc' := 219) rfl ?_
  refine oIcF W0 (cd := .gt) (o := 13) (by decide +kernel) (XT.ii_gt_f (by decide)) (pc' := 222) rfl ?_
  refine oGo W0 [.iload 6, .iload 5, .isub, .iconst 1, .iadd, .goto 4, .istore 7, .iload 7, .iload_n 3] (by decide +kernel) (ls' := #[sR a, sI vl, sR b, sI (Int32.ofNat U), sI kk, sI 2, sI 2, sI 1, sU]) (st' := [(.int (Int32.ofNat U)), (.int 1)]) rfl rfl (pc' := 238) rfl ?_
  by_cases hc101 : (1 : Int32) = (Int32.ofNat U)
  rotate_left
  · refine oIcF W0 (cd := .eq) (o := 5) (by decide +kernel) (XT.ii_eq_f hc101) (pc' := 241) rfl ?_
    refine oGo W0 [.iconst 0] (by decide +kernel) (ls' := #[sR a, sI vl, sR b, sI (Int32.ofNat U), sI kk, sI 2, sI 2, sI 1, sU]) (st' := [(.int 0)]) rfl rfl (pc' := 242) rfl ?_
    exact oRetN (by simp) W0 rfl (by decide +kernel) (lb rfl) (lb rfl) (fun vm' hv => ⟨_, rfl, rfl, Or.inr ⟨rfl, fun q => hc101 (by have z := congrArg List.length q; rw [hz, List.length_map, List.length_map, List.length_take] at z; rw [show U = 1 from by simp at z; omega]; rfl)⟩⟩)
  refine oIcT W0 (cd := .eq) (o := 5) (by decide +kernel) (XT.ii_eq_t hc101) (pc' := 243) (by decide) (by decide) ?_
  obtain rfl : U = 1 := ofNat_inj (b := 1) (by omega) (by omega) hc101.symm
  refine oGo W0 [.iconst 1, .istore 8, .iload 7] (by decide +kernel) (ls' := #[sR a, sI vl, sR b, sI (Int32.ofNat 1), sI kk, sI 2, sI 2, sI 1, sI 1]) (st' := [(.int 1)]) rfl rfl (pc' := 248) rfl ?_
  refine oIfF W0 (cd := .le) (o := 31) (by decide +kernel) (XT.i0_le_f (by decide)) (pc' := 251) rfl ?_
  refine oGo W0 [.iload 8] (by decide +kernel) (ls' := #[sR a, sI vl, sR b, sI (Int32.ofNat 1), sI kk, sI 2, sI 2, sI 1, sI 1]) (st' := [(.int 1)]) rfl rfl (pc' := 253) rfl ?_
  refine oIfF W0 (cd := .eq) (o := 23) (by decide +kernel) (XT.i0_eq_f (by decide)) (pc' := 256) rfl ?_
  refine oGo W0 [.aload_n 0, .iload 5] (by decide +kernel) (ls' := #[sR a, sI vl, sR b, sI (Int32.ofNat 1), sI kk, sI 2, sI 2, sI 1, sI 1]) (st' := [(.int 2), (.ref a)]) rfl rfl (pc' := 259) rfl ?_
  refine oGet W0 A (v := (.int c2)) (by decide) rfl (Or.inl ⟨rfl, rfl⟩) (by decide +kernel) ?_
  obtain ⟨v102, T102, L102, h102, vm102, W102, ⟨rfl, e102⟩, C102, st102⟩ := oCallS W0 (idx := 32) (pc := 260) (ls := #[sR a, sI vl, sR b, sI (Int32.ofNat 1), sI kk, sI 2, sI 2, sI 1, sI 1]) (st := []) (argsL := [(.int c2)]) (c_fo K) (fun x hx => nomatch hx) (wK K 135 rfl) (wK K 136 rfl) (wK K 3 rfl) (wK K 137 rfl) (by decide) (na := 1) rfl (by decide +kernel) rfl (stk := [(.int c2)]) rfl (by decide +kernel) (V := 0) (lb rfl) (lb rfl) (lb rfl) (lb rfl) (lb rfl)
  refine oLift st102 ?_
  rw [e102] at W102 C102
  show OG _ _ _ _ _ _ _ _ _ _ _ (mkF m 263 #[sR a, sI vl, sR b, sI (Int32.ofNat 1), sI kk, sI 2, sI 2, sI 1, sI 1] [(.int (fld c2))])
  refine oGo W102 [.aload_n 2, .iconst 0] (by decide +kernel) (ls' := #[sR a, sI vl, sR b, sI (Int32.ofNat 1), sI kk, sI 2, sI 2, sI 1, sI 1]) (st' := [(.int 0), (.ref b), (.int (fld c2))]) rfl rfl (pc' := 265) rfl ?_
  refine oGet W102 B (v := (.int d0)) (by decide) rfl (Or.inl ⟨rfl, rfl⟩) (by decide +kernel) ?_
  obtain ⟨v103, T103, L103, h103, vm103, W103, ⟨rfl, e103⟩, C103, st103⟩ := oCallS W102 (idx := 32) (pc := 266) (ls := #[sR a, sI vl, sR b, sI (Int32.ofNat 1), sI kk, sI 2, sI 2, sI 1, sI 1]) (st := [(.int (fld c2))]) (argsL := [(.int d0)]) (c_fo K) (fun x hx => nomatch hx) (wK K 135 rfl) (wK K 136 rfl) (wK K 3 rfl) (wK K 137 rfl) (by decide) (na := 1) rfl (by decide +kernel) rfl (stk := [(.int d0), (.int (fld c2))]) rfl (by decide +kernel) (V := 1) (lb rfl) (lb rfl) (lb rfl) (lb rfl) (lb rfl)
  refine oLift st103 ?_
  rw [e103] at W103 C103
  show OG _ _ _ _ _ _ _ _ _ _ _ (mkF m 269 #[sR a, sI vl, sR b, sI (Int32.ofNat 1), sI kk, sI 2, sI 2, sI 1, sI 1] [(.int (fld d0)), (.int (fld c2))])
  by_cases hc104 : (fld c2) = (fld d0)
  rotate_left
  · refine oIcT W103 (cd := .ne) (o := 7) (by decide +kernel) (XT.ii_ne_t hc104) (pc' := 276) (by decide) (by decide) ?_
    refine oGo W103 [.iconst 0, .istore 8, .iload 7, .iconst 1] (by decide +kernel) (ls' := #[sR a, sI vl, sR b, sI (Int32.ofNat 1), sI kk, sI 2, sI 2, sI 1, sI 0]) (st' := [(.int 1), (.int 1)]) rfl rfl (pc' := 282) rfl ?_
    refine oIcT W103 (cd := .le) (o := 33) (by decide +kernel) (XT.ii_le_t (by decide)) (pc' := 315) (by decide) (by decide) ?_
    refine oGo W103 [.iload 7, .iconst 2] (by decide +kernel) (ls' := #[sR a, sI vl, sR b, sI (Int32.ofNat 1), sI kk, sI 2, sI 2, sI 1, sI 0]) (st' := [(.int 2), (.int 1)]) rfl rfl (pc' := 318) rfl ?_
    refine oIcT W103 (cd := .le) (o := 33) (by decide +kernel) (XT.ii_le_t (by decide)) (pc' := 351) (by decide) (by decide) ?_
    refine oGo W103 [.iload 7, .iconst 3] (by decide +kernel) (ls' := #[sR a, sI vl, sR b, sI (Int32.ofNat 1), sI kk, sI 2, sI 2, sI 1, sI 0]) (st' := [(.int 3), (.int 1)]) rfl rfl (pc' := 354) rfl ?_
    refine oIcT W103 (cd := .le) (o := 33) (by decide +kernel) (XT.ii_le_t (by decide)) (pc' := 387) (by decide) (by decide) ?_
    refine oGo W103 [.iload 8] (by decide +kernel) (ls' := #[sR a, sI vl, sR b, sI (Int32.ofNat 1), sI kk, sI 2, sI 2, sI 1, sI 0]) (st' := [(.int 0)]) rfl rfl (pc' := 389) rfl ?_
    exact oRetN (by simp) W103 rfl (by decide +kernel) (lb rfl) (lb rfl) (fun vm' hv => ⟨_, rfl, rfl, Or.inr ⟨rfl, fun q => hc104 (by rw [Nm, hz] at q; simp at q; simp [q])⟩⟩)
  refine oIcF W103 (cd := .ne) (o := 7) (by decide +kernel) (XT.ii_ne_f hc104) (pc' := 272) rfl ?_
  refine oGo W103 [.iconst 1, .goto 4, .istore 8, .iload 7, .iconst 1] (by decide +kernel) (ls' := #[sR a, sI vl, sR b, sI (Int32.ofNat 1), sI kk, sI 2, sI 2, sI 1, sI 1]) (st' := [(.int 1), (.int 1)]) rfl rfl (pc' := 282) rfl ?_
  refine oIcT W103 (cd := .le) (o := 33) (by decide +kernel) (XT.ii_le_t (by decide)) (pc' := 315) (by decide) (by decide) ?_
  refine oGo W103 [.iload 7, .iconst 2] (by decide +kernel) (ls' := #[sR a, sI vl, sR b, sI (Int32.ofNat 1), sI kk, sI 2, sI 2, sI 1, sI 1]) (st' := [(.int 2), (.int 1)]) rfl rfl (pc' := 318) rfl ?_
  refine oIcT W103 (cd := .le) (o := 33) (by decide +kernel) (XT.ii_le_t (by decide)) (pc' := 351) (by decide) (by decide) ?_
  refine oGo W103 [.iload 7, .iconst 3] (by decide +kernel) (ls' := #[sR a, sI vl, sR b, sI (Int32.ofNat 1), sI kk, sI 2, sI 2, sI 1, sI 1]) (st' := [(.int 3), (.int 1)]) rfl rfl (pc' := 354) rfl ?_
  refine oIcT W103 (cd := .le) (o := 33) (by decide +kernel) (XT.ii_le_t (by decide)) (pc' := 387) (by decide) (by decide) ?_
  refine oGo W103 [.iload 8] (by decide +kernel) (ls' := #[sR a, sI vl, sR b, sI (Int32.ofNat 1), sI kk, sI 2, sI 2, sI 1, sI 1]) (st' := [(.int 1)]) rfl rfl (pc' := 389) rfl ?_
  exact oRetN (by simp) W103 rfl (by decide +kernel) (lb rfl) (lb rfl) (fun vm' hv => ⟨_, rfl, rfl, Or.inl ⟨rfl, by rw [Nm, hz]; simp [hc104]⟩⟩)

set_option maxRecDepth 65536 in
set_option maxHeartbeats 40000000 in
theorem c_exp_c0_4 {l : Launch} {Z : State} {a0 : Array Value} (K : Ctx Z a0) {nb : Bool} {a b : Addr} {ka kb : ClassId} {c0 c1 c2 c3 d0 d1 d2 d3 : Int32} {V U : Nat} (hV : V ≤ 4) (hU : U ≤ 4) {vl kk : Int32} {p : Program} {e : Env} {s : State} {m : MethodId} {args : Array Value} {below : List Frame} {meth : Method} {cc : Code} {h0 : Heap} {vm0 : Vm} {T0 : State} {lc : List Loc}
    (W0 : OW p l e rm_c_exp s m args below meth cc Z a0 EL nb "com/example/gentle_hub/gentlehub/server/MediaTypesNamesPinLaw" method_6_code 9 (some .boolean) "expected" vm0 T0 lc 0 0 h0) (A : OA Z h0 a ka .char [.int c0, .int c1, .int c2, .int c3]) (B : OA Z h0 b kb .char [.int d0, .int d1, .int d2, .int d3]) (hz : strp (ess (([c0, c1, c2, c3] : List Int32).take V)) = [c0, c1, c2, c3]) :
    OG p e below s Z EL nb (fun v _ h => ∃ r, v = some (.int r) ∧ h = h0 ∧ ((r = 1 ∧ Nm (([c0, c1, c2, c3] : List Int32).take V) (([d0, d1, d2, d3] : List Int32).take U)) ∨ (r = 0 ∧ ¬ (Nm (([c0, c1, c2, c3] : List Int32).take V) (([d0, d1, d2, d3] : List Int32).take U))))) rm_c_exp.cells rm_c_exp.slots T0 (mkF m 215 #[sR a, sI vl, sR b, sI (Int32.ofNat U), sI kk, sI 0, sI 3, sU, sU] []) := by
  have hw := K.1
  have hS : ∀ a ∈ Bundle.stringAtoms, a.before a0 Z = true := K.2.2.1
  refine oGo W0 [.iload 5, .iload 6] (by decide +kernel) (ls' := #[sR a, sI vl, sR b, sI (Int32.ofNat U), sI kk, sI 0, sI 3, sU, sU]) (st' := [(.int 3), (.int 0)]) rfl rfl (pc' := 219) rfl ?_
  refine oIcF W0 (cd := .gt) (o := 13) (by decide +kernel) (XT.ii_gt_f (by decide)) (pc' := 222) rfl ?_
  refine oGo W0 [.iload 6, .iload 5, .isub, .iconst 1, .iadd, .goto 4, .istore 7, .iload 7, .iload_n 3] (by decide +kernel) (ls' := #[sR a, sI vl, sR b, sI (Int32.ofNat U), sI kk, sI 0, sI 3, sI 4, sU]) (st' := [(.int (Int32.ofNat U)), (.int 4)]) rfl rfl (pc' := 238) rfl ?_
  by_cases hc101 : (4 : Int32) = (Int32.ofNat U)
  rotate_left
  · refine oIcF W0 (cd := .eq) (o := 5) (by decide +kernel) (XT.ii_eq_f hc101) (pc' := 241) rfl ?_
    refine oGo W0 [.iconst 0] (by decide +kernel) (ls' := #[sR a, sI vl, sR b, sI (Int32.ofNat U), sI kk, sI 0, sI 3, sI 4, sU]) (st' := [(.int 0)]) rfl rfl (pc' := 242) rfl ?_
    exact oRetN (by simp) W0 rfl (by decide +kernel) (lb rfl) (lb rfl) (fun vm' hv => ⟨_, rfl, rfl, Or.inr ⟨rfl, fun q => hc101 (by have z := congrArg List.length q; rw [hz, List.length_map, List.length_map, List.length_take] at z; rw [show U = 4 from by simp at z; omega]; rfl)⟩⟩)
  refine oIcT W0 (cd := .eq) (o := 5) (by decide +kernel) (XT.ii_eq_t hc101) (pc' := 243) (by decide) (by decide) ?_
  obtain rfl : U = 4 := ofNat_inj (b := 4) (by omega) (by omega) hc101.symm
  refine oGo W0 [.iconst 1, .istore 8, .iload 7] (by decide +kernel) (ls' := #[sR a, sI vl, sR b, sI (Int32.ofNat 4), sI kk, sI 0, sI 3, sI 4, sI 1]) (st' := [(.int 4)]) rfl rfl (pc' := 248) rfl ?_
  refine oIfF W0 (cd := .le) (o := 31) (by decide +kernel) (XT.i0_le_f (by decide)) (pc' := 251) rfl ?_
  refine oGo W0 [.iload 8] (by decide +kernel) (ls' := #[sR a, sI vl, sR b, sI (Int32.ofNat 4), sI kk, sI 0, sI 3, sI 4, sI 1]) (st' := [(.int 1)]) rfl rfl (pc' := 253) rfl ?_
  refine oIfF W0 (cd := .eq) (o := 23) (by decide +kernel) (XT.i0_eq_f (by decide)) (pc' := 256) rfl ?_
  refine oGo W0 [.aload_n 0, .iload 5] (by decide +kernel) (ls' := #[sR a, sI vl, sR b, sI (Int32.ofNat 4), sI kk, sI 0, sI 3, sI 4, sI 1]) (st' := [(.int 0), (.ref a)]) rfl rfl (pc' := 259) rfl ?_
  refine oGet W0 A (v := (.int c0)) (by decide) rfl (Or.inl ⟨rfl, rfl⟩) (by decide +kernel) ?_
  obtain ⟨v102, T102, L102, h102, vm102, W102, ⟨rfl, e102⟩, C102, st102⟩ := oCallS W0 (idx := 32) (pc := 260) (ls := #[sR a, sI vl, sR b, sI (Int32.ofNat 4), sI kk, sI 0, sI 3, sI 4, sI 1]) (st := []) (argsL := [(.int c0)]) (c_fo K) (fun x hx => nomatch hx) (wK K 135 rfl) (wK K 136 rfl) (wK K 3 rfl) (wK K 137 rfl) (by decide) (na := 1) rfl (by decide +kernel) rfl (stk := [(.int c0)]) rfl (by decide +kernel) (V := 0) (lb rfl) (lb rfl) (lb rfl) (lb rfl) (lb rfl)
  refine oLift st102 ?_
  rw [e102] at W102 C102
  show OG _ _ _ _ _ _ _ _ _ _ _ (mkF m 263 #[sR a, sI vl, sR b, sI (Int32.ofNat 4), sI kk, sI 0, sI 3, sI 4, sI 1] [(.int (fld c0))])
  refine oGo W102 [.aload_n 2, .iconst 0] (by decide +kernel) (ls' := #[sR a, sI vl, sR b, sI (Int32.ofNat 4), sI kk, sI 0, sI 3, sI 4, sI 1]) (st' := [(.int 0), (.ref b), (.int (fld c0))]) rfl rfl (pc' := 265) rfl ?_
  refine oGet W102 B (v := (.int d0)) (by decide) rfl (Or.inl ⟨rfl, rfl⟩) (by decide +kernel) ?_
  obtain ⟨v103, T103, L103, h103, vm103, W103, ⟨rfl, e103⟩, C103, st103⟩ := oCallS W102 (idx := 32) (pc := 266) (ls := #[sR a, sI vl, sR b, sI (Int32.ofNat 4), sI kk, sI 0, sI 3, sI 4, sI 1]) (st := [(.int (fld c0))]) (argsL := [(.int d0)]) (c_fo K) (fun x hx => nomatch hx) (wK K 135 rfl) (wK K 136 rfl) (wK K 3 rfl) (wK K 137 rfl) (by decide) (na := 1) rfl (by decide +kernel) rfl (stk := [(.int d0), (.int (fld c0))]) rfl (by decide +kernel) (V := 1) (lb rfl) (lb rfl) (lb rfl) (lb rfl) (lb rfl)
  refine oLift st103 ?_
  rw [e103] at W103 C103
  show OG _ _ _ _ _ _ _ _ _ _ _ (mkF m 269 #[sR a, sI vl, sR b, sI (Int32.ofNat 4), sI kk, sI 0, sI 3, sI 4, sI 1] [(.int (fld d0)), (.int (fld c0))])
  by_cases hc104 : (fld c0) = (fld d0)
  rotate_left
  · refine oIcT W103 (cd := .ne) (o := 7) (by decide +kernel) (XT.ii_ne_t hc104) (pc' := 276) (by decide) (by decide) ?_
    refine oGo W103 [.iconst 0, .istore 8, .iload 7, .iconst 1] (by decide +kernel) (ls' := #[sR a, sI vl, sR b, sI (Int32.ofNat 4), sI kk, sI 0, sI 3, sI 4, sI 0]) (st' := [(.int 1), (.int 4)]) rfl rfl (pc' := 282) rfl ?_
    refine oIcF W103 (cd := .le) (o := 33) (by decide +kernel) (XT.ii_le_f (by decide)) (pc' := 285) rfl ?_
    refine oGo W103 [.iload 8] (by decide +kernel) (ls' := #[sR a, sI vl, sR b, sI (Int32.ofNat 4), sI kk, sI 0, sI 3, sI 4, sI 0]) (st' := [(.int 0)]) rfl rfl (pc' := 287) rfl ?_
    refine oIfT W103 (cd := .eq) (o := 25) (by decide +kernel) (XT.i0_eq_t (by decide)) (pc' := 312) (by decide) (by decide) ?_
    refine oGo W103 [.iconst 0, .istore 8, .iload 7, .iconst 2] (by decide +kernel) (ls' := #[sR a, sI vl, sR b, sI (Int32.ofNat 4), sI kk, sI 0, sI 3, sI 4, sI 0]) (st' := [(.int 2), (.int 4)]) rfl rfl (pc' := 318) rfl ?_
    refine oIcF W103 (cd := .le) (o := 33) (by decide +kernel) (XT.ii_le_f (by decide)) (pc' := 321) rfl ?_
    refine oGo W103 [.iload 8] (by decide +kernel) (ls' := #[sR a, sI vl, sR b, sI (Int32.ofNat 4), sI kk, sI 0, sI 3, sI 4, sI 0]) (st' := [(.int 0)]) rfl rfl (pc' := 323) rfl ?_
    refine oIfT W103 (cd := .eq) (o := 25) (by decide +kernel) (XT.i0_eq_t (by decide)) (pc' := 348) (by decide) (by decide) ?_
    refine oGo W103 [.iconst 0, .istore 8, .iload 7, .iconst 3] (by decide +kernel) (ls' := #[sR a, sI vl, sR b, sI (Int32.ofNat 4), sI kk, sI 0, sI 3, sI 4, sI 0]) (st' := [(.int 3), (.int 4)]) rfl rfl (pc' := 354) rfl ?_
    refine oIcF W103 (cd := .le) (o := 33) (by decide +kernel) (XT.ii_le_f (by decide)) (pc' := 357) rfl ?_
    refine oGo W103 [.iload 8] (by decide +kernel) (ls' := #[sR a, sI vl, sR b, sI (Int32.ofNat 4), sI kk, sI 0, sI 3, sI 4, sI 0]) (st' := [(.int 0)]) rfl rfl (pc' := 359) rfl ?_
    refine oIfT W103 (cd := .eq) (o := 25) (by decide +kernel) (XT.i0_eq_t (by decide)) (pc' := 384) (by decide) (by decide) ?_
    refine oGo W103 [.iconst 0, .istore 8, .iload 8] (by decide +kernel) (ls' := #[sR a, sI vl, sR b, sI (Int32.ofNat 4), sI kk, sI 0, sI 3, sI 4, sI 0]) (st' := [(.int 0)]) rfl rfl (pc' := 389) rfl ?_
    exact oRetN (by simp) W103 rfl (by decide +kernel) (lb rfl) (lb rfl) (fun vm' hv => ⟨_, rfl, rfl, Or.inr ⟨rfl, fun q => hc104 (by rw [Nm, hz] at q; simp at q; simp [q])⟩⟩)
  refine oIcF W103 (cd := .ne) (o := 7) (by decide +kernel) (XT.ii_ne_f hc104) (pc' := 272) rfl ?_
  refine oGo W103 [.iconst 1, .goto 4, .istore 8, .iload 7, .iconst 1] (by decide +kernel) (ls' := #[sR a, sI vl, sR b, sI (Int32.ofNat 4), sI kk, sI 0, sI 3, sI 4, sI 1]) (st' := [(.int 1), (.int 4)]) rfl rfl (pc' := 282) rfl ?_
  refine oIcF W103 (cd := .le) (o := 33) (by decide +kernel) (XT.ii_le_f (by decide)) (pc' := 285) rfl ?_
  refine oGo W103 [.iload 8] (by decide +kernel) (ls' := #[sR a, sI vl, sR b, sI (Int32.ofNat 4), sI kk, sI 0, sI 3, sI 4, sI 1]) (st' := [(.int 1)]) rfl rfl (pc' := 287) rfl ?_
  refine oIfF W103 (cd := .eq) (o := 25) (by decide +kernel) (XT.i0_eq_f (by decide)) (pc' := 290) rfl ?_
  refine oGo W103 [.aload_n 0, .iload 5, .iconst 1, .iadd] (by decide +kernel) (ls' := #[sR a, sI vl, sR b, sI (Int32.ofNat 4), sI kk, sI 0, sI 3, sI 4, sI 1]) (st' := [(.int 1), (.ref a)]) rfl rfl (pc' := 295) rfl ?_
  refine oGet W103 A (v := (.int c1)) (by decide) rfl (Or.inl ⟨rfl, rfl⟩) (by decide +kernel) ?_
  obtain ⟨v105, T105, L105, h105, vm105, W105, ⟨rfl, e105⟩, C105, st105⟩ := oCallS W103 (idx := 32) (pc := 296) (ls := #[sR a, sI vl, sR b, sI (Int32.ofNat 4), sI kk, sI 0, sI 3, sI 4, sI 1]) (st := []) (argsL := [(.int c1)]) (c_fo K) (fun x hx => nomatch hx) (wK K 135 rfl) (wK K 136 rfl) (wK K 3 rfl) (wK K 137 rfl) (by decide) (na := 1) rfl (by decide +kernel) rfl (stk := [(.int c1)]) rfl (by decide +kernel) (V := 0) (lb rfl) (lb rfl) (lb rfl) (lb rfl) (lb rfl)
  refine oLift st105 ?_
  rw [e105] at W105 C105
  show OG _ _ _ _ _ _ _ _ _ _ _ (mkF m 299 #[sR a, sI vl, sR b, sI (Int32.ofNat 4), sI kk, sI 0, sI 3, sI 4, sI 1] [(.int (fld c1))])
  refine oGo W105 [.aload_n 2, .iconst 1] (by decide +kernel) (ls' := #[sR a, sI vl, sR b, sI (Int32.ofNat 4), sI kk, sI 0, sI 3, sI 4, sI 1]) (st' := [(.int 1), (.ref b), (.int (fld c1))]) rfl rfl (pc' := 301) rfl ?_
  refine oGet W105 B (v := (.int d1)) (by decide) rfl (Or.inl ⟨rfl, rfl⟩) (by decide +kernel) ?_
  obtain ⟨v106, T106, L106, h106, vm106, W106, ⟨rfl, e106⟩, C106, st106⟩ := oCallS W105 (idx := 32) (pc := 302) (ls := #[sR a, sI vl, sR b, sI (Int32.ofNat 4), sI kk, sI 0, sI 3, sI 4, sI 1]) (st := [(.int (fld c1))]) (argsL := [(.int d1)]) (c_fo K) (fun x hx => nomatch hx) (wK K 135 rfl) (wK K 136 rfl) (wK K 3 rfl) (wK K 137 rfl) (by decide) (na := 1) rfl (by decide +kernel) rfl (stk := [(.int d1), (.int (fld c1))]) rfl (by decide +kernel) (V := 1) (lb rfl) (lb rfl) (lb rfl) (lb rfl) (lb rfl)
  refine oLift st106 ?_
  rw [e106] at W106 C106
  show OG _ _ _ _ _ _ _ _ _ _ _ (mkF m 305 #[sR a, sI vl, sR b, sI (Int32.ofNat 4), sI kk, sI 0, sI 3, sI 4, sI 1] [(.int (fld d1)), (.int (fld c1))])
  by_cases hc107 : (fld c1) = (fld d1)
  rotate_left
  · refine oIcT W106 (cd := .ne) (o := 7) (by decide +kernel) (XT.ii_ne_t hc107) (pc' := 312) (by decide) (by decide) ?_
    refine oGo W106 [.iconst 0, .istore 8, .iload 7, .iconst 2] (by decide +kernel) (ls' := #[sR a, sI vl, sR b, sI (Int32.ofNat 4), sI kk, sI 0, sI 3, sI 4, sI 0]) (st' := [(.int 2), (.int 4)]) rfl rfl (pc' := 318) rfl ?_
    refine oIcF W106 (cd := .le) (o := 33) (by decide +kernel) (XT.ii_le_f (by decide)) (pc' := 321) rfl ?_
    refine oGo W106 [.iload 8] (by decide +kernel) (ls' := #[sR a, sI vl, sR b, sI (Int32.ofNat 4), sI kk, sI 0, sI 3, sI 4, sI 0]) (st' := [(.int 0)]) rfl rfl (pc' := 323) rfl ?_
    refine oIfT W106 (cd := .eq) (o := 25) (by decide +kernel) (XT.i0_eq_t (by decide)) (pc' := 348) (by decide) (by decide) ?_
    refine oGo W106 [.iconst 0, .istore 8, .iload 7, .iconst 3] (by decide +kernel) (ls' := #[sR a, sI vl, sR b, sI (Int32.ofNat 4), sI kk, sI 0, sI 3, sI 4, sI 0]) (st' := [(.int 3), (.int 4)]) rfl rfl (pc' := 354) rfl ?_
    refine oIcF W106 (cd := .le) (o := 33) (by decide +kernel) (XT.ii_le_f (by decide)) (pc' := 357) rfl ?_
    refine oGo W106 [.iload 8] (by decide +kernel) (ls' := #[sR a, sI vl, sR b, sI (Int32.ofNat 4), sI kk, sI 0, sI 3, sI 4, sI 0]) (st' := [(.int 0)]) rfl rfl (pc' := 359) rfl ?_
    refine oIfT W106 (cd := .eq) (o := 25) (by decide +kernel) (XT.i0_eq_t (by decide)) (pc' := 384) (by decide) (by decide) ?_
    refine oGo W106 [.iconst 0, .istore 8, .iload 8] (by decide +kernel) (ls' := #[sR a, sI vl, sR b, sI (Int32.ofNat 4), sI kk, sI 0, sI 3, sI 4, sI 0]) (st' := [(.int 0)]) rfl rfl (pc' := 389) rfl ?_
    exact oRetN (by simp) W106 rfl (by decide +kernel) (lb rfl) (lb rfl) (fun vm' hv => ⟨_, rfl, rfl, Or.inr ⟨rfl, fun q => hc107 (by rw [Nm, hz] at q; simp at q; simp [q])⟩⟩)
  refine oIcF W106 (cd := .ne) (o := 7) (by decide +kernel) (XT.ii_ne_f hc107) (pc' := 308) rfl ?_
  refine oGo W106 [.iconst 1, .goto 4, .istore 8, .iload 7, .iconst 2] (by decide +kernel) (ls' := #[sR a, sI vl, sR b, sI (Int32.ofNat 4), sI kk, sI 0, sI 3, sI 4, sI 1]) (st' := [(.int 2), (.int 4)]) rfl rfl (pc' := 318) rfl ?_
  refine oIcF W106 (cd := .le) (o := 33) (by decide +kernel) (XT.ii_le_f (by decide)) (pc' := 321) rfl ?_
  refine oGo W106 [.iload 8] (by decide +kernel) (ls' := #[sR a, sI vl, sR b, sI (Int32.ofNat 4), sI kk, sI 0, sI 3, sI 4, sI 1]) (st' := [(.int 1)]) rfl rfl (pc' := 323) rfl ?_
  refine oIfF W106 (cd := .eq) (o := 25) (by decide +kernel) (XT.i0_eq_f (by decide)) (pc' := 326) rfl ?_
  refine oGo W106 [.aload_n 0, .iload 5, .iconst 2, .iadd] (by decide +kernel) (ls' := #[sR a, sI vl, sR b, sI (Int32.ofNat 4), sI kk, sI 0, sI 3, sI 4, sI 1]) (st' := [(.int 2), (.ref a)]) rfl rfl (pc' := 331) rfl ?_
  refine oGet W106 A (v := (.int c2)) (by decide) rfl (Or.inl ⟨rfl, rfl⟩) (by decide +kernel) ?_
  obtain ⟨v108, T108, L108, h108, vm108, W108, ⟨rfl, e108⟩, C108, st108⟩ := oCallS W106 (idx := 32) (pc := 332) (ls := #[sR a, sI vl, sR b, sI (Int32.ofNat 4), sI kk, sI 0, sI 3, sI 4, sI 1]) (st := []) (argsL := [(.int c2)]) (c_fo K) (fun x hx => nomatch hx) (wK K 135 rfl) (wK K 136 rfl) (wK K 3 rfl) (wK K 137 rfl) (by decide) (na := 1) rfl (by decide +kernel) rfl (stk := [(.int c2)]) rfl (by decide +kernel) (V := 0) (lb rfl) (lb rfl) (lb rfl) (lb rfl) (lb rfl)
  refine oLift st108 ?_
  rw [e108] at W108 C108
  show OG _ _ _ _ _ _ _ _ _ _ _ (mkF m 335 #[sR a, sI vl, sR b, sI (Int32.ofNat 4), sI kk, sI 0, sI 3, sI 4, sI 1] [(.int (fld c2))])
  refine oGo W108 [.aload_n 2, .iconst 2] (by decide +kernel) (ls' := #[sR a, sI vl, sR b, sI (Int32.ofNat 4), sI kk, sI 0, sI 3, sI 4, sI 1]) (st' := [(.int 2), (.ref b), (.int (fld c2))]) rfl rfl (pc' := 337) rfl ?_
  refine oGet W108 B (v := (.int d2)) (by decide) rfl (Or.inl ⟨rfl, rfl⟩) (by decide +kernel) ?_
  obtain ⟨v109, T109, L109, h109, vm109, W109, ⟨rfl, e109⟩, C109, st109⟩ := oCallS W108 (idx := 32) (pc := 338) (ls := #[sR a, sI vl, sR b, sI (Int32.ofNat 4), sI kk, sI 0, sI 3, sI 4, sI 1]) (st := [(.int (fld c2))]) (argsL := [(.int d2)]) (c_fo K) (fun x hx => nomatch hx) (wK K 135 rfl) (wK K 136 rfl) (wK K 3 rfl) (wK K 137 rfl) (by decide) (na := 1) rfl (by decide +kernel) rfl (stk := [(.int d2), (.int (fld c2))]) rfl (by decide +kernel) (V := 1) (lb rfl) (lb rfl) (lb rfl) (lb rfl) (lb rfl)
  refine oLift st109 ?_
  rw [e109] at W109 C109
  show OG _ _ _ _ _ _ _ _ _ _ _ (mkF m 341 #[sR a, sI vl, sR b, sI (Int32.ofNat 4), sI kk, sI 0, sI 3, sI 4, sI 1] [(.int (fld d2)), (.int (fld c2))])
  by_cases hc110 : (fld c2) = (fld d2)
  rotate_left
  · refine oIcT W109 (cd := .ne) (o := 7) (by decide +kernel) (XT.ii_ne_t hc110) (pc' := 348) (by decide) (by decide) ?_
    refine oGo W109 [.iconst 0, .istore 8, .iload 7, .iconst 3] (by decide +kernel) (ls' := #[sR a, sI vl, sR b, sI (Int32.ofNat 4), sI kk, sI 0, sI 3, sI 4, sI 0]) (st' := [(.int 3), (.int 4)]) rfl rfl (pc' := 354) rfl ?_
    refine oIcF W109 (cd := .le) (o := 33) (by decide +kernel) (XT.ii_le_f (by decide)) (pc' := 357) rfl ?_
    refine oGo W109 [.iload 8] (by decide +kernel) (ls' := #[sR a, sI vl, sR b, sI (Int32.ofNat 4), sI kk, sI 0, sI 3, sI 4, sI 0]) (st' := [(.int 0)]) rfl rfl (pc' := 359) rfl ?_
    refine oIfT W109 (cd := .eq) (o := 25) (by decide +kernel) (XT.i0_eq_t (by decide)) (pc' := 384) (by decide) (by decide) ?_
    refine oGo W109 [.iconst 0, .istore 8, .iload 8] (by decide +kernel) (ls' := #[sR a, sI vl, sR b, sI (Int32.ofNat 4), sI kk, sI 0, sI 3, sI 4, sI 0]) (st' := [(.int 0)]) rfl rfl (pc' := 389) rfl ?_
    exact oRetN (by simp) W109 rfl (by decide +kernel) (lb rfl) (lb rfl) (fun vm' hv => ⟨_, rfl, rfl, Or.inr ⟨rfl, fun q => hc110 (by rw [Nm, hz] at q; simp at q; simp [q])⟩⟩)
  refine oIcF W109 (cd := .ne) (o := 7) (by decide +kernel) (XT.ii_ne_f hc110) (pc' := 344) rfl ?_
  refine oGo W109 [.iconst 1, .goto 4, .istore 8, .iload 7, .iconst 3] (by decide +kernel) (ls' := #[sR a, sI vl, sR b, sI (Int32.ofNat 4), sI kk, sI 0, sI 3, sI 4, sI 1]) (st' := [(.int 3), (.int 4)]) rfl rfl (pc' := 354) rfl ?_
  refine oIcF W109 (cd := .le) (o := 33) (by decide +kernel) (XT.ii_le_f (by decide)) (pc' := 357) rfl ?_
  refine oGo W109 [.iload 8] (by decide +kernel) (ls' := #[sR a, sI vl, sR b, sI (Int32.ofNat 4), sI kk, sI 0, sI 3, sI 4, sI 1]) (st' := [(.int 1)]) rfl rfl (pc' := 359) rfl ?_
  refine oIfF W109 (cd := .eq) (o := 25) (by decide +kernel) (XT.i0_eq_f (by decide)) (pc' := 362) rfl ?_
  refine oGo W109 [.aload_n 0, .iload 5, .iconst 3, .iadd] (by decide +kernel) (ls' := #[sR a, sI vl, sR b, sI (Int32.ofNat 4), sI kk, sI 0, sI 3, sI 4, sI 1]) (st' := [(.int 3), (.ref a)]) rfl rfl (pc' := 367) rfl ?_
  refine oGet W109 A (v := (.int c3)) (by decide) rfl (Or.inl ⟨rfl, rfl⟩) (by decide +kernel) ?_
  obtain ⟨v111, T111, L111, h111, vm111, W111, ⟨rfl, e111⟩, C111, st111⟩ := oCallS W109 (idx := 32) (pc := 368) (ls := #[sR a, sI vl, sR b, sI (Int32.ofNat 4), sI kk, sI 0, sI 3, sI 4, sI 1]) (st := []) (argsL := [(.int c3)]) (c_fo K) (fun x hx => nomatch hx) (wK K 135 rfl) (wK K 136 rfl) (wK K 3 rfl) (wK K 137 rfl) (by decide) (na := 1) rfl (by decide +kernel) rfl (stk := [(.int c3)]) rfl (by decide +kernel) (V := 0) (lb rfl) (lb rfl) (lb rfl) (lb rfl) (lb rfl)
  refine oLift st111 ?_
  rw [e111] at W111 C111
  show OG _ _ _ _ _ _ _ _ _ _ _ (mkF m 371 #[sR a, sI vl, sR b, sI (Int32.ofNat 4), sI kk, sI 0, sI 3, sI 4, sI 1] [(.int (fld c3))])
  refine oGo W111 [.aload_n 2, .iconst 3] (by decide +kernel) (ls' := #[sR a, sI vl, sR b, sI (Int32.ofNat 4), sI kk, sI 0, sI 3, sI 4, sI 1]) (st' := [(.int 3), (.ref b), (.int (fld c3))]) rfl rfl (pc' := 373) rfl ?_
  refine oGet W111 B (v := (.int d3)) (by decide) rfl (Or.inl ⟨rfl, rfl⟩) (by decide +kernel) ?_
  obtain ⟨v112, T112, L112, h112, vm112, W112, ⟨rfl, e112⟩, C112, st112⟩ := oCallS W111 (idx := 32) (pc := 374) (ls := #[sR a, sI vl, sR b, sI (Int32.ofNat 4), sI kk, sI 0, sI 3, sI 4, sI 1]) (st := [(.int (fld c3))]) (argsL := [(.int d3)]) (c_fo K) (fun x hx => nomatch hx) (wK K 135 rfl) (wK K 136 rfl) (wK K 3 rfl) (wK K 137 rfl) (by decide) (na := 1) rfl (by decide +kernel) rfl (stk := [(.int d3), (.int (fld c3))]) rfl (by decide +kernel) (V := 1) (lb rfl) (lb rfl) (lb rfl) (lb rfl) (lb rfl)
  refine oLift st112 ?_
  rw [e112] at W112 C112
  show OG _ _ _ _ _ _ _ _ _ _ _ (mkF m 377 #[sR a, sI vl, sR b, sI (Int32.ofNat 4), sI kk, sI 0, sI 3, sI 4, sI 1] [(.int (fld d3)), (.int (fld c3))])
  by_cases hc113 : (fld c3) = (fld d3)
  rotate_left
  · refine oIcT W112 (cd := .ne) (o := 7) (by decide +kernel) (XT.ii_ne_t hc113) (pc' := 384) (by decide) (by decide) ?_
    refine oGo W112 [.iconst 0, .istore 8, .iload 8] (by decide +kernel) (ls' := #[sR a, sI vl, sR b, sI (Int32.ofNat 4), sI kk, sI 0, sI 3, sI 4, sI 0]) (st' := [(.int 0)]) rfl rfl (pc' := 389) rfl ?_
    exact oRetN (by simp) W112 rfl (by decide +kernel) (lb rfl) (lb rfl) (fun vm' hv => ⟨_, rfl, rfl, Or.inr ⟨rfl, fun q => hc113 (by rw [Nm, hz] at q; simp at q; simp [q])⟩⟩)
  refine oIcF W112 (cd := .ne) (o := 7) (by decide +kernel) (XT.ii_ne_f hc113) (pc' := 380) rfl ?_
  refine oGo W112 [.iconst 1, .goto 4, .istore 8, .iload 8] (by decide +kernel) (ls' := #[sR a, sI vl, sR b, sI (Int32.ofNat 4), sI kk, sI 0, sI 3, sI 4, sI 1]) (st' := [(.int 1)]) rfl rfl (pc' := 389) rfl ?_
  exact oRetN (by simp) W112 rfl (by decide +kernel) (lb rfl) (lb rfl) (fun vm' hv => ⟨_, rfl, rfl, Or.inl ⟨rfl, by rw [Nm, hz]; simp [hc104, hc107, hc110, hc113]⟩⟩)

set_option maxRecDepth 65536 in
set_option maxHeartbeats 40000000 in
theorem c_exp_c1_4 {l : Launch} {Z : State} {a0 : Array Value} (K : Ctx Z a0) {nb : Bool} {a b : Addr} {ka kb : ClassId} {c0 c1 c2 c3 d0 d1 d2 d3 : Int32} {V U : Nat} (hV : V ≤ 4) (hU : U ≤ 4) {vl kk : Int32} {p : Program} {e : Env} {s : State} {m : MethodId} {args : Array Value} {below : List Frame} {meth : Method} {cc : Code} {h0 : Heap} {vm0 : Vm} {T0 : State} {lc : List Loc}
    (W0 : OW p l e rm_c_exp s m args below meth cc Z a0 EL nb "com/example/gentle_hub/gentlehub/server/MediaTypesNamesPinLaw" method_6_code 9 (some .boolean) "expected" vm0 T0 lc 0 0 h0) (A : OA Z h0 a ka .char [.int c0, .int c1, .int c2, .int c3]) (B : OA Z h0 b kb .char [.int d0, .int d1, .int d2, .int d3]) (hz : strp (ess (([c0, c1, c2, c3] : List Int32).take V)) = [c1, c2, c3]) :
    OG p e below s Z EL nb (fun v _ h => ∃ r, v = some (.int r) ∧ h = h0 ∧ ((r = 1 ∧ Nm (([c0, c1, c2, c3] : List Int32).take V) (([d0, d1, d2, d3] : List Int32).take U)) ∨ (r = 0 ∧ ¬ (Nm (([c0, c1, c2, c3] : List Int32).take V) (([d0, d1, d2, d3] : List Int32).take U))))) rm_c_exp.cells rm_c_exp.slots T0 (mkF m 215 #[sR a, sI vl, sR b, sI (Int32.ofNat U), sI kk, sI 1, sI 3, sU, sU] []) := by
  have hw := K.1
  have hS : ∀ a ∈ Bundle.stringAtoms, a.before a0 Z = true := K.2.2.1
  refine oGo W0 [.iload 5, .iload 6] (by decide +kernel) (ls' := #[sR a, sI vl, sR b, sI (Int32.ofNat U), sI kk, sI 1, sI 3, sU, sU]) (st' := [(.int 3), (.int 1)]) rfl rfl (pc' := 219) rfl ?_
  refine oIcF W0 (cd := .gt) (o := 13) (by decide +kernel) (XT.ii_gt_f (by decide)) (pc' := 222) rfl ?_
  refine oGo W0 [.iload 6, .iload 5, .isub, .iconst 1, .iadd, .goto 4, .istore 7, .iload 7, .iload_n 3] (by decide +kernel) (ls' := #[sR a, sI vl, sR b, sI (Int32.ofNat U), sI kk, sI 1, sI 3, sI 3, sU]) (st' := [(.int (Int32.ofNat U)), (.int 3)]) rfl rfl (pc' := 238) rfl ?_
  by_cases hc101 : (3 : Int32) = (Int32.ofNat U)
  rotate_left
  · refine oIcF W0 (cd := .eq) (o := 5) (by decide +kernel) (XT.ii_eq_f hc101) (pc' := 241) rfl ?_
    refine oGo W0 [.iconst 0] (by decide +kernel) (ls' := #[sR a, sI vl, sR b, sI (Int32.ofNat U), sI kk, sI 1, sI 3, sI 3, sU]) (st' := [(.int 0)]) rfl rfl (pc' := 242) rfl ?_
    exact oRetN (by simp) W0 rfl (by decide +kernel) (lb rfl) (lb rfl) (fun vm' hv => ⟨_, rfl, rfl, Or.inr ⟨rfl, fun q => hc101 (by have z := congrArg List.length q; rw [hz, List.length_map, List.length_map, List.length_take] at z; rw [show U = 3 from by simp at z; omega]; rfl)⟩⟩)
  refine oIcT W0 (cd := .eq) (o := 5) (by decide +kernel) (XT.ii_eq_t hc101) (pc' := 243) (by decide) (by decide) ?_
  obtain rfl : U = 3 := ofNat_inj (b := 3) (by omega) (by omega) hc101.symm
  refine oGo W0 [.iconst 1, .istore 8, .iload 7] (by decide +kernel) (ls' := #[sR a, sI vl, sR b, sI (Int32.ofNat 3), sI kk, sI 1, sI 3, sI 3, sI 1]) (st' := [(.int 3)]) rfl rfl (pc' := 248) rfl ?_
  refine oIfF W0 (cd := .le) (o := 31) (by decide +kernel) (XT.i0_le_f (by decide)) (pc' := 251) rfl ?_
  refine oGo W0 [.iload 8] (by decide +kernel) (ls' := #[sR a, sI vl, sR b, sI (Int32.ofNat 3), sI kk, sI 1, sI 3, sI 3, sI 1]) (st' := [(.int 1)]) rfl rfl (pc' := 253) rfl ?_
  refine oIfF W0 (cd := .eq) (o := 23) (by decide +kernel) (XT.i0_eq_f (by decide)) (pc' := 256) rfl ?_
  refine oGo W0 [.aload_n 0, .iload 5] (by decide +kernel) (ls' := #[sR a, sI vl, sR b, sI (Int32.ofNat 3), sI kk, sI 1, sI 3, sI 3, sI 1]) (st' := [(.int 1), (.ref a)]) rfl rfl (pc' := 259) rfl ?_
  refine oGet W0 A (v := (.int c1)) (by decide) rfl (Or.inl ⟨rfl, rfl⟩) (by decide +kernel) ?_
  obtain ⟨v102, T102, L102, h102, vm102, W102, ⟨rfl, e102⟩, C102, st102⟩ := oCallS W0 (idx := 32) (pc := 260) (ls := #[sR a, sI vl, sR b, sI (Int32.ofNat 3), sI kk, sI 1, sI 3, sI 3, sI 1]) (st := []) (argsL := [(.int c1)]) (c_fo K) (fun x hx => nomatch hx) (wK K 135 rfl) (wK K 136 rfl) (wK K 3 rfl) (wK K 137 rfl) (by decide) (na := 1) rfl (by decide +kernel) rfl (stk := [(.int c1)]) rfl (by decide +kernel) (V := 0) (lb rfl) (lb rfl) (lb rfl) (lb rfl) (lb rfl)
  refine oLift st102 ?_
  rw [e102] at W102 C102
  show OG _ _ _ _ _ _ _ _ _ _ _ (mkF m 263 #[sR a, sI vl, sR b, sI (Int32.ofNat 3), sI kk, sI 1, sI 3, sI 3, sI 1] [(.int (fld c1))])
  refine oGo W102 [.aload_n 2, .iconst 0] (by decide +kernel) (ls' := #[sR a, sI vl, sR b, sI (Int32.ofNat 3), sI kk, sI 1, sI 3, sI 3, sI 1]) (st' := [(.int 0), (.ref b), (.int (fld c1))]) rfl rfl (pc' := 265) rfl ?_
  refine oGet W102 B (v := (.int d0)) (by decide) rfl (Or.inl ⟨rfl, rfl⟩) (by decide +kernel) ?_
  obtain ⟨v103, T103, L103, h103, vm103, W103, ⟨rfl, e103⟩, C103, st103⟩ := oCallS W102 (idx := 32) (pc := 266) (ls := #[sR a, sI vl, sR b, sI (Int32.ofNat 3), sI kk, sI 1, sI 3, sI 3, sI 1]) (st := [(.int (fld c1))]) (argsL := [(.int d0)]) (c_fo K) (fun x hx => nomatch hx) (wK K 135 rfl) (wK K 136 rfl) (wK K 3 rfl) (wK K 137 rfl) (by decide) (na := 1) rfl (by decide +kernel) rfl (stk := [(.int d0), (.int (fld c1))]) rfl (by decide +kernel) (V := 1) (lb rfl) (lb rfl) (lb rfl) (lb rfl) (lb rfl)
  refine oLift st103 ?_
  rw [e103] at W103 C103
  show OG _ _ _ _ _ _ _ _ _ _ _ (mkF m 269 #[sR a, sI vl, sR b, sI (Int32.ofNat 3), sI kk, sI 1, sI 3, sI 3, sI 1] [(.int (fld d0)), (.int (fld c1))])
  by_cases hc104 : (fld c1) = (fld d0)
  rotate_left
  · refine oIcT W103 (cd := .ne) (o := 7) (by decide +kernel) (XT.ii_ne_t hc104) (pc' := 276) (by decide) (by decide) ?_
    refine oGo W103 [.iconst 0, .istore 8, .iload 7, .iconst 1] (by decide +kernel) (ls' := #[sR a, sI vl, sR b, sI (Int32.ofNat 3), sI kk, sI 1, sI 3, sI 3, sI 0]) (st' := [(.int 1), (.int 3)]) rfl rfl (pc' := 282) rfl ?_
    refine oIcF W103 (cd := .le) (o := 33) (by decide +kernel) (XT.ii_le_f (by decide)) (pc' := 285) rfl ?_
    refine oGo W103 [.iload 8] (by decide +kernel) (ls' := #[sR a, sI vl, sR b, sI (Int32.ofNat 3), sI kk, sI 1, sI 3, sI 3, sI 0]) (st' := [(.int 0)]) rfl rfl (pc' := 287) rfl ?_
    refine oIfT W103 (cd := .eq) (o := 25) (by decide +kernel) (XT.i0_eq_t (by decide)) (pc' := 312) (by decide) (by decide) ?_
    refine oGo W103 [.iconst 0, .istore 8, .iload 7, .iconst 2] (by decide +kernel) (ls' := #[sR a, sI vl, sR b, sI (Int32.ofNat 3), sI kk, sI 1, sI 3, sI 3, sI 0]) (st' := [(.int 2), (.int 3)]) rfl rfl (pc' := 318) rfl ?_
    refine oIcF W103 (cd := .le) (o := 33) (by decide +kernel) (XT.ii_le_f (by decide)) (pc' := 321) rfl ?_
    refine oGo W103 [.iload 8] (by decide +kernel) (ls' := #[sR a, sI vl, sR b, sI (Int32.ofNat 3), sI kk, sI 1, sI 3, sI 3, sI 0]) (st' := [(.int 0)]) rfl rfl (pc' := 323) rfl ?_
    refine oIfT W103 (cd := .eq) (o := 25) (by decide +kernel) (XT.i0_eq_t (by decide)) (pc' := 348) (by decide) (by decide) ?_
    refine oGo W103 [.iconst 0, .istore 8, .iload 7, .iconst 3] (by decide +kernel) (ls' := #[sR a, sI vl, sR b, sI (Int32.ofNat 3), sI kk, sI 1, sI 3, sI 3, sI 0]) (st' := [(.int 3), (.int 3)]) rfl rfl (pc' := 354) rfl ?_
    refine oIcT W103 (cd := .le) (o := 33) (by decide +kernel) (XT.ii_le_t (by decide)) (pc' := 387) (by decide) (by decide) ?_
    refine oGo W103 [.iload 8] (by decide +kernel) (ls' := #[sR a, sI vl, sR b, sI (Int32.ofNat 3), sI kk, sI 1, sI 3, sI 3, sI 0]) (st' := [(.int 0)]) rfl rfl (pc' := 389) rfl ?_
    exact oRetN (by simp) W103 rfl (by decide +kernel) (lb rfl) (lb rfl) (fun vm' hv => ⟨_, rfl, rfl, Or.inr ⟨rfl, fun q => hc104 (by rw [Nm, hz] at q; simp at q; simp [q])⟩⟩)
  refine oIcF W103 (cd := .ne) (o := 7) (by decide +kernel) (XT.ii_ne_f hc104) (pc' := 272) rfl ?_
  refine oGo W103 [.iconst 1, .goto 4, .istore 8, .iload 7, .iconst 1] (by decide +kernel) (ls' := #[sR a, sI vl, sR b, sI (Int32.ofNat 3), sI kk, sI 1, sI 3, sI 3, sI 1]) (st' := [(.int 1), (.int 3)]) rfl rfl (pc' := 282) rfl ?_
  refine oIcF W103 (cd := .le) (o := 33) (by decide +kernel) (XT.ii_le_f (by decide)) (pc' := 285) rfl ?_
  refine oGo W103 [.iload 8] (by decide +kernel) (ls' := #[sR a, sI vl, sR b, sI (Int32.ofNat 3), sI kk, sI 1, sI 3, sI 3, sI 1]) (st' := [(.int 1)]) rfl rfl (pc' := 287) rfl ?_
  refine oIfF W103 (cd := .eq) (o := 25) (by decide +kernel) (XT.i0_eq_f (by decide)) (pc' := 290) rfl ?_
  refine oGo W103 [.aload_n 0, .iload 5, .iconst 1, .iadd] (by decide +kernel) (ls' := #[sR a, sI vl, sR b, sI (Int32.ofNat 3), sI kk, sI 1, sI 3, sI 3, sI 1]) (st' := [(.int 2), (.ref a)]) rfl rfl (pc' := 295) rfl ?_
  refine oGet W103 A (v := (.int c2)) (by decide) rfl (Or.inl ⟨rfl, rfl⟩) (by decide +kernel) ?_
  obtain ⟨v105, T105, L105, h105, vm105, W105, ⟨rfl, e105⟩, C105, st105⟩ := oCallS W103 (idx := 32) (pc := 296) (ls := #[sR a, sI vl, sR b, sI (Int32.ofNat 3), sI kk, sI 1, sI 3, sI 3, sI 1]) (st := []) (argsL := [(.int c2)]) (c_fo K) (fun x hx => nomatch hx) (wK K 135 rfl) (wK K 136 rfl) (wK K 3 rfl) (wK K 137 rfl) (by decide) (na := 1) rfl (by decide +kernel) rfl (stk := [(.int c2)]) rfl (by decide +kernel) (V := 0) (lb rfl) (lb rfl) (lb rfl) (lb rfl) (lb rfl)
  refine oLift st105 ?_
  rw [e105] at W105 C105
  show OG _ _ _ _ _ _ _ _ _ _ _ (mkF m 299 #[sR a, sI vl, sR b, sI (Int32.ofNat 3), sI kk, sI 1, sI 3, sI 3, sI 1] [(.int (fld c2))])
  refine oGo W105 [.aload_n 2, .iconst 1] (by decide +kernel) (ls' := #[sR a, sI vl, sR b, sI (Int32.ofNat 3), sI kk, sI 1, sI 3, sI 3, sI 1]) (st' := [(.int 1), (.ref b), (.int (fld c2))]) rfl rfl (pc' := 301) rfl ?_
  refine oGet W105 B (v := (.int d1)) (by decide) rfl (Or.inl ⟨rfl, rfl⟩) (by decide +kernel) ?_
  obtain ⟨v106, T106, L106, h106, vm106, W106, ⟨rfl, e106⟩, C106, st106⟩ := oCallS W105 (idx := 32) (pc := 302) (ls := #[sR a, sI vl, sR b, sI (Int32.ofNat 3), sI kk, sI 1, sI 3, sI 3, sI 1]) (st := [(.int (fld c2))]) (argsL := [(.int d1)]) (c_fo K) (fun x hx => nomatch hx) (wK K 135 rfl) (wK K 136 rfl) (wK K 3 rfl) (wK K 137 rfl) (by decide) (na := 1) rfl (by decide +kernel) rfl (stk := [(.int d1), (.int (fld c2))]) rfl (by decide +kernel) (V := 1) (lb rfl) (lb rfl) (lb rfl) (lb rfl) (lb rfl)
  refine oLift st106 ?_
  rw [e106] at W106 C106
  show OG _ _ _ _ _ _ _ _ _ _ _ (mkF m 305 #[sR a, sI vl, sR b, sI (Int32.ofNat 3), sI kk, sI 1, sI 3, sI 3, sI 1] [(.int (fld d1)), (.int (fld c2))])
  by_cases hc107 : (fld c2) = (fld d1)
  rotate_left
  · refine oIcT W106 (cd := .ne) (o := 7) (by decide +kernel) (XT.ii_ne_t hc107) (pc' := 312) (by decide) (by decide) ?_
    refine oGo W106 [.iconst 0, .istore 8, .iload 7, .iconst 2] (by decide +kernel) (ls' := #[sR a, sI vl, sR b, sI (Int32.ofNat 3), sI kk, sI 1, sI 3, sI 3, sI 0]) (st' := [(.int 2), (.int 3)]) rfl rfl (pc' := 318) rfl ?_
    refine oIcF W106 (cd := .le) (o := 33) (by decide +kernel) (XT.ii_le_f (by decide)) (pc' := 321) rfl ?_
    refine oGo W106 [.iload 8] (by decide +kernel) (ls' := #[sR a, sI vl, sR b, sI (Int32.ofNat 3), sI kk, sI 1, sI 3, sI 3, sI 0]) (st' := [(.int 0)]) rfl rfl (pc' := 323) rfl ?_
    refine oIfT W106 (cd := .eq) (o := 25) (by decide +kernel) (XT.i0_eq_t (by decide)) (pc' := 348) (by decide) (by decide) ?_
    refine oGo W106 [.iconst 0, .istore 8, .iload 7, .iconst 3] (by decide +kernel) (ls' := #[sR a, sI vl, sR b, sI (Int32.ofNat 3), sI kk, sI 1, sI 3, sI 3, sI 0]) (st' := [(.int 3), (.int 3)]) rfl rfl (pc' := 354) rfl ?_
    refine oIcT W106 (cd := .le) (o := 33) (by decide +kernel) (XT.ii_le_t (by decide)) (pc' := 387) (by decide) (by decide) ?_
    refine oGo W106 [.iload 8] (by decide +kernel) (ls' := #[sR a, sI vl, sR b, sI (Int32.ofNat 3), sI kk, sI 1, sI 3, sI 3, sI 0]) (st' := [(.int 0)]) rfl rfl (pc' := 389) rfl ?_
    exact oRetN (by simp) W106 rfl (by decide +kernel) (lb rfl) (lb rfl) (fun vm' hv => ⟨_, rfl, rfl, Or.inr ⟨rfl, fun q => hc107 (by rw [Nm, hz] at q; simp at q; simp [q])⟩⟩)
  refine oIcF W106 (cd := .ne) (o := 7) (by decide +kernel) (XT.ii_ne_f hc107) (pc' := 308) rfl ?_
  refine oGo W106 [.iconst 1, .goto 4, .istore 8, .iload 7, .iconst 2] (by decide +kernel) (ls' := #[sR a, sI vl, sR b, sI (Int32.ofNat 3), sI kk, sI 1, sI 3, sI 3, sI 1]) (st' := [(.int 2), (.int 3)]) rfl rfl (pc' := 318) rfl ?_
  refine oIcF W106 (cd := .le) (o := 33) (by decide +kernel) (XT.ii_le_f (by decide)) (pc' := 321) rfl ?_
  refine oGo W106 [.iload 8] (by decide +kernel) (ls' := #[sR a, sI vl, sR b, sI (Int32.ofNat 3), sI kk, sI 1, sI 3, sI 3, sI 1]) (st' := [(.int 1)]) rfl rfl (pc' := 323) rfl ?_
  refine oIfF W106 (cd := .eq) (o := 25) (by decide +kernel) (XT.i0_eq_f (by decide)) (pc' := 326) rfl ?_
  refine oGo W106 [.aload_n 0, .iload 5, .iconst 2, .iadd] (by decide +kernel) (ls' := #[sR a, sI vl, sR b, sI (Int32.ofNat 3), sI kk, sI 1, sI 3, sI 3, sI 1]) (st' := [(.int 3), (.ref a)]) rfl rfl (pc' := 331) rfl ?_
  refine oGet W106 A (v := (.int c3)) (by decide) rfl (Or.inl ⟨rfl, rfl⟩) (by decide +kernel) ?_
  obtain ⟨v108, T108, L108, h108, vm108, W108, ⟨rfl, e108⟩, C108, st108⟩ := oCallS W106 (idx := 32) (pc := 332) (ls := #[sR a, sI vl, sR b, sI (Int32.ofNat 3), sI kk, sI 1, sI 3, sI 3, sI 1]) (st := []) (argsL := [(.int c3)]) (c_fo K) (fun x hx => nomatch hx) (wK K 135 rfl) (wK K 136 rfl) (wK K 3 rfl) (wK K 137 rfl) (by decide) (na := 1) rfl (by decide +kernel) rfl (stk := [(.int c3)]) rfl (by decide +kernel) (V := 0) (lb rfl) (lb rfl) (lb rfl) (lb rfl) (lb rfl)
  refine oLift st108 ?_
  rw [e108] at W108 C108
  show OG _ _ _ _ _ _ _ _ _ _ _ (mkF m 335 #[sR a, sI vl, sR b, sI (Int32.ofNat 3), sI kk, sI 1, sI 3, sI 3, sI 1] [(.int (fld c3))])
  refine oGo W108 [.aload_n 2, .iconst 2] (by decide +kernel) (ls' := #[sR a, sI vl, sR b, sI (Int32.ofNat 3), sI kk, sI 1, sI 3, sI 3, sI 1]) (st' := [(.int 2), (.ref b), (.int (fld c3))]) rfl rfl (pc' := 337) rfl ?_
  refine oGet W108 B (v := (.int d2)) (by decide) rfl (Or.inl ⟨rfl, rfl⟩) (by decide +kernel) ?_
  obtain ⟨v109, T109, L109, h109, vm109, W109, ⟨rfl, e109⟩, C109, st109⟩ := oCallS W108 (idx := 32) (pc := 338) (ls := #[sR a, sI vl, sR b, sI (Int32.ofNat 3), sI kk, sI 1, sI 3, sI 3, sI 1]) (st := [(.int (fld c3))]) (argsL := [(.int d2)]) (c_fo K) (fun x hx => nomatch hx) (wK K 135 rfl) (wK K 136 rfl) (wK K 3 rfl) (wK K 137 rfl) (by decide) (na := 1) rfl (by decide +kernel) rfl (stk := [(.int d2), (.int (fld c3))]) rfl (by decide +kernel) (V := 1) (lb rfl) (lb rfl) (lb rfl) (lb rfl) (lb rfl)
  refine oLift st109 ?_
  rw [e109] at W109 C109
  show OG _ _ _ _ _ _ _ _ _ _ _ (mkF m 341 #[sR a, sI vl, sR b, sI (Int32.ofNat 3), sI kk, sI 1, sI 3, sI 3, sI 1] [(.int (fld d2)), (.int (fld c3))])
  by_cases hc110 : (fld c3) = (fld d2)
  rotate_left
  · refine oIcT W109 (cd := .ne) (o := 7) (by decide +kernel) (XT.ii_ne_t hc110) (pc' := 348) (by decide) (by decide) ?_
    refine oGo W109 [.iconst 0, .istore 8, .iload 7, .iconst 3] (by decide +kernel) (ls' := #[sR a, sI vl, sR b, sI (Int32.ofNat 3), sI kk, sI 1, sI 3, sI 3, sI 0]) (st' := [(.int 3), (.int 3)]) rfl rfl (pc' := 354) rfl ?_
    refine oIcT W109 (cd := .le) (o := 33) (by decide +kernel) (XT.ii_le_t (by decide)) (pc' := 387) (by decide) (by decide) ?_
    refine oGo W109 [.iload 8] (by decide +kernel) (ls' := #[sR a, sI vl, sR b, sI (Int32.ofNat 3), sI kk, sI 1, sI 3, sI 3, sI 0]) (st' := [(.int 0)]) rfl rfl (pc' := 389) rfl ?_
    exact oRetN (by simp) W109 rfl (by decide +kernel) (lb rfl) (lb rfl) (fun vm' hv => ⟨_, rfl, rfl, Or.inr ⟨rfl, fun q => hc110 (by rw [Nm, hz] at q; simp at q; simp [q])⟩⟩)
  refine oIcF W109 (cd := .ne) (o := 7) (by decide +kernel) (XT.ii_ne_f hc110) (pc' := 344) rfl ?_
  refine oGo W109 [.iconst 1, .goto 4, .istore 8, .iload 7, .iconst 3] (by decide +kernel) (ls' := #[sR a, sI vl, sR b, sI (Int32.ofNat 3), sI kk, sI 1, sI 3, sI 3, sI 1]) (st' := [(.int 3), (.int 3)]) rfl rfl (pc' := 354) rfl ?_
  refine oIcT W109 (cd := .le) (o := 33) (by decide +kernel) (XT.ii_le_t (by decide)) (pc' := 387) (by decide) (by decide) ?_
  refine oGo W109 [.iload 8] (by decide +kernel) (ls' := #[sR a, sI vl, sR b, sI (Int32.ofNat 3), sI kk, sI 1, sI 3, sI 3, sI 1]) (st' := [(.int 1)]) rfl rfl (pc' := 389) rfl ?_
  exact oRetN (by simp) W109 rfl (by decide +kernel) (lb rfl) (lb rfl) (fun vm' hv => ⟨_, rfl, rfl, Or.inl ⟨rfl, by rw [Nm, hz]; simp [hc104, hc107, hc110]⟩⟩)

set_option maxRecDepth 65536 in
set_option maxHeartbeats 40000000 in
theorem c_exp_c2_4 {l : Launch} {Z : State} {a0 : Array Value} (K : Ctx Z a0) {nb : Bool} {a b : Addr} {ka kb : ClassId} {c0 c1 c2 c3 d0 d1 d2 d3 : Int32} {V U : Nat} (hV : V ≤ 4) (hU : U ≤ 4) {vl kk : Int32} {p : Program} {e : Env} {s : State} {m : MethodId} {args : Array Value} {below : List Frame} {meth : Method} {cc : Code} {h0 : Heap} {vm0 : Vm} {T0 : State} {lc : List Loc}
    (W0 : OW p l e rm_c_exp s m args below meth cc Z a0 EL nb "com/example/gentle_hub/gentlehub/server/MediaTypesNamesPinLaw" method_6_code 9 (some .boolean) "expected" vm0 T0 lc 0 0 h0) (A : OA Z h0 a ka .char [.int c0, .int c1, .int c2, .int c3]) (B : OA Z h0 b kb .char [.int d0, .int d1, .int d2, .int d3]) (hz : strp (ess (([c0, c1, c2, c3] : List Int32).take V)) = [c2, c3]) :
    OG p e below s Z EL nb (fun v _ h => ∃ r, v = some (.int r) ∧ h = h0 ∧ ((r = 1 ∧ Nm (([c0, c1, c2, c3] : List Int32).take V) (([d0, d1, d2, d3] : List Int32).take U)) ∨ (r = 0 ∧ ¬ (Nm (([c0, c1, c2, c3] : List Int32).take V) (([d0, d1, d2, d3] : List Int32).take U))))) rm_c_exp.cells rm_c_exp.slots T0 (mkF m 215 #[sR a, sI vl, sR b, sI (Int32.ofNat U), sI kk, sI 2, sI 3, sU, sU] []) := by
  have hw := K.1
  have hS : ∀ a ∈ Bundle.stringAtoms, a.before a0 Z = true := K.2.2.1
  refine oGo W0 [.iload 5, .iload 6] (by decide +kernel) (ls' := #[sR a, sI vl, sR b, sI (Int32.ofNat U), sI kk, sI 2, sI 3, sU, sU]) (st' := [(.int 3), (.int 2)]) rfl rfl (pc' := 219) rfl ?_
  refine oIcF W0 (cd := .gt) (o := 13) (by decide +kernel) (XT.ii_gt_f (by decide)) (pc' := 222) rfl ?_
  refine oGo W0 [.iload 6, .iload 5, .isub, .iconst 1, .iadd, .goto 4, .istore 7, .iload 7, .iload_n 3] (by decide +kernel) (ls' := #[sR a, sI vl, sR b, sI (Int32.ofNat U), sI kk, sI 2, sI 3, sI 2, sU]) (st' := [(.int (Int32.ofNat U)), (.int 2)]) rfl rfl (pc' := 238) rfl ?_
  by_cases hc101 : (2 : Int32) = (Int32.ofNat U)
  rotate_left
  · refine oIcF W0 (cd := .eq) (o := 5) (by decide +kernel) (XT.ii_eq_f hc101) (pc' := 241) rfl ?_
    refine oGo W0 [.iconst 0] (by decide +kernel) (ls' := #[sR a, sI vl, sR b, sI (Int32.ofNat U), sI kk, sI 2, sI 3, sI 2, sU]) (st' := [(.int 0)]) rfl rfl (pc' := 242) rfl ?_
    exact oRetN (by simp) W0 rfl (by decide +kernel) (lb rfl) (lb rfl) (fun vm' hv => ⟨_, rfl, rfl, Or.inr ⟨rfl, fun q => hc101 (by have z := congrArg List.length q; rw [hz, List.length_map, List.length_map, List.length_take] at z; rw [show U = 2 from by simp at z; omega]; rfl)⟩⟩)
  refine oIcT W0 (cd := .eq) (o := 5) (by decide +kernel) (XT.ii_eq_t hc101) (pc' := 243) (by decide) (by decide) ?_
  obtain rfl : U = 2 := ofNat_inj (b := 2) (by omega) (by omega) hc101.symm
  refine oGo W0 [.iconst 1, .istore 8, .iload 7] (by decide +kernel) (ls' := #[sR a, sI vl, sR b, sI (Int32.ofNat 2), sI kk, sI 2, sI 3, sI 2, sI 1]) (st' := [(.int 2)]) rfl rfl (pc' := 248) rfl ?_
  refine oIfF W0 (cd := .le) (o := 31) (by decide +kernel) (XT.i0_le_f (by decide)) (pc' := 251) rfl ?_
  refine oGo W0 [.iload 8] (by decide +kernel) (ls' := #[sR a, sI vl, sR b, sI (Int32.ofNat 2), sI kk, sI 2, sI 3, sI 2, sI 1]) (st' := [(.int 1)]) rfl rfl (pc' := 253) rfl ?_
  refine oIfF W0 (cd := .eq) (o := 23) (by decide +kernel) (XT.i0_eq_f (by decide)) (pc' := 256) rfl ?_
  refine oGo W0 [.aload_n 0, .iload 5] (by decide +kernel) (ls' := #[sR a, sI vl, sR b, sI (Int32.ofNat 2), sI kk, sI 2, sI 3, sI 2, sI 1]) (st' := [(.int 2), (.ref a)]) rfl rfl (pc' := 259) rfl ?_
  refine oGet W0 A (v := (.int c2)) (by decide) rfl (Or.inl ⟨rfl, rfl⟩) (by decide +kernel) ?_
  obtain ⟨v102, T102, L102, h102, vm102, W102, ⟨rfl, e102⟩, C102, st102⟩ := oCallS W0 (idx := 32) (pc := 260) (ls := #[sR a, sI vl, sR b, sI (Int32.ofNat 2), sI kk, sI 2, sI 3, sI 2, sI 1]) (st := []) (argsL := [(.int c2)]) (c_fo K) (fun x hx => nomatch hx) (wK K 135 rfl) (wK K 136 rfl) (wK K 3 rfl) (wK K 137 rfl) (by decide) (na := 1) rfl (by decide +kernel) rfl (stk := [(.int c2)]) rfl (by decide +kernel) (V := 0) (lb rfl) (lb rfl) (lb rfl) (lb rfl) (lb rfl)
  refine oLift st102 ?_
  rw [e102] at W102 C102
  show OG _ _ _ _ _ _ _ _ _ _ _ (mkF m 263 #[sR a, sI vl, sR b, sI (Int32.ofNat 2), sI kk, sI 2, sI 3, sI 2, sI 1] [(.int (fld c2))])
  refine oGo W102 [.aload_n 2, .iconst 0] (by decide +kernel) (ls' := #[sR a, sI vl, sR b, sI (Int32.ofNat 2), sI kk, sI 2, sI 3, sI 2, sI 1]) (st' := [(.int 0), (.ref b), (.int (fld c2))]) rfl rfl (pc' := 265) rfl ?_
  refine oGet W102 B (v := (.int d0)) (by decide) rfl (Or.inl ⟨rfl, rfl⟩) (by decide +kernel) ?_
  obtain ⟨v103, T103, L103, h103, vm103, W103, ⟨rfl, e103⟩, C103, st103⟩ := oCallS W102 (idx := 32) (pc := 266) (ls := #[sR a, sI vl, sR b, sI (Int32.ofNat 2), sI kk, sI 2, sI 3, sI 2, sI 1]) (st := [(.int (fld c2))]) (argsL := [(.int d0)]) (c_fo K) (fun x hx => nomatch hx) (wK K 135 rfl) (wK K 136 rfl) (wK K 3 rfl) (wK K 137 rfl) (by decide) (na := 1) rfl (by decide +kernel) rfl (stk := [(.int d0), (.int (fld c2))]) rfl (by decide +kernel) (V := 1) (lb rfl) (lb rfl) (lb rfl) (lb rfl) (lb rfl)
  refine oLift st103 ?_
  rw [e103] at W103 C103
  show OG _ _ _ _ _ _ _ _ _ _ _ (mkF m 269 #[sR a, sI vl, sR b, sI (Int32.ofNat 2), sI kk, sI 2, sI 3, sI 2, sI 1] [(.int (fld d0)), (.int (fld c2))])
  by_cases hc104 : (fld c2) = (fld d0)
  rotate_left
  · refine oIcT W103 (cd := .ne) (o := 7) (by decide +kernel) (XT.ii_ne_t hc104) (pc' := 276) (by decide) (by decide) ?_
    refine oGo W103 [.iconst 0, .istore 8, .iload 7, .iconst 1] (by decide +kernel) (ls' := #[sR a, sI vl, sR b, sI (Int32.ofNat 2), sI kk, sI 2, sI 3, sI 2, sI 0]) (st' := [(.int 1), (.int 2)]) rfl rfl (pc' := 282) rfl ?_
    refine oIcF W103 (cd := .le) (o := 33) (by decide +kernel) (XT.ii_le_f (by decide)) (pc' := 285) rfl ?_
    refine oGo W103 [.iload 8] (by decide +kernel) (ls' := #[sR a, sI vl, sR b, sI (Int32.ofNat 2), sI kk, sI 2, sI 3, sI 2, sI 0]) (st' := [(.int 0)]) rfl rfl (pc' := 287) rfl ?_
    refine oIfT W103 (cd := .eq) (o := 25) (by decide +kernel) (XT.i0_eq_t (by decide)) (pc' := 312) (by decide) (by decide) ?_
    refine oGo W103 [.iconst 0, .istore 8, .iload 7, .iconst 2] (by decide +kernel) (ls' := #[sR a, sI vl, sR b, sI (Int32.ofNat 2), sI kk, sI 2, sI 3, sI 2, sI 0]) (st' := [(.int 2), (.int 2)]) rfl rfl (pc' := 318) rfl ?_
    refine oIcT W103 (cd := .le) (o := 33) (by decide +kernel) (XT.ii_le_t (by decide)) (pc' := 351) (by decide) (by decide) ?_
    refine oGo W103 [.iload 7, .iconst 3] (by decide +kernel) (ls' := #[sR a, sI vl, sR b, sI (Int32.ofNat 2), sI kk, sI 2, sI 3, sI 2, sI 0]) (st' := [(.int 3), (.int 2)]) rfl rfl (pc' := 354) rfl ?_
    refine oIcT W103 (cd := .le) (o := 33) (by decide +kernel) (XT.ii_le_t (by decide)) (pc' := 387) (by decide) (by decide) ?_
    refine oGo W103 [.iload 8] (by decide +kernel) (ls' := #[sR a, sI vl, sR b, sI (Int32.ofNat 2), sI kk, sI 2, sI 3, sI 2, sI 0]) (st' := [(.int 0)]) rfl rfl (pc' := 389) rfl ?_
    exact oRetN (by simp) W103 rfl (by decide +kernel) (lb rfl) (lb rfl) (fun vm' hv => ⟨_, rfl, rfl, Or.inr ⟨rfl, fun q => hc104 (by rw [Nm, hz] at q; simp at q; simp [q])⟩⟩)
  refine oIcF W103 (cd := .ne) (o := 7) (by decide +kernel) (XT.ii_ne_f hc104) (pc' := 272) rfl ?_
  refine oGo W103 [.iconst 1, .goto 4, .istore 8, .iload 7, .iconst 1] (by decide +kernel) (ls' := #[sR a, sI vl, sR b, sI (Int32.ofNat 2), sI kk, sI 2, sI 3, sI 2, sI 1]) (st' := [(.int 1), (.int 2)]) rfl rfl (pc' := 282) rfl ?_
  refine oIcF W103 (cd := .le) (o := 33) (by decide +kernel) (XT.ii_le_f (by decide)) (pc' := 285) rfl ?_
  refine oGo W103 [.iload 8] (by decide +kernel) (ls' := #[sR a, sI vl, sR b, sI (Int32.ofNat 2), sI kk, sI 2, sI 3, sI 2, sI 1]) (st' := [(.int 1)]) rfl rfl (pc' := 287) rfl ?_
  refine oIfF W103 (cd := .eq) (o := 25) (by decide +kernel) (XT.i0_eq_f (by decide)) (pc' := 290) rfl ?_
  refine oGo W103 [.aload_n 0, .iload 5, .iconst 1, .iadd] (by decide +kernel) (ls' := #[sR a, sI vl, sR b, sI (Int32.ofNat 2), sI kk, sI 2, sI 3, sI 2, sI 1]) (st' := [(.int 3), (.ref a)]) rfl rfl (pc' := 295) rfl ?_
  refine oGet W103 A (v := (.int c3)) (by decide) rfl (Or.inl ⟨rfl, rfl⟩) (by decide +kernel) ?_
  obtain ⟨v105, T105, L105, h105, vm105, W105, ⟨rfl, e105⟩, C105, st105⟩ := oCallS W103 (idx := 32) (pc := 296) (ls := #[sR a, sI vl, sR b, sI (Int32.ofNat 2), sI kk, sI 2, sI 3, sI 2, sI 1]) (st := []) (argsL := [(.int c3)]) (c_fo K) (fun x hx => nomatch hx) (wK K 135 rfl) (wK K 136 rfl) (wK K 3 rfl) (wK K 137 rfl) (by decide) (na := 1) rfl (by decide +kernel) rfl (stk := [(.int c3)]) rfl (by decide +kernel) (V := 0) (lb rfl) (lb rfl) (lb rfl) (lb rfl) (lb rfl)
  refine oLift st105 ?_
  rw [e105] at W105 C105
  show OG _ _ _ _ _ _ _ _ _ _ _ (mkF m 299 #[sR a, sI vl, sR b, sI (Int32.ofNat 2), sI kk, sI 2, sI 3, sI 2, sI 1] [(.int (fld c3))])
  refine oGo W105 [.aload_n 2, .iconst 1] (by decide +kernel) (ls' := #[sR a, sI vl, sR b, sI (Int32.ofNat 2), sI kk, sI 2, sI 3, sI 2, sI 1]) (st' := [(.int 1), (.ref b), (.int (fld c3))]) rfl rfl (pc' := 301) rfl ?_
  refine oGet W105 B (v := (.int d1)) (by decide) rfl (Or.inl ⟨rfl, rfl⟩) (by decide +kernel) ?_
  obtain ⟨v106, T106, L106, h106, vm106, W106, ⟨rfl, e106⟩, C106, st106⟩ := oCallS W105 (idx := 32) (pc := 302) (ls := #[sR a, sI vl, sR b, sI (Int32.ofNat 2), sI kk, sI 2, sI 3, sI 2, sI 1]) (st := [(.int (fld c3))]) (argsL := [(.int d1)]) (c_fo K) (fun x hx => nomatch hx) (wK K 135 rfl) (wK K 136 rfl) (wK K 3 rfl) (wK K 137 rfl) (by decide) (na := 1) rfl (by decide +kernel) rfl (stk := [(.int d1), (.int (fld c3))]) rfl (by decide +kernel) (V := 1) (lb rfl) (lb rfl) (lb rfl) (lb rfl) (lb rfl)
  refine oLift st106 ?_
  rw [e106] at W106 C106
  show OG _ _ _ _ _ _ _ _ _ _ _ (mkF m 305 #[sR a, sI vl, sR b, sI (Int32.ofNat 2), sI kk, sI 2, sI 3, sI 2, sI 1] [(.int (fld d1)), (.int (fld c3))])
  by_cases hc107 : (fld c3) = (fld d1)
  rotate_left
  · refine oIcT W106 (cd := .ne) (o := 7) (by decide +kernel) (XT.ii_ne_t hc107) (pc' := 312) (by decide) (by decide) ?_
    refine oGo W106 [.iconst 0, .istore 8, .iload 7, .iconst 2] (by decide +kernel) (ls' := #[sR a, sI vl, sR b, sI (Int32.ofNat 2), sI kk, sI 2, sI 3, sI 2, sI 0]) (st' := [(.int 2), (.int 2)]) rfl rfl (pc' := 318) rfl ?_
    refine oIcT W106 (cd := .le) (o := 33) (by decide +kernel) (XT.ii_le_t (by decide)) (pc' := 351) (by decide) (by decide) ?_
    refine oGo W106 [.iload 7, .iconst 3] (by decide +kernel) (ls' := #[sR a, sI vl, sR b, sI (Int32.ofNat 2), sI kk, sI 2, sI 3, sI 2, sI 0]) (st' := [(.int 3), (.int 2)]) rfl rfl (pc' := 354) rfl ?_
    refine oIcT W106 (cd := .le) (o := 33) (by decide +kernel) (XT.ii_le_t (by decide)) (pc' := 387) (by decide) (by decide) ?_
    refine oGo W106 [.iload 8] (by decide +kernel) (ls' := #[sR a, sI vl, sR b, sI (Int32.ofNat 2), sI kk, sI 2, sI 3, sI 2, sI 0]) (st' := [(.int 0)]) rfl rfl (pc' := 389) rfl ?_
    exact oRetN (by simp) W106 rfl (by decide +kernel) (lb rfl) (lb rfl) (fun vm' hv => ⟨_, rfl, rfl, Or.inr ⟨rfl, fun q => hc107 (by rw [Nm, hz] at q; simp at q; simp [q])⟩⟩)
  refine oIcF W106 (cd := .ne) (o := 7) (by decide +kernel) (XT.ii_ne_f hc107) (pc' := 308) rfl ?_
  refine oGo W106 [.iconst 1, .goto 4, .istore 8, .iload 7, .iconst 2] (by decide +kernel) (ls' := #[sR a, sI vl, sR b, sI (Int32.ofNat 2), sI kk, sI 2, sI 3, sI 2, sI 1]) (st' := [(.int 2), (.int 2)]) rfl rfl (pc' := 318) rfl ?_
  refine oIcT W106 (cd := .le) (o := 33) (by decide +kernel) (XT.ii_le_t (by decide)) (pc' := 351) (by decide) (by decide) ?_
  refine oGo W106 [.iload 7, .iconst 3] (by decide +kernel) (ls' := #[sR a, sI vl, sR b, sI (Int32.ofNat 2), sI kk, sI 2, sI 3, sI 2, sI 1]) (st' := [(.int 3), (.int 2)]) rfl rfl (pc' := 354) rfl ?_
  refine oIcT W106 (cd := .le) (o := 33) (by decide +kernel) (XT.ii_le_t (by decide)) (pc' := 387) (by decide) (by decide) ?_
  refine oGo W106 [.iload 8] (by decide +kernel) (ls' := #[sR a, sI vl, sR b, sI (Int32.ofNat 2), sI kk, sI 2, sI 3, sI 2, sI 1]) (st' := [(.int 1)]) rfl rfl (pc' := 389) rfl ?_
  exact oRetN (by simp) W106 rfl (by decide +kernel) (lb rfl) (lb rfl) (fun vm' hv => ⟨_, rfl, rfl, Or.inl ⟨rfl, by rw [Nm, hz]; simp [hc104, hc107]⟩⟩)

set_option maxRecDepth 65536 in
set_option maxHeartbeats 40000000 in
theorem c_exp_c3_4 {l : Launch} {Z : State} {a0 : Array Value} (K : Ctx Z a0) {nb : Bool} {a b : Addr} {ka kb : ClassId} {c0 c1 c2 c3 d0 d1 d2 d3 : Int32} {V U : Nat} (hV : V ≤ 4) (hU : U ≤ 4) {vl kk : Int32} {p : Program} {e : Env} {s : State} {m : MethodId} {args : Array Value} {below : List Frame} {meth : Method} {cc : Code} {h0 : Heap} {vm0 : Vm} {T0 : State} {lc : List Loc}
    (W0 : OW p l e rm_c_exp s m args below meth cc Z a0 EL nb "com/example/gentle_hub/gentlehub/server/MediaTypesNamesPinLaw" method_6_code 9 (some .boolean) "expected" vm0 T0 lc 0 0 h0) (A : OA Z h0 a ka .char [.int c0, .int c1, .int c2, .int c3]) (B : OA Z h0 b kb .char [.int d0, .int d1, .int d2, .int d3]) (hz : strp (ess (([c0, c1, c2, c3] : List Int32).take V)) = [c3]) :
    OG p e below s Z EL nb (fun v _ h => ∃ r, v = some (.int r) ∧ h = h0 ∧ ((r = 1 ∧ Nm (([c0, c1, c2, c3] : List Int32).take V) (([d0, d1, d2, d3] : List Int32).take U)) ∨ (r = 0 ∧ ¬ (Nm (([c0, c1, c2, c3] : List Int32).take V) (([d0, d1, d2, d3] : List Int32).take U))))) rm_c_exp.cells rm_c_exp.slots T0 (mkF m 215 #[sR a, sI vl, sR b, sI (Int32.ofNat U), sI kk, sI 3, sI 3, sU, sU] []) := by
  have hw := K.1
  have hS : ∀ a ∈ Bundle.stringAtoms, a.before a0 Z = true := K.2.2.1
  refine oGo W0 [.iload 5, .iload 6] (by decide +kernel) (ls' := #[sR a, sI vl, sR b, sI (Int32.ofNat U), sI kk, sI 3, sI 3, sU, sU]) (st' := [(.int 3), (.int 3)]) rfl rfl (pc' := 219) rfl ?_
  refine oIcF W0 (cd := .gt) (o := 13) (by decide +kernel) (XT.ii_gt_f (by decide)) (pc' := 222) rfl ?_
  refine oGo W0 [.iload 6, .iload 5, .isub, .iconst 1, .iadd, .goto 4, .istore 7, .iload 7, .iload_n 3] (by decide +kernel) (ls' := #[sR a, sI vl, sR b, sI (Int32.ofNat U), sI kk, sI 3, sI 3, sI 1, sU]) (st' := [(.int (Int32.ofNat U)), (.int 1)]) rfl rfl (pc' := 238) rfl ?_
  by_cases hc101 : (1 : Int32) = (Int32.ofNat U)
  rotate_left
  · refine oIcF W0 (cd := .eq) (o := 5) (by decide +kernel) (XT.ii_eq_f hc101) (pc' := 241) rfl ?_
    refine oGo W0 [.iconst 0] (by decide +kernel) (ls' := #[sR a, sI vl, sR b, sI (Int32.ofNat U), sI kk, sI 3, sI 3, sI 1, sU]) (st' := [(.int 0)]) rfl rfl (pc' := 242) rfl ?_
    exact oRetN (by simp) W0 rfl (by decide +kernel) (lb rfl) (lb rfl) (fun vm' hv => ⟨_, rfl, rfl, Or.inr ⟨rfl, fun q => hc101 (by have z := congrArg List.length q; rw [hz, List.length_map, List.length_map, List.length_take] at z; rw [show U = 1 from by simp at z; omega]; rfl)⟩⟩)
  refine oIcT W0 (cd := .eq) (o := 5) (by decide +kernel) (XT.ii_eq_t hc101) (pc' := 243) (by decide) (by decide) ?_
  obtain rfl : U = 1 := ofNat_inj (b := 1) (by omega) (by omega) hc101.symm
  refine oGo W0 [.iconst 1, .istore 8, .iload 7] (by decide +kernel) (ls' := #[sR a, sI vl, sR b, sI (Int32.ofNat 1), sI kk, sI 3, sI 3, sI 1, sI 1]) (st' := [(.int 1)]) rfl rfl (pc' := 248) rfl ?_
  refine oIfF W0 (cd := .le) (o := 31) (by decide +kernel) (XT.i0_le_f (by decide)) (pc' := 251) rfl ?_
  refine oGo W0 [.iload 8] (by decide +kernel) (ls' := #[sR a, sI vl, sR b, sI (Int32.ofNat 1), sI kk, sI 3, sI 3, sI 1, sI 1]) (st' := [(.int 1)]) rfl rfl (pc' := 253) rfl ?_
  refine oIfF W0 (cd := .eq) (o := 23) (by decide +kernel) (XT.i0_eq_f (by decide)) (pc' := 256) rfl ?_
  refine oGo W0 [.aload_n 0, .iload 5] (by decide +kernel) (ls' := #[sR a, sI vl, sR b, sI (Int32.ofNat 1), sI kk, sI 3, sI 3, sI 1, sI 1]) (st' := [(.int 3), (.ref a)]) rfl rfl (pc' := 259) rfl ?_
  refine oGet W0 A (v := (.int c3)) (by decide) rfl (Or.inl ⟨rfl, rfl⟩) (by decide +kernel) ?_
  obtain ⟨v102, T102, L102, h102, vm102, W102, ⟨rfl, e102⟩, C102, st102⟩ := oCallS W0 (idx := 32) (pc := 260) (ls := #[sR a, sI vl, sR b, sI (Int32.ofNat 1), sI kk, sI 3, sI 3, sI 1, sI 1]) (st := []) (argsL := [(.int c3)]) (c_fo K) (fun x hx => nomatch hx) (wK K 135 rfl) (wK K 136 rfl) (wK K 3 rfl) (wK K 137 rfl) (by decide) (na := 1) rfl (by decide +kernel) rfl (stk := [(.int c3)]) rfl (by decide +kernel) (V := 0) (lb rfl) (lb rfl) (lb rfl) (lb rfl) (lb rfl)
  refine oLift st102 ?_
  rw [e102] at W102 C102
  show OG _ _ _ _ _ _ _ _ _ _ _ (mkF m 263 #[sR a, sI vl, sR b, sI (Int32.ofNat 1), sI kk, sI 3, sI 3, sI 1, sI 1] [(.int (fld c3))])
  refine oGo W102 [.aload_n 2, .iconst 0] (by decide +kernel) (ls' := #[sR a, sI vl, sR b, sI (Int32.ofNat 1), sI kk, sI 3, sI 3, sI 1, sI 1]) (st' := [(.int 0), (.ref b), (.int (fld c3))]) rfl rfl (pc' := 265) rfl ?_
  refine oGet W102 B (v := (.int d0)) (by decide) rfl (Or.inl ⟨rfl, rfl⟩) (by decide +kernel) ?_
  obtain ⟨v103, T103, L103, h103, vm103, W103, ⟨rfl, e103⟩, C103, st103⟩ := oCallS W102 (idx := 32) (pc := 266) (ls := #[sR a, sI vl, sR b, sI (Int32.ofNat 1), sI kk, sI 3, sI 3, sI 1, sI 1]) (st := [(.int (fld c3))]) (argsL := [(.int d0)]) (c_fo K) (fun x hx => nomatch hx) (wK K 135 rfl) (wK K 136 rfl) (wK K 3 rfl) (wK K 137 rfl) (by decide) (na := 1) rfl (by decide +kernel) rfl (stk := [(.int d0), (.int (fld c3))]) rfl (by decide +kernel) (V := 1) (lb rfl) (lb rfl) (lb rfl) (lb rfl) (lb rfl)
  refine oLift st103 ?_
  rw [e103] at W103 C103
  show OG _ _ _ _ _ _ _ _ _ _ _ (mkF m 269 #[sR a, sI vl, sR b, sI (Int32.ofNat 1), sI kk, sI 3, sI 3, sI 1, sI 1] [(.int (fld d0)), (.int (fld c3))])
  by_cases hc104 : (fld c3) = (fld d0)
  rotate_left
  · refine oIcT W103 (cd := .ne) (o := 7) (by decide +kernel) (XT.ii_ne_t hc104) (pc' := 276) (by decide) (by decide) ?_
    refine oGo W103 [.iconst 0, .istore 8, .iload 7, .iconst 1] (by decide +kernel) (ls' := #[sR a, sI vl, sR b, sI (Int32.ofNat 1), sI kk, sI 3, sI 3, sI 1, sI 0]) (st' := [(.int 1), (.int 1)]) rfl rfl (pc' := 282) rfl ?_
    refine oIcT W103 (cd := .le) (o := 33) (by decide +kernel) (XT.ii_le_t (by decide)) (pc' := 315) (by decide) (by decide) ?_
    refine oGo W103 [.iload 7, .iconst 2] (by decide +kernel) (ls' := #[sR a, sI vl, sR b, sI (Int32.ofNat 1), sI kk, sI 3, sI 3, sI 1, sI 0]) (st' := [(.int 2), (.int 1)]) rfl rfl (pc' := 318) rfl ?_
    refine oIcT W103 (cd := .le) (o := 33) (by decide +kernel) (XT.ii_le_t (by decide)) (pc' := 351) (by decide) (by decide) ?_
    refine oGo W103 [.iload 7, .iconst 3] (by decide +kernel) (ls' := #[sR a, sI vl, sR b, sI (Int32.ofNat 1), sI kk, sI 3, sI 3, sI 1, sI 0]) (st' := [(.int 3), (.int 1)]) rfl rfl (pc' := 354) rfl ?_
    refine oIcT W103 (cd := .le) (o := 33) (by decide +kernel) (XT.ii_le_t (by decide)) (pc' := 387) (by decide) (by decide) ?_
    refine oGo W103 [.iload 8] (by decide +kernel) (ls' := #[sR a, sI vl, sR b, sI (Int32.ofNat 1), sI kk, sI 3, sI 3, sI 1, sI 0]) (st' := [(.int 0)]) rfl rfl (pc' := 389) rfl ?_
    exact oRetN (by simp) W103 rfl (by decide +kernel) (lb rfl) (lb rfl) (fun vm' hv => ⟨_, rfl, rfl, Or.inr ⟨rfl, fun q => hc104 (by rw [Nm, hz] at q; simp at q; simp [q])⟩⟩)
  refine oIcF W103 (cd := .ne) (o := 7) (by decide +kernel) (XT.ii_ne_f hc104) (pc' := 272) rfl ?_
  refine oGo W103 [.iconst 1, .goto 4, .istore 8, .iload 7, .iconst 1] (by decide +kernel) (ls' := #[sR a, sI vl, sR b, sI (Int32.ofNat 1), sI kk, sI 3, sI 3, sI 1, sI 1]) (st' := [(.int 1), (.int 1)]) rfl rfl (pc' := 282) rfl ?_
  refine oIcT W103 (cd := .le) (o := 33) (by decide +kernel) (XT.ii_le_t (by decide)) (pc' := 315) (by decide) (by decide) ?_
  refine oGo W103 [.iload 7, .iconst 2] (by decide +kernel) (ls' := #[sR a, sI vl, sR b, sI (Int32.ofNat 1), sI kk, sI 3, sI 3, sI 1, sI 1]) (st' := [(.int 2), (.int 1)]) rfl rfl (pc' := 318) rfl ?_
  refine oIcT W103 (cd := .le) (o := 33) (by decide +kernel) (XT.ii_le_t (by decide)) (pc' := 351) (by decide) (by decide) ?_
  refine oGo W103 [.iload 7, .iconst 3] (by decide +kernel) (ls' := #[sR a, sI vl, sR b, sI (Int32.ofNat 1), sI kk, sI 3, sI 3, sI 1, sI 1]) (st' := [(.int 3), (.int 1)]) rfl rfl (pc' := 354) rfl ?_
  refine oIcT W103 (cd := .le) (o := 33) (by decide +kernel) (XT.ii_le_t (by decide)) (pc' := 387) (by decide) (by decide) ?_
  refine oGo W103 [.iload 8] (by decide +kernel) (ls' := #[sR a, sI vl, sR b, sI (Int32.ofNat 1), sI kk, sI 3, sI 3, sI 1, sI 1]) (st' := [(.int 1)]) rfl rfl (pc' := 389) rfl ?_
  exact oRetN (by simp) W103 rfl (by decide +kernel) (lb rfl) (lb rfl) (fun vm' hv => ⟨_, rfl, rfl, Or.inl ⟨rfl, by rw [Nm, hz]; simp [hc104]⟩⟩)

set_option maxRecDepth 65536 in
set_option maxHeartbeats 40000000 in
theorem c_exp_c0_0 {l : Launch} {Z : State} {a0 : Array Value} (K : Ctx Z a0) {nb : Bool} {a b : Addr} {ka kb : ClassId} {c0 c1 c2 c3 d0 d1 d2 d3 : Int32} {V U : Nat} (hV : V ≤ 4) (hU : U ≤ 4) {vl kk : Int32} {p : Program} {e : Env} {s : State} {m : MethodId} {args : Array Value} {below : List Frame} {meth : Method} {cc : Code} {h0 : Heap} {vm0 : Vm} {T0 : State} {lc : List Loc}
    (W0 : OW p l e rm_c_exp s m args below meth cc Z a0 EL nb "com/example/gentle_hub/gentlehub/server/MediaTypesNamesPinLaw" method_6_code 9 (some .boolean) "expected" vm0 T0 lc 0 0 h0) (A : OA Z h0 a ka .char [.int c0, .int c1, .int c2, .int c3]) (B : OA Z h0 b kb .char [.int d0, .int d1, .int d2, .int d3]) (hz : strp (ess (([c0, c1, c2, c3] : List Int32).take V)) = []) :
    OG p e below s Z EL nb (fun v _ h => ∃ r, v = some (.int r) ∧ h = h0 ∧ ((r = 1 ∧ Nm (([c0, c1, c2, c3] : List Int32).take V) (([d0, d1, d2, d3] : List Int32).take U)) ∨ (r = 0 ∧ ¬ (Nm (([c0, c1, c2, c3] : List Int32).take V) (([d0, d1, d2, d3] : List Int32).take U))))) rm_c_exp.cells rm_c_exp.slots T0 (mkF m 215 #[sR a, sI vl, sR b, sI (Int32.ofNat U), sI kk, sI 0, sI (-1), sU, sU] []) := by
  have hw := K.1
  have hS : ∀ a ∈ Bundle.stringAtoms, a.before a0 Z = true := K.2.2.1
  refine oGo W0 [.iload 5, .iload 6] (by decide +kernel) (ls' := #[sR a, sI vl, sR b, sI (Int32.ofNat U), sI kk, sI 0, sI (-1), sU, sU]) (st' := [(.int (-1)), (.int 0)]) rfl rfl (pc' := 219) rfl ?_
  refine oIcT W0 (cd := .gt) (o := 13) (by decide +kernel) (XT.ii_gt_t (by decide)) (pc' := 232) (by decide) (by decide) ?_
  refine oGo W0 [.iconst 0, .istore 7, .iload 7, .iload_n 3] (by decide +kernel) (ls' := #[sR a, sI vl, sR b, sI (Int32.ofNat U), sI kk, sI 0, sI (-1), sI 0, sU]) (st' := [(.int (Int32.ofNat U)), (.int 0)]) rfl rfl (pc' := 238) rfl ?_
  by_cases hc101 : (0 : Int32) = (Int32.ofNat U)
  rotate_left
  · refine oIcF W0 (cd := .eq) (o := 5) (by decide +kernel) (XT.ii_eq_f hc101) (pc' := 241) rfl ?_
    refine oGo W0 [.iconst 0] (by decide +kernel) (ls' := #[sR a, sI vl, sR b, sI (Int32.ofNat U), sI kk, sI 0, sI (-1), sI 0, sU]) (st' := [(.int 0)]) rfl rfl (pc' := 242) rfl ?_
    exact oRetN (by simp) W0 rfl (by decide +kernel) (lb rfl) (lb rfl) (fun vm' hv => ⟨_, rfl, rfl, Or.inr ⟨rfl, fun q => hc101 (by have z := congrArg List.length q; rw [hz, List.length_map, List.length_map, List.length_take] at z; rw [show U = 0 from by simp at z; omega]; rfl)⟩⟩)
  refine oIcT W0 (cd := .eq) (o := 5) (by decide +kernel) (XT.ii_eq_t hc101) (pc' := 243) (by decide) (by decide) ?_
  obtain rfl : U = 0 := ofNat_inj (b := 0) (by omega) (by omega) hc101.symm
  refine oGo W0 [.iconst 1, .istore 8, .iload 7] (by decide +kernel) (ls' := #[sR a, sI vl, sR b, sI (Int32.ofNat 0), sI kk, sI 0, sI (-1), sI 0, sI 1]) (st' := [(.int 0)]) rfl rfl (pc' := 248) rfl ?_
  refine oIfT W0 (cd := .le) (o := 31) (by decide +kernel) (XT.i0_le_t (by decide)) (pc' := 279) (by decide) (by decide) ?_
  refine oGo W0 [.iload 7, .iconst 1] (by decide +kernel) (ls' := #[sR a, sI vl, sR b, sI (Int32.ofNat 0), sI kk, sI 0, sI (-1), sI 0, sI 1]) (st' := [(.int 1), (.int 0)]) rfl rfl (pc' := 282) rfl ?_
  refine oIcT W0 (cd := .le) (o := 33) (by decide +kernel) (XT.ii_le_t (by decide)) (pc' := 315) (by decide) (by decide) ?_
  refine oGo W0 [.iload 7, .iconst 2] (by decide +kernel) (ls' := #[sR a, sI vl, sR b, sI (Int32.ofNat 0), sI kk, sI 0, sI (-1), sI 0, sI 1]) (st' := [(.int 2), (.int 0)]) rfl rfl (pc' := 318) rfl ?_
  refine oIcT W0 (cd := .le) (o := 33) (by decide +kernel) (XT.ii_le_t (by decide)) (pc' := 351) (by decide) (by decide) ?_
  refine oGo W0 [.iload 7, .iconst 3] (by decide +kernel) (ls' := #[sR a, sI vl, sR b, sI (Int32.ofNat 0), sI kk, sI 0, sI (-1), sI 0, sI 1]) (st' := [(.int 3), (.int 0)]) rfl rfl (pc' := 354) rfl ?_
  refine oIcT W0 (cd := .le) (o := 33) (by decide +kernel) (XT.ii_le_t (by decide)) (pc' := 387) (by decide) (by decide) ?_
  refine oGo W0 [.iload 8] (by decide +kernel) (ls' := #[sR a, sI vl, sR b, sI (Int32.ofNat 0), sI kk, sI 0, sI (-1), sI 0, sI 1]) (st' := [(.int 1)]) rfl rfl (pc' := 389) rfl ?_
  exact oRetN (by simp) W0 rfl (by decide +kernel) (lb rfl) (lb rfl) (fun vm' hv => ⟨_, rfl, rfl, Or.inl ⟨rfl, by rw [Nm, hz]; simp⟩⟩)

set_option maxRecDepth 65536 in
set_option maxHeartbeats 40000000 in
theorem c_exp_c1_0 {l : Launch} {Z : State} {a0 : Array Value} (K : Ctx Z a0) {nb : Bool} {a b : Addr} {ka kb : ClassId} {c0 c1 c2 c3 d0 d1 d2 d3 : Int32} {V U : Nat} (hV : V ≤ 4) (hU : U ≤ 4) {vl kk : Int32} {p : Program} {e : Env} {s : State} {m : MethodId} {args : Array Value} {below : List Frame} {meth : Method} {cc : Code} {h0 : Heap} {vm0 : Vm} {T0 : State} {lc : List Loc}
    (W0 : OW p l e rm_c_exp s m args below meth cc Z a0 EL nb "com/example/gentle_hub/gentlehub/server/MediaTypesNamesPinLaw" method_6_code 9 (some .boolean) "expected" vm0 T0 lc 0 0 h0) (A : OA Z h0 a ka .char [.int c0, .int c1, .int c2, .int c3]) (B : OA Z h0 b kb .char [.int d0, .int d1, .int d2, .int d3]) (hz : strp (ess (([c0, c1, c2, c3] : List Int32).take V)) = []) :
    OG p e below s Z EL nb (fun v _ h => ∃ r, v = some (.int r) ∧ h = h0 ∧ ((r = 1 ∧ Nm (([c0, c1, c2, c3] : List Int32).take V) (([d0, d1, d2, d3] : List Int32).take U)) ∨ (r = 0 ∧ ¬ (Nm (([c0, c1, c2, c3] : List Int32).take V) (([d0, d1, d2, d3] : List Int32).take U))))) rm_c_exp.cells rm_c_exp.slots T0 (mkF m 215 #[sR a, sI vl, sR b, sI (Int32.ofNat U), sI kk, sI 1, sI (-1), sU, sU] []) := by
  have hw := K.1
  have hS : ∀ a ∈ Bundle.stringAtoms, a.before a0 Z = true := K.2.2.1
  refine oGo W0 [.iload 5, .iload 6] (by decide +kernel) (ls' := #[sR a, sI vl, sR b, sI (Int32.ofNat U), sI kk, sI 1, sI (-1), sU, sU]) (st' := [(.int (-1)), (.int 1)]) rfl rfl (pc' := 219) rfl ?_
  refine oIcT W0 (cd := .gt) (o := 13) (by decide +kernel) (XT.ii_gt_t (by decide)) (pc' := 232) (by decide) (by decide) ?_
  refine oGo W0 [.iconst 0, .istore 7, .iload 7, .iload_n 3] (by decide +kernel) (ls' := #[sR a, sI vl, sR b, sI (Int32.ofNat U), sI kk, sI 1, sI (-1), sI 0, sU]) (st' := [(.int (Int32.ofNat U)), (.int 0)]) rfl rfl (pc' := 238) rfl ?_
  by_cases hc101 : (0 : Int32) = (Int32.ofNat U)
  rotate_left
  · refine oIcF W0 (cd := .eq) (o := 5) (by decide +kernel) (XT.ii_eq_f hc101) (pc' := 241) rfl ?_
    refine oGo W0 [.iconst 0] (by decide +kernel) (ls' := #[sR a, sI vl, sR b, sI (Int32.ofNat U), sI kk, sI 1, sI (-1), sI 0, sU]) (st' := [(.int 0)]) rfl rfl (pc' := 242) rfl ?_
    exact oRetN (by simp) W0 rfl (by decide +kernel) (lb rfl) (lb rfl) (fun vm' hv => ⟨_, rfl, rfl, Or.inr ⟨rfl, fun q => hc101 (by have z := congrArg List.length q; rw [hz, List.length_map, List.length_map, List.length_take] at z; rw [show U = 0 from by simp at z; omega]; rfl)⟩⟩)
  refine oIcT W0 (cd := .eq) (o := 5) (by decide +kernel) (XT.ii_eq_t hc101) (pc' := 243) (by decide) (by decide) ?_
  obtain rfl : U = 0 := ofNat_inj (b := 0) (by omega) (by omega) hc101.symm
  refine oGo W0 [.iconst 1, .istore 8, .iload 7] (by decide +kernel) (ls' := #[sR a, sI vl, sR b, sI (Int32.ofNat 0), sI kk, sI 1, sI (-1), sI 0, sI 1]) (st' := [(.int 0)]) rfl rfl (pc' := 248) rfl ?_
  refine oIfT W0 (cd := .le) (o := 31) (by decide +kernel) (XT.i0_le_t (by decide)) (pc' := 279) (by decide) (by decide) ?_
  refine oGo W0 [.iload 7, .iconst 1] (by decide +kernel) (ls' := #[sR a, sI vl, sR b, sI (Int32.ofNat 0), sI kk, sI 1, sI (-1), sI 0, sI 1]) (st' := [(.int 1), (.int 0)]) rfl rfl (pc' := 282) rfl ?_
  refine oIcT W0 (cd := .le) (o := 33) (by decide +kernel) (XT.ii_le_t (by decide)) (pc' := 315) (by decide) (by decide) ?_
  refine oGo W0 [.iload 7, .iconst 2] (by decide +kernel) (ls' := #[sR a, sI vl, sR b, sI (Int32.ofNat 0), sI kk, sI 1, sI (-1), sI 0, sI 1]) (st' := [(.int 2), (.int 0)]) rfl rfl (pc' := 318) rfl ?_
  refine oIcT W0 (cd := .le) (o := 33) (by decide +kernel) (XT.ii_le_t (by decide)) (pc' := 351) (by decide) (by decide) ?_
  refine oGo W0 [.iload 7, .iconst 3] (by decide +kernel) (ls' := #[sR a, sI vl, sR b, sI (Int32.ofNat 0), sI kk, sI 1, sI (-1), sI 0, sI 1]) (st' := [(.int 3), (.int 0)]) rfl rfl (pc' := 354) rfl ?_
  refine oIcT W0 (cd := .le) (o := 33) (by decide +kernel) (XT.ii_le_t (by decide)) (pc' := 387) (by decide) (by decide) ?_
  refine oGo W0 [.iload 8] (by decide +kernel) (ls' := #[sR a, sI vl, sR b, sI (Int32.ofNat 0), sI kk, sI 1, sI (-1), sI 0, sI 1]) (st' := [(.int 1)]) rfl rfl (pc' := 389) rfl ?_
  exact oRetN (by simp) W0 rfl (by decide +kernel) (lb rfl) (lb rfl) (fun vm' hv => ⟨_, rfl, rfl, Or.inl ⟨rfl, by rw [Nm, hz]; simp⟩⟩)

set_option maxRecDepth 65536 in
set_option maxHeartbeats 40000000 in
theorem c_exp_c2_0 {l : Launch} {Z : State} {a0 : Array Value} (K : Ctx Z a0) {nb : Bool} {a b : Addr} {ka kb : ClassId} {c0 c1 c2 c3 d0 d1 d2 d3 : Int32} {V U : Nat} (hV : V ≤ 4) (hU : U ≤ 4) {vl kk : Int32} {p : Program} {e : Env} {s : State} {m : MethodId} {args : Array Value} {below : List Frame} {meth : Method} {cc : Code} {h0 : Heap} {vm0 : Vm} {T0 : State} {lc : List Loc}
    (W0 : OW p l e rm_c_exp s m args below meth cc Z a0 EL nb "com/example/gentle_hub/gentlehub/server/MediaTypesNamesPinLaw" method_6_code 9 (some .boolean) "expected" vm0 T0 lc 0 0 h0) (A : OA Z h0 a ka .char [.int c0, .int c1, .int c2, .int c3]) (B : OA Z h0 b kb .char [.int d0, .int d1, .int d2, .int d3]) (hz : strp (ess (([c0, c1, c2, c3] : List Int32).take V)) = []) :
    OG p e below s Z EL nb (fun v _ h => ∃ r, v = some (.int r) ∧ h = h0 ∧ ((r = 1 ∧ Nm (([c0, c1, c2, c3] : List Int32).take V) (([d0, d1, d2, d3] : List Int32).take U)) ∨ (r = 0 ∧ ¬ (Nm (([c0, c1, c2, c3] : List Int32).take V) (([d0, d1, d2, d3] : List Int32).take U))))) rm_c_exp.cells rm_c_exp.slots T0 (mkF m 215 #[sR a, sI vl, sR b, sI (Int32.ofNat U), sI kk, sI 2, sI (-1), sU, sU] []) := by
  have hw := K.1
  have hS : ∀ a ∈ Bundle.stringAtoms, a.before a0 Z = true := K.2.2.1
  refine oGo W0 [.iload 5, .iload 6] (by decide +kernel) (ls' := #[sR a, sI vl, sR b, sI (Int32.ofNat U), sI kk, sI 2, sI (-1), sU, sU]) (st' := [(.int (-1)), (.int 2)]) rfl rfl (pc' := 219) rfl ?_
  refine oIcT W0 (cd := .gt) (o := 13) (by decide +kernel) (XT.ii_gt_t (by decide)) (pc' := 232) (by decide) (by decide) ?_
  refine oGo W0 [.iconst 0, .istore 7, .iload 7, .iload_n 3] (by decide +kernel) (ls' := #[sR a, sI vl, sR b, sI (Int32.ofNat U), sI kk, sI 2, sI (-1), sI 0, sU]) (st' := [(.int (Int32.ofNat U)), (.int 0)]) rfl rfl (pc' := 238) rfl ?_
  by_cases hc101 : (0 : Int32) = (Int32.ofNat U)
  rotate_left
  · refine oIcF W0 (cd := .eq) (o := 5) (by decide +kernel) (XT.ii_eq_f hc101) (pc' := 241) rfl ?_
    refine oGo W0 [.iconst 0] (by decide +kernel) (ls' := #[sR a, sI vl, sR b, sI (Int32.ofNat U), sI kk, sI 2, sI (-1), sI 0, sU]) (st' := [(.int 0)]) rfl rfl (pc' := 242) rfl ?_
    exact oRetN (by simp) W0 rfl (by decide +kernel) (lb rfl) (lb rfl) (fun vm' hv => ⟨_, rfl, rfl, Or.inr ⟨rfl, fun q => hc101 (by have z := congrArg List.length q; rw [hz, List.length_map, List.length_map, List.length_take] at z; rw [show U = 0 from by simp at z; omega]; rfl)⟩⟩)
  refine oIcT W0 (cd := .eq) (o := 5) (by decide +kernel) (XT.ii_eq_t hc101) (pc' := 243) (by decide) (by decide) ?_
  obtain rfl : U = 0 := ofNat_inj (b := 0) (by omega) (by omega) hc101.symm
  refine oGo W0 [.iconst 1, .istore 8, .iload 7] (by decide +kernel) (ls' := #[sR a, sI vl, sR b, sI (Int32.ofNat 0), sI kk, sI 2, sI (-1), sI 0, sI 1]) (st' := [(.int 0)]) rfl rfl (pc' := 248) rfl ?_
  refine oIfT W0 (cd := .le) (o := 31) (by decide +kernel) (XT.i0_le_t (by decide)) (pc' := 279) (by decide) (by decide) ?_
  refine oGo W0 [.iload 7, .iconst 1] (by decide +kernel) (ls' := #[sR a, sI vl, sR b, sI (Int32.ofNat 0), sI kk, sI 2, sI (-1), sI 0, sI 1]) (st' := [(.int 1), (.int 0)]) rfl rfl (pc' := 282) rfl ?_
  refine oIcT W0 (cd := .le) (o := 33) (by decide +kernel) (XT.ii_le_t (by decide)) (pc' := 315) (by decide) (by decide) ?_
  refine oGo W0 [.iload 7, .iconst 2] (by decide +kernel) (ls' := #[sR a, sI vl, sR b, sI (Int32.ofNat 0), sI kk, sI 2, sI (-1), sI 0, sI 1]) (st' := [(.int 2), (.int 0)]) rfl rfl (pc' := 318) rfl ?_
  refine oIcT W0 (cd := .le) (o := 33) (by decide +kernel) (XT.ii_le_t (by decide)) (pc' := 351) (by decide) (by decide) ?_
  refine oGo W0 [.iload 7, .iconst 3] (by decide +kernel) (ls' := #[sR a, sI vl, sR b, sI (Int32.ofNat 0), sI kk, sI 2, sI (-1), sI 0, sI 1]) (st' := [(.int 3), (.int 0)]) rfl rfl (pc' := 354) rfl ?_
  refine oIcT W0 (cd := .le) (o := 33) (by decide +kernel) (XT.ii_le_t (by decide)) (pc' := 387) (by decide) (by decide) ?_
  refine oGo W0 [.iload 8] (by decide +kernel) (ls' := #[sR a, sI vl, sR b, sI (Int32.ofNat 0), sI kk, sI 2, sI (-1), sI 0, sI 1]) (st' := [(.int 1)]) rfl rfl (pc' := 389) rfl ?_
  exact oRetN (by simp) W0 rfl (by decide +kernel) (lb rfl) (lb rfl) (fun vm' hv => ⟨_, rfl, rfl, Or.inl ⟨rfl, by rw [Nm, hz]; simp⟩⟩)

set_option maxRecDepth 65536 in
set_option maxHeartbeats 40000000 in
theorem c_exp_c3_0 {l : Launch} {Z : State} {a0 : Array Value} (K : Ctx Z a0) {nb : Bool} {a b : Addr} {ka kb : ClassId} {c0 c1 c2 c3 d0 d1 d2 d3 : Int32} {V U : Nat} (hV : V ≤ 4) (hU : U ≤ 4) {vl kk : Int32} {p : Program} {e : Env} {s : State} {m : MethodId} {args : Array Value} {below : List Frame} {meth : Method} {cc : Code} {h0 : Heap} {vm0 : Vm} {T0 : State} {lc : List Loc}
    (W0 : OW p l e rm_c_exp s m args below meth cc Z a0 EL nb "com/example/gentle_hub/gentlehub/server/MediaTypesNamesPinLaw" method_6_code 9 (some .boolean) "expected" vm0 T0 lc 0 0 h0) (A : OA Z h0 a ka .char [.int c0, .int c1, .int c2, .int c3]) (B : OA Z h0 b kb .char [.int d0, .int d1, .int d2, .int d3]) (hz : strp (ess (([c0, c1, c2, c3] : List Int32).take V)) = []) :
    OG p e below s Z EL nb (fun v _ h => ∃ r, v = some (.int r) ∧ h = h0 ∧ ((r = 1 ∧ Nm (([c0, c1, c2, c3] : List Int32).take V) (([d0, d1, d2, d3] : List Int32).take U)) ∨ (r = 0 ∧ ¬ (Nm (([c0, c1, c2, c3] : List Int32).take V) (([d0, d1, d2, d3] : List Int32).take U))))) rm_c_exp.cells rm_c_exp.slots T0 (mkF m 215 #[sR a, sI vl, sR b, sI (Int32.ofNat U), sI kk, sI 3, sI (-1), sU, sU] []) := by
  have hw := K.1
  have hS : ∀ a ∈ Bundle.stringAtoms, a.before a0 Z = true := K.2.2.1
  refine oGo W0 [.iload 5, .iload 6] (by decide +kernel) (ls' := #[sR a, sI vl, sR b, sI (Int32.ofNat U), sI kk, sI 3, sI (-1), sU, sU]) (st' := [(.int (-1)), (.int 3)]) rfl rfl (pc' := 219) rfl ?_
  refine oIcT W0 (cd := .gt) (o := 13) (by decide +kernel) (XT.ii_gt_t (by decide)) (pc' := 232) (by decide) (by decide) ?_
  refine oGo W0 [.iconst 0, .istore 7, .iload 7, .iload_n 3] (by decide +kernel) (ls' := #[sR a, sI vl, sR b, sI (Int32.ofNat U), sI kk, sI 3, sI (-1), sI 0, sU]) (st' := [(.int (Int32.ofNat U)), (.int 0)]) rfl rfl (pc' := 238) rfl ?_
  by_cases hc101 : (0 : Int32) = (Int32.ofNat U)
  rotate_left
  · refine oIcF W0 (cd := .eq) (o := 5) (by decide +kernel) (XT.ii_eq_f hc101) (pc' := 241) rfl ?_
    refine oGo W0 [.iconst 0] (by decide +kernel) (ls' := #[sR a, sI vl, sR b, sI (Int32.ofNat U), sI kk, sI 3, sI (-1), sI 0, sU]) (st' := [(.int 0)]) rfl rfl (pc' := 242) rfl ?_
    exact oRetN (by simp) W0 rfl (by decide +kernel) (lb rfl) (lb rfl) (fun vm' hv => ⟨_, rfl, rfl, Or.inr ⟨rfl, fun q => hc101 (by have z := congrArg List.length q; rw [hz, List.length_map, List.length_map, List.length_take] at z; rw [show U = 0 from by simp at z; omega]; rfl)⟩⟩)
  refine oIcT W0 (cd := .eq) (o := 5) (by decide +kernel) (XT.ii_eq_t hc101) (pc' := 243) (by decide) (by decide) ?_
  obtain rfl : U = 0 := ofNat_inj (b := 0) (by omega) (by omega) hc101.symm
  refine oGo W0 [.iconst 1, .istore 8, .iload 7] (by decide +kernel) (ls' := #[sR a, sI vl, sR b, sI (Int32.ofNat 0), sI kk, sI 3, sI (-1), sI 0, sI 1]) (st' := [(.int 0)]) rfl rfl (pc' := 248) rfl ?_
  refine oIfT W0 (cd := .le) (o := 31) (by decide +kernel) (XT.i0_le_t (by decide)) (pc' := 279) (by decide) (by decide) ?_
  refine oGo W0 [.iload 7, .iconst 1] (by decide +kernel) (ls' := #[sR a, sI vl, sR b, sI (Int32.ofNat 0), sI kk, sI 3, sI (-1), sI 0, sI 1]) (st' := [(.int 1), (.int 0)]) rfl rfl (pc' := 282) rfl ?_
  refine oIcT W0 (cd := .le) (o := 33) (by decide +kernel) (XT.ii_le_t (by decide)) (pc' := 315) (by decide) (by decide) ?_
  refine oGo W0 [.iload 7, .iconst 2] (by decide +kernel) (ls' := #[sR a, sI vl, sR b, sI (Int32.ofNat 0), sI kk, sI 3, sI (-1), sI 0, sI 1]) (st' := [(.int 2), (.int 0)]) rfl rfl (pc' := 318) rfl ?_
  refine oIcT W0 (cd := .le) (o := 33) (by decide +kernel) (XT.ii_le_t (by decide)) (pc' := 351) (by decide) (by decide) ?_
  refine oGo W0 [.iload 7, .iconst 3] (by decide +kernel) (ls' := #[sR a, sI vl, sR b, sI (Int32.ofNat 0), sI kk, sI 3, sI (-1), sI 0, sI 1]) (st' := [(.int 3), (.int 0)]) rfl rfl (pc' := 354) rfl ?_
  refine oIcT W0 (cd := .le) (o := 33) (by decide +kernel) (XT.ii_le_t (by decide)) (pc' := 387) (by decide) (by decide) ?_
  refine oGo W0 [.iload 8] (by decide +kernel) (ls' := #[sR a, sI vl, sR b, sI (Int32.ofNat 0), sI kk, sI 3, sI (-1), sI 0, sI 1]) (st' := [(.int 1)]) rfl rfl (pc' := 389) rfl ?_
  exact oRetN (by simp) W0 rfl (by decide +kernel) (lb rfl) (lb rfl) (fun vm' hv => ⟨_, rfl, rfl, Or.inl ⟨rfl, by rw [Nm, hz]; simp⟩⟩)

set_option maxRecDepth 65536 in
set_option maxHeartbeats 40000000 in
theorem c_exp_c4_0 {l : Launch} {Z : State} {a0 : Array Value} (K : Ctx Z a0) {nb : Bool} {a b : Addr} {ka kb : ClassId} {c0 c1 c2 c3 d0 d1 d2 d3 : Int32} {V U : Nat} (hV : V ≤ 4) (hU : U ≤ 4) {vl kk : Int32} {p : Program} {e : Env} {s : State} {m : MethodId} {args : Array Value} {below : List Frame} {meth : Method} {cc : Code} {h0 : Heap} {vm0 : Vm} {T0 : State} {lc : List Loc}
    (W0 : OW p l e rm_c_exp s m args below meth cc Z a0 EL nb "com/example/gentle_hub/gentlehub/server/MediaTypesNamesPinLaw" method_6_code 9 (some .boolean) "expected" vm0 T0 lc 0 0 h0) (A : OA Z h0 a ka .char [.int c0, .int c1, .int c2, .int c3]) (B : OA Z h0 b kb .char [.int d0, .int d1, .int d2, .int d3]) (hz : strp (ess (([c0, c1, c2, c3] : List Int32).take V)) = []) :
    OG p e below s Z EL nb (fun v _ h => ∃ r, v = some (.int r) ∧ h = h0 ∧ ((r = 1 ∧ Nm (([c0, c1, c2, c3] : List Int32).take V) (([d0, d1, d2, d3] : List Int32).take U)) ∨ (r = 0 ∧ ¬ (Nm (([c0, c1, c2, c3] : List Int32).take V) (([d0, d1, d2, d3] : List Int32).take U))))) rm_c_exp.cells rm_c_exp.slots T0 (mkF m 215 #[sR a, sI vl, sR b, sI (Int32.ofNat U), sI kk, sI 4, sI (-1), sU, sU] []) := by
  have hw := K.1
  have hS : ∀ a ∈ Bundle.stringAtoms, a.before a0 Z = true := K.2.2.1
  refine oGo W0 [.iload 5, .iload 6] (by decide +kernel) (ls' := #[sR a, sI vl, sR b, sI (Int32.ofNat U), sI kk, sI 4, sI (-1), sU, sU]) (st' := [(.int (-1)), (.int 4)]) rfl rfl (pc' := 219) rfl ?_
  refine oIcT W0 (cd := .gt) (o := 13) (by decide +kernel) (XT.ii_gt_t (by decide)) (pc' := 232) (by decide) (by decide) ?_
  refine oGo W0 [.iconst 0, .istore 7, .iload 7, .iload_n 3] (by decide +kernel) (ls' := #[sR a, sI vl, sR b, sI (Int32.ofNat U), sI kk, sI 4, sI (-1), sI 0, sU]) (st' := [(.int (Int32.ofNat U)), (.int 0)]) rfl rfl (pc' := 238) rfl ?_
  by_cases hc101 : (0 : Int32) = (Int32.ofNat U)
  rotate_left
  · refine oIcF W0 (cd := .eq) (o := 5) (by decide +kernel) (XT.ii_eq_f hc101) (pc' := 241) rfl ?_
    refine oGo W0 [.iconst 0] (by decide +kernel) (ls' := #[sR a, sI vl, sR b, sI (Int32.ofNat U), sI kk, sI 4, sI (-1), sI 0, sU]) (st' := [(.int 0)]) rfl rfl (pc' := 242) rfl ?_
    exact oRetN (by simp) W0 rfl (by decide +kernel) (lb rfl) (lb rfl) (fun vm' hv => ⟨_, rfl, rfl, Or.inr ⟨rfl, fun q => hc101 (by have z := congrArg List.length q; rw [hz, List.length_map, List.length_map, List.length_take] at z; rw [show U = 0 from by simp at z; omega]; rfl)⟩⟩)
  refine oIcT W0 (cd := .eq) (o := 5) (by decide +kernel) (XT.ii_eq_t hc101) (pc' := 243) (by decide) (by decide) ?_
  obtain rfl : U = 0 := ofNat_inj (b := 0) (by omega) (by omega) hc101.symm
  refine oGo W0 [.iconst 1, .istore 8, .iload 7] (by decide +kernel) (ls' := #[sR a, sI vl, sR b, sI (Int32.ofNat 0), sI kk, sI 4, sI (-1), sI 0, sI 1]) (st' := [(.int 0)]) rfl rfl (pc' := 248) rfl ?_
  refine oIfT W0 (cd := .le) (o := 31) (by decide +kernel) (XT.i0_le_t (by decide)) (pc' := 279) (by decide) (by decide) ?_
  refine oGo W0 [.iload 7, .iconst 1] (by decide +kernel) (ls' := #[sR a, sI vl, sR b, sI (Int32.ofNat 0), sI kk, sI 4, sI (-1), sI 0, sI 1]) (st' := [(.int 1), (.int 0)]) rfl rfl (pc' := 282) rfl ?_
  refine oIcT W0 (cd := .le) (o := 33) (by decide +kernel) (XT.ii_le_t (by decide)) (pc' := 315) (by decide) (by decide) ?_
  refine oGo W0 [.iload 7, .iconst 2] (by decide +kernel) (ls' := #[sR a, sI vl, sR b, sI (Int32.ofNat 0), sI kk, sI 4, sI (-1), sI 0, sI 1]) (st' := [(.int 2), (.int 0)]) rfl rfl (pc' := 318) rfl ?_
  refine oIcT W0 (cd := .le) (o := 33) (by decide +kernel) (XT.ii_le_t (by decide)) (pc' := 351) (by decide) (by decide) ?_
  refine oGo W0 [.iload 7, .iconst 3] (by decide +kernel) (ls' := #[sR a, sI vl, sR b, sI (Int32.ofNat 0), sI kk, sI 4, sI (-1), sI 0, sI 1]) (st' := [(.int 3), (.int 0)]) rfl rfl (pc' := 354) rfl ?_
  refine oIcT W0 (cd := .le) (o := 33) (by decide +kernel) (XT.ii_le_t (by decide)) (pc' := 387) (by decide) (by decide) ?_
  refine oGo W0 [.iload 8] (by decide +kernel) (ls' := #[sR a, sI vl, sR b, sI (Int32.ofNat 0), sI kk, sI 4, sI (-1), sI 0, sI 1]) (st' := [(.int 1)]) rfl rfl (pc' := 389) rfl ?_
  exact oRetN (by simp) W0 rfl (by decide +kernel) (lb rfl) (lb rfl) (fun vm' hv => ⟨_, rfl, rfl, Or.inl ⟨rfl, by rw [Nm, hz]; simp⟩⟩)

set_option maxRecDepth 65536 in
set_option maxHeartbeats 40000000 in
theorem c_exp_b0 {l : Launch} {Z : State} {a0 : Array Value} (K : Ctx Z a0) {nb : Bool} {a b : Addr} {ka kb : ClassId} {c0 c1 c2 c3 d0 d1 d2 d3 : Int32} {V U : Nat} (hV : V ≤ 4) (hU : U ≤ 4) {vl : Int32} {p : Program} {e : Env} {s : State} {m : MethodId} {args : Array Value} {below : List Frame} {meth : Method} {cc : Code} {h0 : Heap} {vm0 : Vm} {T0 : State} {lc : List Loc}
    (W0 : OW p l e rm_c_exp s m args below meth cc Z a0 EL nb "com/example/gentle_hub/gentlehub/server/MediaTypesNamesPinLaw" method_6_code 9 (some .boolean) "expected" vm0 T0 lc 0 0 h0) (A : OA Z h0 a ka .char [.int c0, .int c1, .int c2, .int c3]) (B : OA Z h0 b kb .char [.int d0, .int d1, .int d2, .int d3]) (he : ess (([c0, c1, c2, c3] : List Int32).take V) = []) :
    OG p e below s Z EL nb (fun v _ h => ∃ r, v = some (.int r) ∧ h = h0 ∧ ((r = 1 ∧ Nm (([c0, c1, c2, c3] : List Int32).take V) (([d0, d1, d2, d3] : List Int32).take U)) ∨ (r = 0 ∧ ¬ (Nm (([c0, c1, c2, c3] : List Int32).take V) (([d0, d1, d2, d3] : List Int32).take U))))) rm_c_exp.cells rm_c_exp.slots T0 (mkF m 66 #[sR a, sI vl, sR b, sI (Int32.ofNat U), sI 0, sU, sU, sU, sU] []) := by
  have hw := K.1
  have hS : ∀ a ∈ Bundle.stringAtoms, a.before a0 Z = true := K.2.2.1
  refine oGo W0 [.iload 4, .istore 5] (by decide +kernel) (ls' := #[sR a, sI vl, sR b, sI (Int32.ofNat U), sI 0, sI 0, sU, sU, sU]) (st' := []) rfl rfl (pc' := 70) rfl ?_
  refine oGo W0 [.iload 4, .iconst 3] (by decide +kernel) (ls' := #[sR a, sI vl, sR b, sI (Int32.ofNat U), sI 0, sI 0, sU, sU, sU]) (st' := [(.int 3), (.int 0)]) rfl rfl (pc' := 73) rfl ?_
  refine oIcT W0 (cd := .le) (o := 15) (by decide +kernel) (XT.ii_le_t (by decide)) (pc' := 88) (by decide) (by decide) ?_
  refine oGo W0 [.iload 4, .iconst 2] (by decide +kernel) (ls' := #[sR a, sI vl, sR b, sI (Int32.ofNat U), sI 0, sI 0, sU, sU, sU]) (st' := [(.int 2), (.int 0)]) rfl rfl (pc' := 91) rfl ?_
  refine oIcT W0 (cd := .le) (o := 15) (by decide +kernel) (XT.ii_le_t (by decide)) (pc' := 106) (by decide) (by decide) ?_
  refine oGo W0 [.iload 4, .iconst 1] (by decide +kernel) (ls' := #[sR a, sI vl, sR b, sI (Int32.ofNat U), sI 0, sI 0, sU, sU, sU]) (st' := [(.int 1), (.int 0)]) rfl rfl (pc' := 109) rfl ?_
  refine oIcT W0 (cd := .le) (o := 15) (by decide +kernel) (XT.ii_le_t (by decide)) (pc' := 124) (by decide) (by decide) ?_
  refine oGo W0 [.iload 4] (by decide +kernel) (ls' := #[sR a, sI vl, sR b, sI (Int32.ofNat U), sI 0, sI 0, sU, sU, sU]) (st' := [(.int 0)]) rfl rfl (pc' := 126) rfl ?_
  refine oIfT W0 (cd := .le) (o := 15) (by decide +kernel) (XT.i0_le_t (by decide)) (pc' := 141) (by decide) (by decide) ?_
  refine oGo W0 [.iconst (-1), .istore 6] (by decide +kernel) (ls' := #[sR a, sI vl, sR b, sI (Int32.ofNat U), sI 0, sI 0, sI (-1), sU, sU]) (st' := []) rfl rfl (pc' := 144) rfl ?_
  refine oGo W0 [.iload 4] (by decide +kernel) (ls' := #[sR a, sI vl, sR b, sI (Int32.ofNat U), sI 0, sI 0, sI (-1), sU, sU]) (st' := [(.int 0)]) rfl rfl (pc' := 146) rfl ?_
  refine oIfT W0 (cd := .le) (o := 15) (by decide +kernel) (XT.i0_le_t (by decide)) (pc' := 161) (by decide) (by decide) ?_
  refine oGo W0 [.iload 4, .iconst 1] (by decide +kernel) (ls' := #[sR a, sI vl, sR b, sI (Int32.ofNat U), sI 0, sI 0, sI (-1), sU, sU]) (st' := [(.int 1), (.int 0)]) rfl rfl (pc' := 164) rfl ?_
  refine oIcT W0 (cd := .le) (o := 15) (by decide +kernel) (XT.ii_le_t (by decide)) (pc' := 179) (by decide) (by decide) ?_
  refine oGo W0 [.iload 4, .iconst 2] (by decide +kernel) (ls' := #[sR a, sI vl, sR b, sI (Int32.ofNat U), sI 0, sI 0, sI (-1), sU, sU]) (st' := [(.int 2), (.int 0)]) rfl rfl (pc' := 182) rfl ?_
  refine oIcT W0 (cd := .le) (o := 15) (by decide +kernel) (XT.ii_le_t (by decide)) (pc' := 197) (by decide) (by decide) ?_
  refine oGo W0 [.iload 4, .iconst 3] (by decide +kernel) (ls' := #[sR a, sI vl, sR b, sI (Int32.ofNat U), sI 0, sI 0, sI (-1), sU, sU]) (st' := [(.int 3), (.int 0)]) rfl rfl (pc' := 200) rfl ?_
  refine oIcT W0 (cd := .le) (o := 15) (by decide +kernel) (XT.ii_le_t (by decide)) (pc' := 215) (by decide) (by decide) ?_
  exact c_exp_c0_0 K hV hU W0 A B (by rw [he]; simp [strp, lw, rst])

set_option maxRecDepth 65536 in
set_option maxHeartbeats 40000000 in
theorem c_exp_b1 {l : Launch} {Z : State} {a0 : Array Value} (K : Ctx Z a0) {nb : Bool} {a b : Addr} {ka kb : ClassId} {c0 c1 c2 c3 d0 d1 d2 d3 : Int32} {V U : Nat} (hV : V ≤ 4) (hU : U ≤ 4) {vl : Int32} {p : Program} {e : Env} {s : State} {m : MethodId} {args : Array Value} {below : List Frame} {meth : Method} {cc : Code} {h0 : Heap} {vm0 : Vm} {T0 : State} {lc : List Loc}
    (W0 : OW p l e rm_c_exp s m args below meth cc Z a0 EL nb "com/example/gentle_hub/gentlehub/server/MediaTypesNamesPinLaw" method_6_code 9 (some .boolean) "expected" vm0 T0 lc 0 0 h0) (A : OA Z h0 a ka .char [.int c0, .int c1, .int c2, .int c3]) (B : OA Z h0 b kb .char [.int d0, .int d1, .int d2, .int d3]) (he : ess (([c0, c1, c2, c3] : List Int32).take V) = [c0]) :
    OG p e below s Z EL nb (fun v _ h => ∃ r, v = some (.int r) ∧ h = h0 ∧ ((r = 1 ∧ Nm (([c0, c1, c2, c3] : List Int32).take V) (([d0, d1, d2, d3] : List Int32).take U)) ∨ (r = 0 ∧ ¬ (Nm (([c0, c1, c2, c3] : List Int32).take V) (([d0, d1, d2, d3] : List Int32).take U))))) rm_c_exp.cells rm_c_exp.slots T0 (mkF m 66 #[sR a, sI vl, sR b, sI (Int32.ofNat U), sI 1, sU, sU, sU, sU] []) := by
  have hw := K.1
  have hS : ∀ a ∈ Bundle.stringAtoms, a.before a0 Z = true := K.2.2.1
  refine oGo W0 [.iload 4, .istore 5] (by decide +kernel) (ls' := #[sR a, sI vl, sR b, sI (Int32.ofNat U), sI 1, sI 1, sU, sU, sU]) (st' := []) rfl rfl (pc' := 70) rfl ?_
  refine oGo W0 [.iload 4, .iconst 3] (by decide +kernel) (ls' := #[sR a, sI vl, sR b, sI (Int32.ofNat U), sI 1, sI 1, sU, sU, sU]) (st' := [(.int 3), (.int 1)]) rfl rfl (pc' := 73) rfl ?_
  refine oIcT W0 (cd := .le) (o := 15) (by decide +kernel) (XT.ii_le_t (by decide)) (pc' := 88) (by decide) (by decide) ?_
  refine oGo W0 [.iload 4, .iconst 2] (by decide +kernel) (ls' := #[sR a, sI vl, sR b, sI (Int32.ofNat U), sI 1, sI 1, sU, sU, sU]) (st' := [(.int 2), (.int 1)]) rfl rfl (pc' := 91) rfl ?_
  refine oIcT W0 (cd := .le) (o := 15) (by decide +kernel) (XT.ii_le_t (by decide)) (pc' := 106) (by decide) (by decide) ?_
  refine oGo W0 [.iload 4, .iconst 1] (by decide +kernel) (ls' := #[sR a, sI vl, sR b, sI (Int32.ofNat U), sI 1, sI 1, sU, sU, sU]) (st' := [(.int 1), (.int 1)]) rfl rfl (pc' := 109) rfl ?_
  refine oIcT W0 (cd := .le) (o := 15) (by decide +kernel) (XT.ii_le_t (by decide)) (pc' := 124) (by decide) (by decide) ?_
  refine oGo W0 [.iload 4] (by decide +kernel) (ls' := #[sR a, sI vl, sR b, sI (Int32.ofNat U), sI 1, sI 1, sU, sU, sU]) (st' := [(.int 1)]) rfl rfl (pc' := 126) rfl ?_
  refine oIfF W0 (cd := .le) (o := 15) (by decide +kernel) (XT.i0_le_f (by decide)) (pc' := 129) rfl ?_
  refine oGo W0 [.aload_n 0, .iconst 0] (by decide +kernel) (ls' := #[sR a, sI vl, sR b, sI (Int32.ofNat U), sI 1, sI 1, sU, sU, sU]) (st' := [(.int 0), (.ref a)]) rfl rfl (pc' := 131) rfl ?_
  refine oGet W0 A (v := (.int c0)) (by decide) rfl (Or.inl ⟨rfl, rfl⟩) (by decide +kernel) ?_
  obtain ⟨v101, T101, L101, h101, vm101, W101, ⟨r101, rfl, e101, Q101⟩, C101, st101⟩ := oCallS W0 (idx := 28) (pc := 132) (ls := #[sR a, sI vl, sR b, sI (Int32.ofNat U), sI 1, sI 1, sU, sU, sU]) (st := []) (argsL := [(.int c0)]) (c_ws K) (fun x hx => nomatch hx) (wK K 121 rfl) (wK K 122 rfl) (wK K 3 rfl) (wK K 123 rfl) (by decide) (na := 1) rfl (by decide +kernel) rfl (stk := [(.int c0)]) rfl (by decide +kernel) (V := 0) (lb rfl) (lb rfl) (lb rfl) (lb rfl) (lb rfl)
  refine oLift st101 ?_
  rw [e101] at W101 C101
  show OG _ _ _ _ _ _ _ _ _ _ _ (mkF m 135 #[sR a, sI vl, sR b, sI (Int32.ofNat U), sI 1, sI 1, sU, sU, sU] [(.int r101)])
  rcases Q101 with ⟨rfl, hw101⟩ | ⟨rfl, hw101⟩
  · refine oIfT W101 (cd := .ne) (o := 6) (by decide +kernel) (XT.i0_ne_t (by decide)) (pc' := 141) (by decide) (by decide) ?_
    refine oGo W101 [.iconst (-1), .istore 6] (by decide +kernel) (ls' := #[sR a, sI vl, sR b, sI (Int32.ofNat U), sI 1, sI 1, sI (-1), sU, sU]) (st' := []) rfl rfl (pc' := 144) rfl ?_
    refine oGo W101 [.iload 4] (by decide +kernel) (ls' := #[sR a, sI vl, sR b, sI (Int32.ofNat U), sI 1, sI 1, sI (-1), sU, sU]) (st' := [(.int 1)]) rfl rfl (pc' := 146) rfl ?_
    refine oIfF W101 (cd := .le) (o := 15) (by decide +kernel) (XT.i0_le_f (by decide)) (pc' := 149) rfl ?_
    refine oGo W101 [.aload_n 0, .iconst 0] (by decide +kernel) (ls' := #[sR a, sI vl, sR b, sI (Int32.ofNat U), sI 1, sI 1, sI (-1), sU, sU]) (st' := [(.int 0), (.ref a)]) rfl rfl (pc' := 151) rfl ?_
    refine oGet W101 A (v := (.int c0)) (by decide) rfl (Or.inl ⟨rfl, rfl⟩) (by decide +kernel) ?_
    obtain ⟨v102, T102, L102, h102, vm102, W102, ⟨r102, rfl, e102, Q102⟩, C102, st102⟩ := oCallS W101 (idx := 28) (pc := 152) (ls := #[sR a, sI vl, sR b, sI (Int32.ofNat U), sI 1, sI 1, sI (-1), sU, sU]) (st := []) (argsL := [(.int c0)]) (c_ws K) (fun x hx => nomatch hx) (wK K 121 rfl) (wK K 122 rfl) (wK K 3 rfl) (wK K 123 rfl) (by decide) (na := 1) rfl (by decide +kernel) rfl (stk := [(.int c0)]) rfl (by decide +kernel) (V := 0) (lb rfl) (lb rfl) (lb rfl) (lb rfl) (lb rfl)
    refine oLift st102 ?_
    rw [e102] at W102 C102
    show OG _ _ _ _ _ _ _ _ _ _ _ (mkF m 155 #[sR a, sI vl, sR b, sI (Int32.ofNat U), sI 1, sI 1, sI (-1), sU, sU] [(.int r102)])
    rcases Q102 with ⟨rfl, hq102⟩ | ⟨rfl, hq102⟩
    rotate_left
    · exact absurd hw101 hq102
    refine oIfT W102 (cd := .ne) (o := 6) (by decide +kernel) (XT.i0_ne_t (by decide)) (pc' := 161) (by decide) (by decide) ?_
    refine oGo W102 [.iload 4, .iconst 1] (by decide +kernel) (ls' := #[sR a, sI vl, sR b, sI (Int32.ofNat U), sI 1, sI 1, sI (-1), sU, sU]) (st' := [(.int 1), (.int 1)]) rfl rfl (pc' := 164) rfl ?_
    refine oIcT W102 (cd := .le) (o := 15) (by decide +kernel) (XT.ii_le_t (by decide)) (pc' := 179) (by decide) (by decide) ?_
    refine oGo W102 [.iload 4, .iconst 2] (by decide +kernel) (ls' := #[sR a, sI vl, sR b, sI (Int32.ofNat U), sI 1, sI 1, sI (-1), sU, sU]) (st' := [(.int 2), (.int 1)]) rfl rfl (pc' := 182) rfl ?_
    refine oIcT W102 (cd := .le) (o := 15) (by decide +kernel) (XT.ii_le_t (by decide)) (pc' := 197) (by decide) (by decide) ?_
    refine oGo W102 [.iload 4, .iconst 3] (by decide +kernel) (ls' := #[sR a, sI vl, sR b, sI (Int32.ofNat U), sI 1, sI 1, sI (-1), sU, sU]) (st' := [(.int 3), (.int 1)]) rfl rfl (pc' := 200) rfl ?_
    refine oIcT W102 (cd := .le) (o := 15) (by decide +kernel) (XT.ii_le_t (by decide)) (pc' := 215) (by decide) (by decide) ?_
    exact c_exp_c1_0 K hV hU W102 A B (by rw [he]; simp [strp, lw, rst, hw101])
  · refine oIfF W101 (cd := .ne) (o := 6) (by decide +kernel) (XT.i0_ne_f (by decide)) (pc' := 138) rfl ?_
    refine oGo W101 [.iconst 0, .istore 5] (by decide +kernel) (ls' := #[sR a, sI vl, sR b, sI (Int32.ofNat U), sI 1, sI 0, sU, sU, sU]) (st' := []) rfl rfl (pc' := 141) rfl ?_
    refine oGo W101 [.iconst (-1), .istore 6] (by decide +kernel) (ls' := #[sR a, sI vl, sR b, sI (Int32.ofNat U), sI 1, sI 0, sI (-1), sU, sU]) (st' := []) rfl rfl (pc' := 144) rfl ?_
    refine oGo W101 [.iload 4] (by decide +kernel) (ls' := #[sR a, sI vl, sR b, sI (Int32.ofNat U), sI 1, sI 0, sI (-1), sU, sU]) (st' := [(.int 1)]) rfl rfl (pc' := 146) rfl ?_
    refine oIfF W101 (cd := .le) (o := 15) (by decide +kernel) (XT.i0_le_f (by decide)) (pc' := 149) rfl ?_
    refine oGo W101 [.aload_n 0, .iconst 0] (by decide +kernel) (ls' := #[sR a, sI vl, sR b, sI (Int32.ofNat U), sI 1, sI 0, sI (-1), sU, sU]) (st' := [(.int 0), (.ref a)]) rfl rfl (pc' := 151) rfl ?_
    refine oGet W101 A (v := (.int c0)) (by decide) rfl (Or.inl ⟨rfl, rfl⟩) (by decide +kernel) ?_
    obtain ⟨v103, T103, L103, h103, vm103, W103, ⟨r103, rfl, e103, Q103⟩, C103, st103⟩ := oCallS W101 (idx := 28) (pc := 152) (ls := #[sR a, sI vl, sR b, sI (Int32.ofNat U), sI 1, sI 0, sI (-1), sU, sU]) (st := []) (argsL := [(.int c0)]) (c_ws K) (fun x hx => nomatch hx) (wK K 121 rfl) (wK K 122 rfl) (wK K 3 rfl) (wK K 123 rfl) (by decide) (na := 1) rfl (by decide +kernel) rfl (stk := [(.int c0)]) rfl (by decide +kernel) (V := 0) (lb rfl) (lb rfl) (lb rfl) (lb rfl) (lb rfl)
    refine oLift st103 ?_
    rw [e103] at W103 C103
    show OG _ _ _ _ _ _ _ _ _ _ _ (mkF m 155 #[sR a, sI vl, sR b, sI (Int32.ofNat U), sI 1, sI 0, sI (-1), sU, sU] [(.int r103)])
    rcases Q103 with ⟨rfl, hq103⟩ | ⟨rfl, hq103⟩
    · exact absurd hq103 hw101
    refine oIfF W103 (cd := .ne) (o := 6) (by decide +kernel) (XT.i0_ne_f (by decide)) (pc' := 158) rfl ?_
    refine oGo W103 [.iconst 0, .istore 6] (by decide +kernel) (ls' := #[sR a, sI vl, sR b, sI (Int32.ofNat U), sI 1, sI 0, sI 0, sU, sU]) (st' := []) rfl rfl (pc' := 161) rfl ?_
    refine oGo W103 [.iload 4, .iconst 1] (by decide +kernel) (ls' := #[sR a, sI vl, sR b, sI (Int32.ofNat U), sI 1, sI 0, sI 0, sU, sU]) (st' := [(.int 1), (.int 1)]) rfl rfl (pc' := 164) rfl ?_
    refine oIcT W103 (cd := .le) (o := 15) (by decide +kernel) (XT.ii_le_t (by decide)) (pc' := 179) (by decide) (by decide) ?_
    refine oGo W103 [.iload 4, .iconst 2] (by decide +kernel) (ls' := #[sR a, sI vl, sR b, sI (Int32.ofNat U), sI 1, sI 0, sI 0, sU, sU]) (st' := [(.int 2), (.int 1)]) rfl rfl (pc' := 182) rfl ?_
    refine oIcT W103 (cd := .le) (o := 15) (by decide +kernel) (XT.ii_le_t (by decide)) (pc' := 197) (by decide) (by decide) ?_
    refine oGo W103 [.iload 4, .iconst 3] (by decide +kernel) (ls' := #[sR a, sI vl, sR b, sI (Int32.ofNat U), sI 1, sI 0, sI 0, sU, sU]) (st' := [(.int 3), (.int 1)]) rfl rfl (pc' := 200) rfl ?_
    refine oIcT W103 (cd := .le) (o := 15) (by decide +kernel) (XT.ii_le_t (by decide)) (pc' := 215) (by decide) (by decide) ?_
    exact c_exp_c0_1 K hV hU W103 A B (by rw [he]; simp [strp, lw, rst, hw101])

set_option maxRecDepth 65536 in
set_option maxHeartbeats 40000000 in
theorem c_exp_b2 {l : Launch} {Z : State} {a0 : Array Value} (K : Ctx Z a0) {nb : Bool} {a b : Addr} {ka kb : ClassId} {c0 c1 c2 c3 d0 d1 d2 d3 : Int32} {V U : Nat} (hV : V ≤ 4) (hU : U ≤ 4) {vl : Int32} {p : Program} {e : Env} {s : State} {m : MethodId} {args : Array Value} {below : List Frame} {meth : Method} {cc : Code} {h0 : Heap} {vm0 : Vm} {T0 : State} {lc : List Loc}
    (W0 : OW p l e rm_c_exp s m args below meth cc Z a0 EL nb "com/example/gentle_hub/gentlehub/server/MediaTypesNamesPinLaw" method_6_code 9 (some .boolean) "expected" vm0 T0 lc 0 0 h0) (A : OA Z h0 a ka .char [.int c0, .int c1, .int c2, .int c3]) (B : OA Z h0 b kb .char [.int d0, .int d1, .int d2, .int d3]) (he : ess (([c0, c1, c2, c3] : List Int32).take V) = [c0, c1]) :
    OG p e below s Z EL nb (fun v _ h => ∃ r, v = some (.int r) ∧ h = h0 ∧ ((r = 1 ∧ Nm (([c0, c1, c2, c3] : List Int32).take V) (([d0, d1, d2, d3] : List Int32).take U)) ∨ (r = 0 ∧ ¬ (Nm (([c0, c1, c2, c3] : List Int32).take V) (([d0, d1, d2, d3] : List Int32).take U))))) rm_c_exp.cells rm_c_exp.slots T0 (mkF m 66 #[sR a, sI vl, sR b, sI (Int32.ofNat U), sI 2, sU, sU, sU, sU] []) := by
  have hw := K.1
  have hS : ∀ a ∈ Bundle.stringAtoms, a.before a0 Z = true := K.2.2.1
  refine oGo W0 [.iload 4, .istore 5] (by decide +kernel) (ls' := #[sR a, sI vl, sR b, sI (Int32.ofNat U), sI 2, sI 2, sU, sU, sU]) (st' := []) rfl rfl (pc' := 70) rfl ?_
  refine oGo W0 [.iload 4, .iconst 3] (by decide +kernel) (ls' := #[sR a, sI vl, sR b, sI (Int32.ofNat U), sI 2, sI 2, sU, sU, sU]) (st' := [(.int 3), (.int 2)]) rfl rfl (pc' := 73) rfl ?_
  refine oIcT W0 (cd := .le) (o := 15) (by decide +kernel) (XT.ii_le_t (by decide)) (pc' := 88) (by decide) (by decide) ?_
  refine oGo W0 [.iload 4, .iconst 2] (by decide +kernel) (ls' := #[sR a, sI vl, sR b, sI (Int32.ofNat U), sI 2, sI 2, sU, sU, sU]) (st' := [(.int 2), (.int 2)]) rfl rfl (pc' := 91) rfl ?_
  refine oIcT W0 (cd := .le) (o := 15) (by decide +kernel) (XT.ii_le_t (by decide)) (pc' := 106) (by decide) (by decide) ?_
  refine oGo W0 [.iload 4, .iconst 1] (by decide +kernel) (ls' := #[sR a, sI vl, sR b, sI (Int32.ofNat U), sI 2, sI 2, sU, sU, sU]) (st' := [(.int 1), (.int 2)]) rfl rfl (pc' := 109) rfl ?_
  refine oIcF W0 (cd := .le) (o := 15) (by decide +kernel) (XT.ii_le_f (by decide)) (pc' := 112) rfl ?_
  refine oGo W0 [.aload_n 0, .iconst 1] (by decide +kernel) (ls' := #[sR a, sI vl, sR b, sI (Int32.ofNat U), sI 2, sI 2, sU, sU, sU]) (st' := [(.int 1), (.ref a)]) rfl rfl (pc' := 114) rfl ?_
  refine oGet W0 A (v := (.int c1)) (by decide) rfl (Or.inl ⟨rfl, rfl⟩) (by decide +kernel) ?_
  obtain ⟨v101, T101, L101, h101, vm101, W101, ⟨r101, rfl, e101, Q101⟩, C101, st101⟩ := oCallS W0 (idx := 28) (pc := 115) (ls := #[sR a, sI vl, sR b, sI (Int32.ofNat U), sI 2, sI 2, sU, sU, sU]) (st := []) (argsL := [(.int c1)]) (c_ws K) (fun x hx => nomatch hx) (wK K 121 rfl) (wK K 122 rfl) (wK K 3 rfl) (wK K 123 rfl) (by decide) (na := 1) rfl (by decide +kernel) rfl (stk := [(.int c1)]) rfl (by decide +kernel) (V := 0) (lb rfl) (lb rfl) (lb rfl) (lb rfl) (lb rfl)
  refine oLift st101 ?_
  rw [e101] at W101 C101
  show OG _ _ _ _ _ _ _ _ _ _ _ (mkF m 118 #[sR a, sI vl, sR b, sI (Int32.ofNat U), sI 2, sI 2, sU, sU, sU] [(.int r101)])
  rcases Q101 with ⟨rfl, hw101⟩ | ⟨rfl, hw101⟩
  · refine oIfT W101 (cd := .ne) (o := 6) (by decide +kernel) (XT.i0_ne_t (by decide)) (pc' := 124) (by decide) (by decide) ?_
    refine oGo W101 [.iload 4] (by decide +kernel) (ls' := #[sR a, sI vl, sR b, sI (Int32.ofNat U), sI 2, sI 2, sU, sU, sU]) (st' := [(.int 2)]) rfl rfl (pc' := 126) rfl ?_
    refine oIfF W101 (cd := .le) (o := 15) (by decide +kernel) (XT.i0_le_f (by decide)) (pc' := 129) rfl ?_
    refine oGo W101 [.aload_n 0, .iconst 0] (by decide +kernel) (ls' := #[sR a, sI vl, sR b, sI (Int32.ofNat U), sI 2, sI 2, sU, sU, sU]) (st' := [(.int 0), (.ref a)]) rfl rfl (pc' := 131) rfl ?_
    refine oGet W101 A (v := (.int c0)) (by decide) rfl (Or.inl ⟨rfl, rfl⟩) (by decide +kernel) ?_
    obtain ⟨v102, T102, L102, h102, vm102, W102, ⟨r102, rfl, e102, Q102⟩, C102, st102⟩ := oCallS W101 (idx := 28) (pc := 132) (ls := #[sR a, sI vl, sR b, sI (Int32.ofNat U), sI 2, sI 2, sU, sU, sU]) (st := []) (argsL := [(.int c0)]) (c_ws K) (fun x hx => nomatch hx) (wK K 121 rfl) (wK K 122 rfl) (wK K 3 rfl) (wK K 123 rfl) (by decide) (na := 1) rfl (by decide +kernel) rfl (stk := [(.int c0)]) rfl (by decide +kernel) (V := 0) (lb rfl) (lb rfl) (lb rfl) (lb rfl) (lb rfl)
    refine oLift st102 ?_
    rw [e102] at W102 C102
    show OG _ _ _ _ _ _ _ _ _ _ _ (mkF m 135 #[sR a, sI vl, sR b, sI (Int32.ofNat U), sI 2, sI 2, sU, sU, sU] [(.int r102)])
    rcases Q102 with ⟨rfl, hw102⟩ | ⟨rfl, hw102⟩
    · refine oIfT W102 (cd := .ne) (o := 6) (by decide +kernel) (XT.i0_ne_t (by decide)) (pc' := 141) (by decide) (by decide) ?_
      refine oGo W102 [.iconst (-1), .istore 6] (by decide +kernel) (ls' := #[sR a, sI vl, sR b, sI (Int32.ofNat U), sI 2, sI 2, sI (-1), sU, sU]) (st' := []) rfl rfl (pc' := 144) rfl ?_
      refine oGo W102 [.iload 4] (by decide +kernel) (ls' := #[sR a, sI vl, sR b, sI (Int32.ofNat U), sI 2, sI 2, sI (-1), sU, sU]) (st' := [(.int 2)]) rfl rfl (pc' := 146) rfl ?_
      refine oIfF W102 (cd := .le) (o := 15) (by decide +kernel) (XT.i0_le_f (by decide)) (pc' := 149) rfl ?_
      refine oGo W102 [.aload_n 0, .iconst 0] (by decide +kernel) (ls' := #[sR a, sI vl, sR b, sI (Int32.ofNat U), sI 2, sI 2, sI (-1), sU, sU]) (st' := [(.int 0), (.ref a)]) rfl rfl (pc' := 151) rfl ?_
      refine oGet W102 A (v := (.int c0)) (by decide) rfl (Or.inl ⟨rfl, rfl⟩) (by decide +kernel) ?_
      obtain ⟨v103, T103, L103, h103, vm103, W103, ⟨r103, rfl, e103, Q103⟩, C103, st103⟩ := oCallS W102 (idx := 28) (pc := 152) (ls := #[sR a, sI vl, sR b, sI (Int32.ofNat U), sI 2, sI 2, sI (-1), sU, sU]) (st := []) (argsL := [(.int c0)]) (c_ws K) (fun x hx => nomatch hx) (wK K 121 rfl) (wK K 122 rfl) (wK K 3 rfl) (wK K 123 rfl) (by decide) (na := 1) rfl (by decide +kernel) rfl (stk := [(.int c0)]) rfl (by decide +kernel) (V := 0) (lb rfl) (lb rfl) (lb rfl) (lb rfl) (lb rfl)
      refine oLift st103 ?_
      rw [e103] at W103 C103
      show OG _ _ _ _ _ _ _ _ _ _ _ (mkF m 155 #[sR a, sI vl, sR b, sI (Int32.ofNat U), sI 2, sI 2, sI (-1), sU, sU] [(.int r103)])
      rcases Q103 with ⟨rfl, hq103⟩ | ⟨rfl, hq103⟩
      rotate_left
      · exact absurd hw102 hq103
      refine oIfT W103 (cd := .ne) (o := 6) (by decide +kernel) (XT.i0_ne_t (by decide)) (pc' := 161) (by decide) (by decide) ?_
      refine oGo W103 [.iload 4, .iconst 1] (by decide +kernel) (ls' := #[sR a, sI vl, sR b, sI (Int32.ofNat U), sI 2, sI 2, sI (-1), sU, sU]) (st' := [(.int 1), (.int 2)]) rfl rfl (pc' := 164) rfl ?_
      refine oIcF W103 (cd := .le) (o := 15) (by decide +kernel) (XT.ii_le_f (by decide)) (pc' := 167) rfl ?_
      refine oGo W103 [.aload_n 0, .iconst 1] (by decide +kernel) (ls' := #[sR a, sI vl, sR b, sI (Int32.ofNat U), sI 2, sI 2, sI (-1), sU, sU]) (st' := [(.int 1), (.ref a)]) rfl rfl (pc' := 169) rfl ?_
      refine oGet W103 A (v := (.int c1)) (by decide) rfl (Or.inl ⟨rfl, rfl⟩) (by decide +kernel) ?_
      obtain ⟨v104, T104, L104, h104, vm104, W104, ⟨r104, rfl, e104, Q104⟩, C104, st104⟩ := oCallS W103 (idx := 28) (pc := 170) (ls := #[sR a, sI vl, sR b, sI (Int32.ofNat U), sI 2, sI 2, sI (-1), sU, sU]) (st := []) (argsL := [(.int c1)]) (c_ws K) (fun x hx => nomatch hx) (wK K 121 rfl) (wK K 122 rfl) (wK K 3 rfl) (wK K 123 rfl) (by decide) (na := 1) rfl (by decide +kernel) rfl (stk := [(.int c1)]) rfl (by decide +kernel) (V := 0) (lb rfl) (lb rfl) (lb rfl) (lb rfl) (lb rfl)
      refine oLift st104 ?_
      rw [e104] at W104 C104
      show OG _ _ _ _ _ _ _ _ _ _ _ (mkF m 173 #[sR a, sI vl, sR b, sI (Int32.ofNat U), sI 2, sI 2, sI (-1), sU, sU] [(.int r104)])
      rcases Q104 with ⟨rfl, hq104⟩ | ⟨rfl, hq104⟩
      rotate_left
      · exact absurd hw101 hq104
      refine oIfT W104 (cd := .ne) (o := 6) (by decide +kernel) (XT.i0_ne_t (by decide)) (pc' := 179) (by decide) (by decide) ?_
      refine oGo W104 [.iload 4, .iconst 2] (by decide +kernel) (ls' := #[sR a, sI vl, sR b, sI (Int32.ofNat U), sI 2, sI 2, sI (-1), sU, sU]) (st' := [(.int 2), (.int 2)]) rfl rfl (pc' := 182) rfl ?_
      refine oIcT W104 (cd := .le) (o := 15) (by decide +kernel) (XT.ii_le_t (by decide)) (pc' := 197) (by decide) (by decide) ?_
      refine oGo W104 [.iload 4, .iconst 3] (by decide +kernel) (ls' := #[sR a, sI vl, sR b, sI (Int32.ofNat U), sI 2, sI 2, sI (-1), sU, sU]) (st' := [(.int 3), (.int 2)]) rfl rfl (pc' := 200) rfl ?_
      refine oIcT W104 (cd := .le) (o := 15) (by decide +kernel) (XT.ii_le_t (by decide)) (pc' := 215) (by decide) (by decide) ?_
      exact c_exp_c2_0 K hV hU W104 A B (by rw [he]; simp [strp, lw, rst, hw102, hw101])
    · refine oIfF W102 (cd := .ne) (o := 6) (by decide +kernel) (XT.i0_ne_f (by decide)) (pc' := 138) rfl ?_
      refine oGo W102 [.iconst 0, .istore 5] (by decide +kernel) (ls' := #[sR a, sI vl, sR b, sI (Int32.ofNat U), sI 2, sI 0, sU, sU, sU]) (st' := []) rfl rfl (pc' := 141) rfl ?_
      refine oGo W102 [.iconst (-1), .istore 6] (by decide +kernel) (ls' := #[sR a, sI vl, sR b, sI (Int32.ofNat U), sI 2, sI 0, sI (-1), sU, sU]) (st' := []) rfl rfl (pc' := 144) rfl ?_
      refine oGo W102 [.iload 4] (by decide +kernel) (ls' := #[sR a, sI vl, sR b, sI (Int32.ofNat U), sI 2, sI 0, sI (-1), sU, sU]) (st' := [(.int 2)]) rfl rfl (pc' := 146) rfl ?_
      refine oIfF W102 (cd := .le) (o := 15) (by decide +kernel) (XT.i0_le_f (by decide)) (pc' := 149) rfl ?_
      refine oGo W102 [.aload_n 0, .iconst 0] (by decide +kernel) (ls' := #[sR a, sI vl, sR b, sI (Int32.ofNat U), sI 2, sI 0, sI (-1), sU, sU]) (st' := [(.int 0), (.ref a)]) rfl rfl (pc' := 151) rfl ?_
      refine oGet W102 A (v := (.int c0)) (by decide) rfl (Or.inl ⟨rfl, rfl⟩) (by decide +kernel) ?_
      obtain ⟨v105, T105, L105, h105, vm105, W105, ⟨r105, rfl, e105, Q105⟩, C105, st105⟩ := oCallS W102 (idx := 28) (pc := 152) (ls := #[sR a, sI vl, sR b, sI (Int32.ofNat U), sI 2, sI 0, sI (-1), sU, sU]) (st := []) (argsL := [(.int c0)]) (c_ws K) (fun x hx => nomatch hx) (wK K 121 rfl) (wK K 122 rfl) (wK K 3 rfl) (wK K 123 rfl) (by decide) (na := 1) rfl (by decide +kernel) rfl (stk := [(.int c0)]) rfl (by decide +kernel) (V := 0) (lb rfl) (lb rfl) (lb rfl) (lb rfl) (lb rfl)
      refine oLift st105 ?_
      rw [e105] at W105 C105
      show OG _ _ _ _ _ _ _ _ _ _ _ (mkF m 155 #[sR a, sI vl, sR b, sI (Int32.ofNat U), sI 2, sI 0, sI (-1), sU, sU] [(.int r105)])
      rcases Q105 with ⟨rfl, hq105⟩ | ⟨rfl, hq105⟩
      · exact absurd hq105 hw102
      refine oIfF W105 (cd := .ne) (o := 6) (by decide +kernel) (XT.i0_ne_f (by decide)) (pc' := 158) rfl ?_
      refine oGo W105 [.iconst 0, .istore 6] (by decide +kernel) (ls' := #[sR a, sI vl, sR b, sI (Int32.ofNat U), sI 2, sI 0, sI 0, sU, sU]) (st' := []) rfl rfl (pc' := 161) rfl ?_
      refine oGo W105 [.iload 4, .iconst 1] (by decide +kernel) (ls' := #[sR a, sI vl, sR b, sI (Int32.ofNat U), sI 2, sI 0, sI 0, sU, sU]) (st' := [(.int 1), (.int 2)]) rfl rfl (pc' := 164) rfl ?_
      refine oIcF W105 (cd := .le) (o := 15) (by decide +kernel) (XT.ii_le_f (by decide)) (pc' := 167) rfl ?_
      refine oGo W105 [.aload_n 0, .iconst 1] (by decide +kernel) (ls' := #[sR a, sI vl, sR b, sI (Int32.ofNat U), sI 2, sI 0, sI 0, sU, sU]) (st' := [(.int 1), (.ref a)]) rfl rfl (pc' := 169) rfl ?_
      refine oGet W105 A (v := (.int c1)) (by decide) rfl (Or.inl ⟨rfl, rfl⟩) (by decide +kernel) ?_
      obtain ⟨v106, T106, L106, h106, vm106, W106, ⟨r106, rfl, e106, Q106⟩, C106, st106⟩ := oCallS W105 (idx := 28) (pc := 170) (ls := #[sR a, sI vl, sR b, sI (Int32.ofNat U), sI 2, sI 0, sI 0, sU, sU]) (st := []) (argsL := [(.int c1)]) (c_ws K) (fun x hx => nomatch hx) (wK K 121 rfl) (wK K 122 rfl) (wK K 3 rfl) (wK K 123 rfl) (by decide) (na := 1) rfl (by decide +kernel) rfl (stk := [(.int c1)]) rfl (by decide +kernel) (V := 0) (lb rfl) (lb rfl) (lb rfl) (lb rfl) (lb rfl)
      refine oLift st106 ?_
      rw [e106] at W106 C106
      show OG _ _ _ _ _ _ _ _ _ _ _ (mkF m 173 #[sR a, sI vl, sR b, sI (Int32.ofNat U), sI 2, sI 0, sI 0, sU, sU] [(.int r106)])
      rcases Q106 with ⟨rfl, hq106⟩ | ⟨rfl, hq106⟩
      rotate_left
      · exact absurd hw101 hq106
      refine oIfT W106 (cd := .ne) (o := 6) (by decide +kernel) (XT.i0_ne_t (by decide)) (pc' := 179) (by decide) (by decide) ?_
      refine oGo W106 [.iload 4, .iconst 2] (by decide +kernel) (ls' := #[sR a, sI vl, sR b, sI (Int32.ofNat U), sI 2, sI 0, sI 0, sU, sU]) (st' := [(.int 2), (.int 2)]) rfl rfl (pc' := 182) rfl ?_
      refine oIcT W106 (cd := .le) (o := 15) (by decide +kernel) (XT.ii_le_t (by decide)) (pc' := 197) (by decide) (by decide) ?_
      refine oGo W106 [.iload 4, .iconst 3] (by decide +kernel) (ls' := #[sR a, sI vl, sR b, sI (Int32.ofNat U), sI 2, sI 0, sI 0, sU, sU]) (st' := [(.int 3), (.int 2)]) rfl rfl (pc' := 200) rfl ?_
      refine oIcT W106 (cd := .le) (o := 15) (by decide +kernel) (XT.ii_le_t (by decide)) (pc' := 215) (by decide) (by decide) ?_
      exact c_exp_c0_1 K hV hU W106 A B (by rw [he]; simp [strp, lw, rst, hw102, hw101])
  · refine oIfF W101 (cd := .ne) (o := 6) (by decide +kernel) (XT.i0_ne_f (by decide)) (pc' := 121) rfl ?_
    refine oGo W101 [.iconst 1, .istore 5] (by decide +kernel) (ls' := #[sR a, sI vl, sR b, sI (Int32.ofNat U), sI 2, sI 1, sU, sU, sU]) (st' := []) rfl rfl (pc' := 124) rfl ?_
    refine oGo W101 [.iload 4] (by decide +kernel) (ls' := #[sR a, sI vl, sR b, sI (Int32.ofNat U), sI 2, sI 1, sU, sU, sU]) (st' := [(.int 2)]) rfl rfl (pc' := 126) rfl ?_
    refine oIfF W101 (cd := .le) (o := 15) (by decide +kernel) (XT.i0_le_f (by decide)) (pc' := 129) rfl ?_
    refine oGo W101 [.aload_n 0, .iconst 0] (by decide +kernel) (ls' := #[sR a, sI vl, sR b, sI (Int32.ofNat U), sI 2, sI 1, sU, sU, sU]) (st' := [(.int 0), (.ref a)]) rfl rfl (pc' := 131) rfl ?_
    refine oGet W101 A (v := (.int c0)) (by decide) rfl (Or.inl ⟨rfl, rfl⟩) (by decide +kernel) ?_
    obtain ⟨v107, T107, L107, h107, vm107, W107, ⟨r107, rfl, e107, Q107⟩, C107, st107⟩ := oCallS W101 (idx := 28) (pc := 132) (ls := #[sR a, sI vl, sR b, sI (Int32.ofNat U), sI 2, sI 1, sU, sU, sU]) (st := []) (argsL := [(.int c0)]) (c_ws K) (fun x hx => nomatch hx) (wK K 121 rfl) (wK K 122 rfl) (wK K 3 rfl) (wK K 123 rfl) (by decide) (na := 1) rfl (by decide +kernel) rfl (stk := [(.int c0)]) rfl (by decide +kernel) (V := 0) (lb rfl) (lb rfl) (lb rfl) (lb rfl) (lb rfl)
    refine oLift st107 ?_
    rw [e107] at W107 C107
    show OG _ _ _ _ _ _ _ _ _ _ _ (mkF m 135 #[sR a, sI vl, sR b, sI (Int32.ofNat U), sI 2, sI 1, sU, sU, sU] [(.int r107)])
    rcases Q107 with ⟨rfl, hw107⟩ | ⟨rfl, hw107⟩
    · refine oIfT W107 (cd := .ne) (o := 6) (by decide +kernel) (XT.i0_ne_t (by decide)) (pc' := 141) (by decide) (by decide) ?_
      refine oGo W107 [.iconst (-1), .istore 6] (by decide +kernel) (ls' := #[sR a, sI vl, sR b, sI (Int32.ofNat U), sI 2, sI 1, sI (-1), sU, sU]) (st' := []) rfl rfl (pc' := 144) rfl ?_
      refine oGo W107 [.iload 4] (by decide +kernel) (ls' := #[sR a, sI vl, sR b, sI (Int32.ofNat U), sI 2, sI 1, sI (-1), sU, sU]) (st' := [(.int 2)]) rfl rfl (pc' := 146) rfl ?_
      refine oIfF W107 (cd := .le) (o := 15) (by decide +kernel) (XT.i0_le_f (by decide)) (pc' := 149) rfl ?_
      refine oGo W107 [.aload_n 0, .iconst 0] (by decide +kernel) (ls' := #[sR a, sI vl, sR b, sI (Int32.ofNat U), sI 2, sI 1, sI (-1), sU, sU]) (st' := [(.int 0), (.ref a)]) rfl rfl (pc' := 151) rfl ?_
      refine oGet W107 A (v := (.int c0)) (by decide) rfl (Or.inl ⟨rfl, rfl⟩) (by decide +kernel) ?_
      obtain ⟨v108, T108, L108, h108, vm108, W108, ⟨r108, rfl, e108, Q108⟩, C108, st108⟩ := oCallS W107 (idx := 28) (pc := 152) (ls := #[sR a, sI vl, sR b, sI (Int32.ofNat U), sI 2, sI 1, sI (-1), sU, sU]) (st := []) (argsL := [(.int c0)]) (c_ws K) (fun x hx => nomatch hx) (wK K 121 rfl) (wK K 122 rfl) (wK K 3 rfl) (wK K 123 rfl) (by decide) (na := 1) rfl (by decide +kernel) rfl (stk := [(.int c0)]) rfl (by decide +kernel) (V := 0) (lb rfl) (lb rfl) (lb rfl) (lb rfl) (lb rfl)
      refine oLift st108 ?_
      rw [e108] at W108 C108
      show OG _ _ _ _ _ _ _ _ _ _ _ (mkF m 155 #[sR a, sI vl, sR b, sI (Int32.ofNat U), sI 2, sI 1, sI (-1), sU, sU] [(.int r108)])
      rcases Q108 with ⟨rfl, hq108⟩ | ⟨rfl, hq108⟩
      rotate_left
      · exact absurd hw107 hq108
      refine oIfT W108 (cd := .ne) (o := 6) (by decide +kernel) (XT.i0_ne_t (by decide)) (pc' := 161) (by decide) (by decide) ?_
      refine oGo W108 [.iload 4, .iconst 1] (by decide +kernel) (ls' := #[sR a, sI vl, sR b, sI (Int32.ofNat U), sI 2, sI 1, sI (-1), sU, sU]) (st' := [(.int 1), (.int 2)]) rfl rfl (pc' := 164) rfl ?_
      refine oIcF W108 (cd := .le) (o := 15) (by decide +kernel) (XT.ii_le_f (by decide)) (pc' := 167) rfl ?_
      refine oGo W108 [.aload_n 0, .iconst 1] (by decide +kernel) (ls' := #[sR a, sI vl, sR b, sI (Int32.ofNat U), sI 2, sI 1, sI (-1), sU, sU]) (st' := [(.int 1), (.ref a)]) rfl rfl (pc' := 169) rfl ?_
      refine oGet W108 A (v := (.int c1)) (by decide) rfl (Or.inl ⟨rfl, rfl⟩) (by decide +kernel) ?_
      obtain ⟨v109, T109, L109, h109, vm109, W109, ⟨r109, rfl, e109, Q109⟩, C109, st109⟩ := oCallS W108 (idx := 28) (pc := 170) (ls := #[sR a, sI vl, sR b, sI (Int32.ofNat U), sI 2, sI 1, sI (-1), sU, sU]) (st := []) (argsL := [(.int c1)]) (c_ws K) (fun x hx => nomatch hx) (wK K 121 rfl) (wK K 122 rfl) (wK K 3 rfl) (wK K 123 rfl) (by decide) (na := 1) rfl (by decide +kernel) rfl (stk := [(.int c1)]) rfl (by decide +kernel) (V := 0) (lb rfl) (lb rfl) (lb rfl) (lb rfl) (lb rfl)
      refine oLift st109 ?_
      rw [e109] at W109 C109
      show OG _ _ _ _ _ _ _ _ _ _ _ (mkF m 173 #[sR a, sI vl, sR b, sI (Int32.ofNat U), sI 2, sI 1, sI (-1), sU, sU] [(.int r109)])
      rcases Q109 with ⟨rfl, hq109⟩ | ⟨rfl, hq109⟩
      · exact absurd hq109 hw101
      refine oIfF W109 (cd := .ne) (o := 6) (by decide +kernel) (XT.i0_ne_f (by decide)) (pc' := 176) rfl ?_
      refine oGo W109 [.iconst 1, .istore 6] (by decide +kernel) (ls' := #[sR a, sI vl, sR b, sI (Int32.ofNat U), sI 2, sI 1, sI 1, sU, sU]) (st' := []) rfl rfl (pc' := 179) rfl ?_
      refine oGo W109 [.iload 4, .iconst 2] (by decide +kernel) (ls' := #[sR a, sI vl, sR b, sI (Int32.ofNat U), sI 2, sI 1, sI 1, sU, sU]) (st' := [(.int 2), (.int 2)]) rfl rfl (pc' := 182) rfl ?_
      refine oIcT W109 (cd := .le) (o := 15) (by decide +kernel) (XT.ii_le_t (by decide)) (pc' := 197) (by decide) (by decide) ?_
      refine oGo W109 [.iload 4, .iconst 3] (by decide +kernel) (ls' := #[sR a, sI vl, sR b, sI (Int32.ofNat U), sI 2, sI 1, sI 1, sU, sU]) (st' := [(.int 3), (.int 2)]) rfl rfl (pc' := 200) rfl ?_
      refine oIcT W109 (cd := .le) (o := 15) (by decide +kernel) (XT.ii_le_t (by decide)) (pc' := 215) (by decide) (by decide) ?_
      exact c_exp_c1_2 K hV hU W109 A B (by rw [he]; simp [strp, lw, rst, hw107, hw101])
    · refine oIfF W107 (cd := .ne) (o := 6) (by decide +kernel) (XT.i0_ne_f (by decide)) (pc' := 138) rfl ?_
      refine oGo W107 [.iconst 0, .istore 5] (by decide +kernel) (ls' := #[sR a, sI vl, sR b, sI (Int32.ofNat U), sI 2, sI 0, sU, sU, sU]) (st' := []) rfl rfl (pc' := 141) rfl ?_
      refine oGo W107 [.iconst (-1), .istore 6] (by decide +kernel) (ls' := #[sR a, sI vl, sR b, sI (Int32.ofNat U), sI 2, sI 0, sI (-1), sU, sU]) (st' := []) rfl rfl (pc' := 144) rfl ?_
      refine oGo W107 [.iload 4] (by decide +kernel) (ls' := #[sR a, sI vl, sR b, sI (Int32.ofNat U), sI 2, sI 0, sI (-1), sU, sU]) (st' := [(.int 2)]) rfl rfl (pc' := 146) rfl ?_
      refine oIfF W107 (cd := .le) (o := 15) (by decide +kernel) (XT.i0_le_f (by decide)) (pc' := 149) rfl ?_
      refine oGo W107 [.aload_n 0, .iconst 0] (by decide +kernel) (ls' := #[sR a, sI vl, sR b, sI (Int32.ofNat U), sI 2, sI 0, sI (-1), sU, sU]) (st' := [(.int 0), (.ref a)]) rfl rfl (pc' := 151) rfl ?_
      refine oGet W107 A (v := (.int c0)) (by decide) rfl (Or.inl ⟨rfl, rfl⟩) (by decide +kernel) ?_
      obtain ⟨v110, T110, L110, h110, vm110, W110, ⟨r110, rfl, e110, Q110⟩, C110, st110⟩ := oCallS W107 (idx := 28) (pc := 152) (ls := #[sR a, sI vl, sR b, sI (Int32.ofNat U), sI 2, sI 0, sI (-1), sU, sU]) (st := []) (argsL := [(.int c0)]) (c_ws K) (fun x hx => nomatch hx) (wK K 121 rfl) (wK K 122 rfl) (wK K 3 rfl) (wK K 123 rfl) (by decide) (na := 1) rfl (by decide +kernel) rfl (stk := [(.int c0)]) rfl (by decide +kernel) (V := 0) (lb rfl) (lb rfl) (lb rfl) (lb rfl) (lb rfl)
      refine oLift st110 ?_
      rw [e110] at W110 C110
      show OG _ _ _ _ _ _ _ _ _ _ _ (mkF m 155 #[sR a, sI vl, sR b, sI (Int32.ofNat U), sI 2, sI 0, sI (-1), sU, sU] [(.int r110)])
      rcases Q110 with ⟨rfl, hq110⟩ | ⟨rfl, hq110⟩
      · exact absurd hq110 hw107
      refine oIfF W110 (cd := .ne) (o := 6) (by decide +kernel) (XT.i0_ne_f (by decide)) (pc' := 158) rfl ?_
      refine oGo W110 [.iconst 0, .istore 6] (by decide +kernel) (ls' := #[sR a, sI vl, sR b, sI (Int32.ofNat U), sI 2, sI 0, sI 0, sU, sU]) (st' := []) rfl rfl (pc' := 161) rfl ?_
      refine oGo W110 [.iload 4, .iconst 1] (by decide +kernel) (ls' := #[sR a, sI vl, sR b, sI (Int32.ofNat U), sI 2, sI 0, sI 0, sU, sU]) (st' := [(.int 1), (.int 2)]) rfl rfl (pc' := 164) rfl ?_
      refine oIcF W110 (cd := .le) (o := 15) (by decide +kernel) (XT.ii_le_f (by decide)) (pc' := 167) rfl ?_
      refine oGo W110 [.aload_n 0, .iconst 1] (by decide +kernel) (ls' := #[sR a, sI vl, sR b, sI (Int32.ofNat U), sI 2, sI 0, sI 0, sU, sU]) (st' := [(.int 1), (.ref a)]) rfl rfl (pc' := 169) rfl ?_
      refine oGet W110 A (v := (.int c1)) (by decide) rfl (Or.inl ⟨rfl, rfl⟩) (by decide +kernel) ?_
      obtain ⟨v111, T111, L111, h111, vm111, W111, ⟨r111, rfl, e111, Q111⟩, C111, st111⟩ := oCallS W110 (idx := 28) (pc := 170) (ls := #[sR a, sI vl, sR b, sI (Int32.ofNat U), sI 2, sI 0, sI 0, sU, sU]) (st := []) (argsL := [(.int c1)]) (c_ws K) (fun x hx => nomatch hx) (wK K 121 rfl) (wK K 122 rfl) (wK K 3 rfl) (wK K 123 rfl) (by decide) (na := 1) rfl (by decide +kernel) rfl (stk := [(.int c1)]) rfl (by decide +kernel) (V := 0) (lb rfl) (lb rfl) (lb rfl) (lb rfl) (lb rfl)
      refine oLift st111 ?_
      rw [e111] at W111 C111
      show OG _ _ _ _ _ _ _ _ _ _ _ (mkF m 173 #[sR a, sI vl, sR b, sI (Int32.ofNat U), sI 2, sI 0, sI 0, sU, sU] [(.int r111)])
      rcases Q111 with ⟨rfl, hq111⟩ | ⟨rfl, hq111⟩
      · exact absurd hq111 hw101
      refine oIfF W111 (cd := .ne) (o := 6) (by decide +kernel) (XT.i0_ne_f (by decide)) (pc' := 176) rfl ?_
      refine oGo W111 [.iconst 1, .istore 6] (by decide +kernel) (ls' := #[sR a, sI vl, sR b, sI (Int32.ofNat U), sI 2, sI 0, sI 1, sU, sU]) (st' := []) rfl rfl (pc' := 179) rfl ?_
      refine oGo W111 [.iload 4, .iconst 2] (by decide +kernel) (ls' := #[sR a, sI vl, sR b, sI (Int32.ofNat U), sI 2, sI 0, sI 1, sU, sU]) (st' := [(.int 2), (.int 2)]) rfl rfl (pc' := 182) rfl ?_
      refine oIcT W111 (cd := .le) (o := 15) (by decide +kernel) (XT.ii_le_t (by decide)) (pc' := 197) (by decide) (by decide) ?_
      refine oGo W111 [.iload 4, .iconst 3] (by decide +kernel) (ls' := #[sR a, sI vl, sR b, sI (Int32.ofNat U), sI 2, sI 0, sI 1, sU, sU]) (st' := [(.int 3), (.int 2)]) rfl rfl (pc' := 200) rfl ?_
      refine oIcT W111 (cd := .le) (o := 15) (by decide +kernel) (XT.ii_le_t (by decide)) (pc' := 215) (by decide) (by decide) ?_
      exact c_exp_c0_2 K hV hU W111 A B (by rw [he]; simp [strp, lw, rst, hw107, hw101])

set_option maxRecDepth 65536 in
set_option maxHeartbeats 40000000 in
theorem c_exp_b3 {l : Launch} {Z : State} {a0 : Array Value} (K : Ctx Z a0) {nb : Bool} {a b : Addr} {ka kb : ClassId} {c0 c1 c2 c3 d0 d1 d2 d3 : Int32} {V U : Nat} (hV : V ≤ 4) (hU : U ≤ 4) {vl : Int32} {p : Program} {e : Env} {s : State} {m : MethodId} {args : Array Value} {below : List Frame} {meth : Method} {cc : Code} {h0 : Heap} {vm0 : Vm} {T0 : State} {lc : List Loc}
    (W0 : OW p l e rm_c_exp s m args below meth cc Z a0 EL nb "com/example/gentle_hub/gentlehub/server/MediaTypesNamesPinLaw" method_6_code 9 (some .boolean) "expected" vm0 T0 lc 0 0 h0) (A : OA Z h0 a ka .char [.int c0, .int c1, .int c2, .int c3]) (B : OA Z h0 b kb .char [.int d0, .int d1, .int d2, .int d3]) (he : ess (([c0, c1, c2, c3] : List Int32).take V) = [c0, c1, c2]) :
    OG p e below s Z EL nb (fun v _ h => ∃ r, v = some (.int r) ∧ h = h0 ∧ ((r = 1 ∧ Nm (([c0, c1, c2, c3] : List Int32).take V) (([d0, d1, d2, d3] : List Int32).take U)) ∨ (r = 0 ∧ ¬ (Nm (([c0, c1, c2, c3] : List Int32).take V) (([d0, d1, d2, d3] : List Int32).take U))))) rm_c_exp.cells rm_c_exp.slots T0 (mkF m 66 #[sR a, sI vl, sR b, sI (Int32.ofNat U), sI 3, sU, sU, sU, sU] []) := by
  have hw := K.1
  have hS : ∀ a ∈ Bundle.stringAtoms, a.before a0 Z = true := K.2.2.1
  refine oGo W0 [.iload 4, .istore 5] (by decide +kernel) (ls' := #[sR a, sI vl, sR b, sI (Int32.ofNat U), sI 3, sI 3, sU, sU, sU]) (st' := []) rfl rfl (pc' := 70) rfl ?_
  refine oGo W0 [.iload 4, .iconst 3] (by decide +kernel) (ls' := #[sR a, sI vl, sR b, sI (Int32.ofNat U), sI 3, sI 3, sU, sU, sU]) (st' := [(.int 3), (.int 3)]) rfl rfl (pc' := 73) rfl ?_
  refine oIcT W0 (cd := .le) (o := 15) (by decide +kernel) (XT.ii_le_t (by decide)) (pc' := 88) (by decide) (by decide) ?_
  refine oGo W0 [.iload 4, .iconst 2] (by decide +kernel) (ls' := #[sR a, sI vl, sR b, sI (Int32.ofNat U), sI 3, sI 3, sU, sU, sU]) (st' := [(.int 2), (.int 3)]) rfl rfl (pc' := 91) rfl ?_
  refine oIcF W0 (cd := .le) (o := 15) (by decide +kernel) (XT.ii_le_f (by decide)) (pc' := 94) rfl ?_
  refine oGo W0 [.aload_n 0, .iconst 2] (by decide +kernel) (ls' := #[sR a, sI vl, sR b, sI (Int32.ofNat U), sI 3, sI 3, sU, sU, sU]) (st' := [(.int 2), (.ref a)]) rfl rfl (pc' := 96) rfl ?_
  refine oGet W0 A (v := (.int c2)) (by decide) rfl (Or.inl ⟨rfl, rfl⟩) (by decide +kernel) ?_
  obtain ⟨v101, T101, L101, h101, vm101, W101, ⟨r101, rfl, e101, Q101⟩, C101, st101⟩ := oCallS W0 (idx := 28) (pc := 97) (ls := #[sR a, sI vl, sR b, sI (Int32.ofNat U), sI 3, sI 3, sU, sU, sU]) (st := []) (argsL := [(.int c2)]) (c_ws K) (fun x hx => nomatch hx) (wK K 121 rfl) (wK K 122 rfl) (wK K 3 rfl) (wK K 123 rfl) (by decide) (na := 1) rfl (by decide +kernel) rfl (stk := [(.int c2)]) rfl (by decide +kernel) (V := 0) (lb rfl) (lb rfl) (lb rfl) (lb rfl) (lb rfl)
  refine oLift st101 ?_
  rw [e101] at W101 C101
  show OG _ _ _ _ _ _ _ _ _ _ _ (mkF m 100 #[sR a, sI vl, sR b, sI (Int32.ofNat U), sI 3, sI 3, sU, sU, sU] [(.int r101)])
  rcases Q101 with ⟨rfl, hw101⟩ | ⟨rfl, hw101⟩
  · refine oIfT W101 (cd := .ne) (o := 6) (by decide +kernel) (XT.i0_ne_t (by decide)) (pc' := 106) (by decide) (by decide) ?_
    refine oGo W101 [.iload 4, .iconst 1] (by decide +kernel) (ls' := #[sR a, sI vl, sR b, sI (Int32.ofNat U), sI 3, sI 3, sU, sU, sU]) (st' := [(.int 1), (.int 3)]) rfl rfl (pc' := 109) rfl ?_
    refine oIcF W101 (cd := .le) (o := 15) (by decide +kernel) (XT.ii_le_f (by decide)) (pc' := 112) rfl ?_
    refine oGo W101 [.aload_n 0, .iconst 1] (by decide +kernel) (ls' := #[sR a, sI vl, sR b, sI (Int32.ofNat U), sI 3, sI 3, sU, sU, sU]) (st' := [(.int 1), (.ref a)]) rfl rfl (pc' := 114) rfl ?_
    refine oGet W101 A (v := (.int c1)) (by decide) rfl (Or.inl ⟨rfl, rfl⟩) (by decide +kernel) ?_
    obtain ⟨v102, T102, L102, h102, vm102, W102, ⟨r102, rfl, e102, Q102⟩, C102, st102⟩ := oCallS W101 (idx := 28) (pc := 115) (ls := #[sR a, sI vl, sR b, sI (Int32.ofNat U), sI 3, sI 3, sU, sU, sU]) (st := []) (argsL := [(.int c1)]) (c_ws K) (fun x hx => nomatch hx) (wK K 121 rfl) (wK K 122 rfl) (wK K 3 rfl) (wK K 123 rfl) (by decide) (na := 1) rfl (by decide +kernel) rfl (stk := [(.int c1)]) rfl (by decide +kernel) (V := 0) (lb rfl) (lb rfl) (lb rfl) (lb rfl) (lb rfl)
    refine oLift st102 ?_
    rw [e102] at W102 C102
    show OG _ _ _ _ _ _ _ _ _ _ _ (mkF m 118 #[sR a, sI vl, sR b, sI (Int32.ofNat U), sI 3, sI 3, sU, sU, sU] [(.int r102)])
    rcases Q102 with ⟨rfl, hw102⟩ | ⟨rfl, hw102⟩
    · refine oIfT W102 (cd := .ne) (o := 6) (by decide +kernel) (XT.i0_ne_t (by decide)) (pc' := 124) (by decide) (by decide) ?_
      refine oGo W102 [.iload 4] (by decide +kernel) (ls' := #[sR a, sI vl, sR b, sI (Int32.ofNat U), sI 3, sI 3, sU, sU, sU]) (st' := [(.int 3)]) rfl rfl (pc' := 126) rfl ?_
      refine oIfF W102 (cd := .le) (o := 15) (by decide +kernel) (XT.i0_le_f (by decide)) (pc' := 129) rfl ?_
      refine oGo W102 [.aload_n 0, .iconst 0] (by decide +kernel) (ls' := #[sR a, sI vl, sR b, sI (Int32.ofNat U), sI 3, sI 3, sU, sU, sU]) (st' := [(.int 0), (.ref a)]) rfl rfl (pc' := 131) rfl ?_
      refine oGet W102 A (v := (.int c0)) (by decide) rfl (Or.inl ⟨rfl, rfl⟩) (by decide +kernel) ?_
      obtain ⟨v103, T103, L103, h103, vm103, W103, ⟨r103, rfl, e103, Q103⟩, C103, st103⟩ := oCallS W102 (idx := 28) (pc := 132) (ls := #[sR a, sI vl, sR b, sI (Int32.ofNat U), sI 3, sI 3, sU, sU, sU]) (st := []) (argsL := [(.int c0)]) (c_ws K) (fun x hx => nomatch hx) (wK K 121 rfl) (wK K 122 rfl) (wK K 3 rfl) (wK K 123 rfl) (by decide) (na := 1) rfl (by decide +kernel) rfl (stk := [(.int c0)]) rfl (by decide +kernel) (V := 0) (lb rfl) (lb rfl) (lb rfl) (lb rfl) (lb rfl)
      refine oLift st103 ?_
      rw [e103] at W103 C103
      show OG _ _ _ _ _ _ _ _ _ _ _ (mkF m 135 #[sR a, sI vl, sR b, sI (Int32.ofNat U), sI 3, sI 3, sU, sU, sU] [(.int r103)])
      rcases Q103 with ⟨rfl, hw103⟩ | ⟨rfl, hw103⟩
      · refine oIfT W103 (cd := .ne) (o := 6) (by decide +kernel) (XT.i0_ne_t (by decide)) (pc' := 141) (by decide) (by decide) ?_
        refine oGo W103 [.iconst (-1), .istore 6] (by decide +kernel) (ls' := #[sR a, sI vl, sR b, sI (Int32.ofNat U), sI 3, sI 3, sI (-1), sU, sU]) (st' := []) rfl rfl (pc' := 144) rfl ?_
        refine oGo W103 [.iload 4] (by decide +kernel) (ls' := #[sR a, sI vl, sR b, sI (Int32.ofNat U), sI 3, sI 3, sI (-1), sU, sU]) (st' := [(.int 3)]) rfl rfl (pc' := 146) rfl ?_
        refine oIfF W103 (cd := .le) (o := 15) (by decide +kernel) (XT.i0_le_f (by decide)) (pc' := 149) rfl ?_
        refine oGo W103 [.aload_n 0, .iconst 0] (by decide +kernel) (ls' := #[sR a, sI vl, sR b, sI (Int32.ofNat U), sI 3, sI 3, sI (-1), sU, sU]) (st' := [(.int 0), (.ref a)]) rfl rfl (pc' := 151) rfl ?_
        refine oGet W103 A (v := (.int c0)) (by decide) rfl (Or.inl ⟨rfl, rfl⟩) (by decide +kernel) ?_
        obtain ⟨v104, T104, L104, h104, vm104, W104, ⟨r104, rfl, e104, Q104⟩, C104, st104⟩ := oCallS W103 (idx := 28) (pc := 152) (ls := #[sR a, sI vl, sR b, sI (Int32.ofNat U), sI 3, sI 3, sI (-1), sU, sU]) (st := []) (argsL := [(.int c0)]) (c_ws K) (fun x hx => nomatch hx) (wK K 121 rfl) (wK K 122 rfl) (wK K 3 rfl) (wK K 123 rfl) (by decide) (na := 1) rfl (by decide +kernel) rfl (stk := [(.int c0)]) rfl (by decide +kernel) (V := 0) (lb rfl) (lb rfl) (lb rfl) (lb rfl) (lb rfl)
        refine oLift st104 ?_
        rw [e104] at W104 C104
        show OG _ _ _ _ _ _ _ _ _ _ _ (mkF m 155 #[sR a, sI vl, sR b, sI (Int32.ofNat U), sI 3, sI 3, sI (-1), sU, sU] [(.int r104)])
        rcases Q104 with ⟨rfl, hq104⟩ | ⟨rfl, hq104⟩
        rotate_left
        · exact absurd hw103 hq104
        refine oIfT W104 (cd := .ne) (o := 6) (by decide +kernel) (XT.i0_ne_t (by decide)) (pc' := 161) (by decide) (by decide) ?_
        refine oGo W104 [.iload 4, .iconst 1] (by decide +kernel) (ls' := #[sR a, sI vl, sR b, sI (Int32.ofNat U), sI 3, sI 3, sI (-1), sU, sU]) (st' := [(.int 1), (.int 3)]) rfl rfl (pc' := 164) rfl ?_
        refine oIcF W104 (cd := .le) (o := 15) (by decide +kernel) (XT.ii_le_f (by decide)) (pc' := 167) rfl ?_
        refine oGo W104 [.aload_n 0, .iconst 1] (by decide +kernel) (ls' := #[sR a, sI vl, sR b, sI (Int32.ofNat U), sI 3, sI 3, sI (-1), sU, sU]) (st' := [(.int 1), (.ref a)]) rfl rfl (pc' := 169) rfl ?_
        refine oGet W104 A (v := (.int c1)) (by decide) rfl (Or.inl ⟨rfl, rfl⟩) (by decide +kernel) ?_
        obtain ⟨v105, T105, L105, h105, vm105, W105, ⟨r105, rfl, e105, Q105⟩, C105, st105⟩ := oCallS W104 (idx := 28) (pc := 170) (ls := #[sR a, sI vl, sR b, sI (Int32.ofNat U), sI 3, sI 3, sI (-1), sU, sU]) (st := []) (argsL := [(.int c1)]) (c_ws K) (fun x hx => nomatch hx) (wK K 121 rfl) (wK K 122 rfl) (wK K 3 rfl) (wK K 123 rfl) (by decide) (na := 1) rfl (by decide +kernel) rfl (stk := [(.int c1)]) rfl (by decide +kernel) (V := 0) (lb rfl) (lb rfl) (lb rfl) (lb rfl) (lb rfl)
        refine oLift st105 ?_
        rw [e105] at W105 C105
        show OG _ _ _ _ _ _ _ _ _ _ _ (mkF m 173 #[sR a, sI vl, sR b, sI (Int32.ofNat U), sI 3, sI 3, sI (-1), sU, sU] [(.int r105)])
        rcases Q105 with ⟨rfl, hq105⟩ | ⟨rfl, hq105⟩
        rotate_left
        · exact absurd hw102 hq105
        refine oIfT W105 (cd := .ne) (o := 6) (by decide +kernel) (XT.i0_ne_t (by decide)) (pc' := 179) (by decide) (by decide) ?_
        refine oGo W105 [.iload 4, .iconst 2] (by decide +kernel) (ls' := #[sR a, sI vl, sR b, sI (Int32.ofNat U), sI 3, sI 3, sI (-1), sU, sU]) (st' := [(.int 2), (.int 3)]) rfl rfl (pc' := 182) rfl ?_
        refine oIcF W105 (cd := .le) (o := 15) (by decide +kernel) (XT.ii_le_f (by decide)) (pc' := 185) rfl ?_
        refine oGo W105 [.aload_n 0, .iconst 2] (by decide +kernel) (ls' := #[sR a, sI vl, sR b, sI (Int32.ofNat U), sI 3, sI 3, sI (-1), sU, sU]) (st' := [(.int 2), (.ref a)]) rfl rfl (pc' := 187) rfl ?_
        refine oGet W105 A (v := (.int c2)) (by decide) rfl (Or.inl ⟨rfl, rfl⟩) (by decide +kernel) ?_
        obtain ⟨v106, T106, L106, h106, vm106, W106, ⟨r106, rfl, e106, Q106⟩, C106, st106⟩ := oCallS W105 (idx := 28) (pc := 188) (ls := #[sR a, sI vl, sR b, sI (Int32.ofNat U), sI 3, sI 3, sI (-1), sU, sU]) (st := []) (argsL := [(.int c2)]) (c_ws K) (fun x hx => nomatch hx) (wK K 121 rfl) (wK K 122 rfl) (wK K 3 rfl) (wK K 123 rfl) (by decide) (na := 1) rfl (by decide +kernel) rfl (stk := [(.int c2)]) rfl (by decide +kernel) (V := 0) (lb rfl) (lb rfl) (lb rfl) (lb rfl) (lb rfl)
        refine oLift st106 ?_
        rw [e106] at W106 C106
        show OG _ _ _ _ _ _ _ _ _ _ _ (mkF m 191 #[sR a, sI vl, sR b, sI (Int32.ofNat U), sI 3, sI 3, sI (-1), sU, sU] [(.int r106)])
        rcases Q106 with ⟨rfl, hq106⟩ | ⟨rfl, hq106⟩
        rotate_left
        · exact absurd hw101 hq106
        refine oIfT W106 (cd := .ne) (o := 6) (by decide +kernel) (XT.i0_ne_t (by decide)) (pc' := 197) (by decide) (by decide) ?_
        refine oGo W106 [.iload 4, .iconst 3] (by decide +kernel) (ls' := #[sR a, sI vl, sR b, sI (Int32.ofNat U), sI 3, sI 3, sI (-1), sU, sU]) (st' := [(.int 3), (.int 3)]) rfl rfl (pc' := 200) rfl ?_
        refine oIcT W106 (cd := .le) (o := 15) (by decide +kernel) (XT.ii_le_t (by decide)) (pc' := 215) (by decide) (by decide) ?_
        exact c_exp_c3_0 K hV hU W106 A B (by rw [he]; simp [strp, lw, rst, hw103, hw102, hw101])
      · refine oIfF W103 (cd := .ne) (o := 6) (by decide +kernel) (XT.i0_ne_f (by decide)) (pc' := 138) rfl ?_
        refine oGo W103 [.iconst 0, .istore 5] (by decide +kernel) (ls' := #[sR a, sI vl, sR b, sI (Int32.ofNat U), sI 3, sI 0, sU, sU, sU]) (st' := []) rfl rfl (pc' := 141) rfl ?_
        refine oGo W103 [.iconst (-1), .istore 6] (by decide +kernel) (ls' := #[sR a, sI vl, sR b, sI (Int32.ofNat U), sI 3, sI 0, sI (-1), sU, sU]) (st' := []) rfl rfl (pc' := 144) rfl ?_
        refine oGo W103 [.iload 4] (by decide +kernel) (ls' := #[sR a, sI vl, sR b, sI (Int32.ofNat U), sI 3, sI 0, sI (-1), sU, sU]) (st' := [(.int 3)]) rfl rfl (pc' := 146) rfl ?_
        refine oIfF W103 (cd := .le) (o := 15) (by decide +kernel) (XT.i0_le_f (by decide)) (pc' := 149) rfl ?_
        refine oGo W103 [.aload_n 0, .iconst 0] (by decide +kernel) (ls' := #[sR a, sI vl, sR b, sI (Int32.ofNat U), sI 3, sI 0, sI (-1), sU, sU]) (st' := [(.int 0), (.ref a)]) rfl rfl (pc' := 151) rfl ?_
        refine oGet W103 A (v := (.int c0)) (by decide) rfl (Or.inl ⟨rfl, rfl⟩) (by decide +kernel) ?_
        obtain ⟨v107, T107, L107, h107, vm107, W107, ⟨r107, rfl, e107, Q107⟩, C107, st107⟩ := oCallS W103 (idx := 28) (pc := 152) (ls := #[sR a, sI vl, sR b, sI (Int32.ofNat U), sI 3, sI 0, sI (-1), sU, sU]) (st := []) (argsL := [(.int c0)]) (c_ws K) (fun x hx => nomatch hx) (wK K 121 rfl) (wK K 122 rfl) (wK K 3 rfl) (wK K 123 rfl) (by decide) (na := 1) rfl (by decide +kernel) rfl (stk := [(.int c0)]) rfl (by decide +kernel) (V := 0) (lb rfl) (lb rfl) (lb rfl) (lb rfl) (lb rfl)
        refine oLift st107 ?_
        rw [e107] at W107 C107
        show OG _ _ _ _ _ _ _ _ _ _ _ (mkF m 155 #[sR a, sI vl, sR b, sI (Int32.ofNat U), sI 3, sI 0, sI (-1), sU, sU] [(.int r107)])
        rcases Q107 with ⟨rfl, hq107⟩ | ⟨rfl, hq107⟩
        · exact absurd hq107 hw103
        refine oIfF W107 (cd := .ne) (o := 6) (by decide +kernel) (XT.i0_ne_f (by decide)) (pc' := 158) rfl ?_
        refine oGo W107 [.iconst 0, .istore 6] (by decide +kernel) (ls' := #[sR a, sI vl, sR b, sI (Int32.ofNat U), sI 3, sI 0, sI 0, sU, sU]) (st' := []) rfl rfl (pc' := 161) rfl ?_
        refine oGo W107 [.iload 4, .iconst 1] (by decide +kernel) (ls' := #[sR a, sI vl, sR b, sI (Int32.ofNat U), sI 3, sI 0, sI 0, sU, sU]) (st' := [(.int 1), (.int 3)]) rfl rfl (pc' := 164) rfl ?_
        refine oIcF W107 (cd := .le) (o := 15) (by decide +kernel) (XT.ii_le_f (by decide)) (pc' := 167) rfl ?_
        refine oGo W107 [.aload_n 0, .iconst 1] (by decide +kernel) (ls' := #[sR a, sI vl, sR b, sI (Int32.ofNat U), sI 3, sI 0, sI 0, sU, sU]) (st' := [(.int 1), (.ref a)]) rfl rfl (pc' := 169) rfl ?_
        refine oGet W107 A (v := (.int c1)) (by decide) rfl (Or.inl ⟨rfl, rfl⟩) (by decide +kernel) ?_
        obtain ⟨v108, T108, L108, h108, vm108, W108, ⟨r108, rfl, e108, Q108⟩, C108, st108⟩ := oCallS W107 (idx := 28) (pc := 170) (ls := #[sR a, sI vl, sR b, sI (Int32.ofNat U), sI 3, sI 0, sI 0, sU, sU]) (st := []) (argsL := [(.int c1)]) (c_ws K) (fun x hx => nomatch hx) (wK K 121 rfl) (wK K 122 rfl) (wK K 3 rfl) (wK K 123 rfl) (by decide) (na := 1) rfl (by decide +kernel) rfl (stk := [(.int c1)]) rfl (by decide +kernel) (V := 0) (lb rfl) (lb rfl) (lb rfl) (lb rfl) (lb rfl)
        refine oLift st108 ?_
        rw [e108] at W108 C108
        show OG _ _ _ _ _ _ _ _ _ _ _ (mkF m 173 #[sR a, sI vl, sR b, sI (Int32.ofNat U), sI 3, sI 0, sI 0, sU, sU] [(.int r108)])
        rcases Q108 with ⟨rfl, hq108⟩ | ⟨rfl, hq108⟩
        rotate_left
        · exact absurd hw102 hq108
        refine oIfT W108 (cd := .ne) (o := 6) (by decide +kernel) (XT.i0_ne_t (by decide)) (pc' := 179) (by decide) (by decide) ?_
        refine oGo W108 [.iload 4, .iconst 2] (by decide +kernel) (ls' := #[sR a, sI vl, sR b, sI (Int32.ofNat U), sI 3, sI 0, sI 0, sU, sU]) (st' := [(.int 2), (.int 3)]) rfl rfl (pc' := 182) rfl ?_
        refine oIcF W108 (cd := .le) (o := 15) (by decide +kernel) (XT.ii_le_f (by decide)) (pc' := 185) rfl ?_
        refine oGo W108 [.aload_n 0, .iconst 2] (by decide +kernel) (ls' := #[sR a, sI vl, sR b, sI (Int32.ofNat U), sI 3, sI 0, sI 0, sU, sU]) (st' := [(.int 2), (.ref a)]) rfl rfl (pc' := 187) rfl ?_
        refine oGet W108 A (v := (.int c2)) (by decide) rfl (Or.inl ⟨rfl, rfl⟩) (by decide +kernel) ?_
        obtain ⟨v109, T109, L109, h109, vm109, W109, ⟨r109, rfl, e109, Q109⟩, C109, st109⟩ := oCallS W108 (idx := 28) (pc := 188) (ls := #[sR a, sI vl, sR b, sI (Int32.ofNat U), sI 3, sI 0, sI 0, sU, sU]) (st := []) (argsL := [(.int c2)]) (c_ws K) (fun x hx => nomatch hx) (wK K 121 rfl) (wK K 122 rfl) (wK K 3 rfl) (wK K 123 rfl) (by decide) (na := 1) rfl (by decide +kernel) rfl (stk := [(.int c2)]) rfl (by decide +kernel) (V := 0) (lb rfl) (lb rfl) (lb rfl) (lb rfl) (lb rfl)
        refine oLift st109 ?_
        rw [e109] at W109 C109
        show OG _ _ _ _ _ _ _ _ _ _ _ (mkF m 191 #[sR a, sI vl, sR b, sI (Int32.ofNat U), sI 3, sI 0, sI 0, sU, sU] [(.int r109)])
        rcases Q109 with ⟨rfl, hq109⟩ | ⟨rfl, hq109⟩
        rotate_left
        · exact absurd hw101 hq109
        refine oIfT W109 (cd := .ne) (o := 6) (by decide +kernel) (XT.i0_ne_t (by decide)) (pc' := 197) (by decide) (by decide) ?_
        refine oGo W109 [.iload 4, .iconst 3] (by decide +kernel) (ls' := #[sR a, sI vl, sR b, sI (Int32.ofNat U), sI 3, sI 0, sI 0, sU, sU]) (st' := [(.int 3), (.int 3)]) rfl rfl (pc' := 200) rfl ?_
        refine oIcT W109 (cd := .le) (o := 15) (by decide +kernel) (XT.ii_le_t (by decide)) (pc' := 215) (by decide) (by decide) ?_
        exact c_exp_c0_1 K hV hU W109 A B (by rw [he]; simp [strp, lw, rst, hw103, hw102, hw101])
    · refine oIfF W102 (cd := .ne) (o := 6) (by decide +kernel) (XT.i0_ne_f (by decide)) (pc' := 121) rfl ?_
      refine oGo W102 [.iconst 1, .istore 5] (by decide +kernel) (ls' := #[sR a, sI vl, sR b, sI (Int32.ofNat U), sI 3, sI 1, sU, sU, sU]) (st' := []) rfl rfl (pc' := 124) rfl ?_
      refine oGo W102 [.iload 4] (by decide +kernel) (ls' := #[sR a, sI vl, sR b, sI (Int32.ofNat U), sI 3, sI 1, sU, sU, sU]) (st' := [(.int 3)]) rfl rfl (pc' := 126) rfl ?_
      refine oIfF W102 (cd := .le) (o := 15) (by decide +kernel) (XT.i0_le_f (by decide)) (pc' := 129) rfl ?_
      refine oGo W102 [.aload_n 0, .iconst 0] (by decide +kernel) (ls' := #[sR a, sI vl, sR b, sI (Int32.ofNat U), sI 3, sI 1, sU, sU, sU]) (st' := [(.int 0), (.ref a)]) rfl rfl (pc' := 131) rfl ?_
      refine oGet W102 A (v := (.int c0)) (by decide) rfl (Or.inl ⟨rfl, rfl⟩) (by decide +kernel) ?_
      obtain ⟨v110, T110, L110, h110, vm110, W110, ⟨r110, rfl, e110, Q110⟩, C110, st110⟩ := oCallS W102 (idx := 28) (pc := 132) (ls := #[sR a, sI vl, sR b, sI (Int32.ofNat U), sI 3, sI 1, sU, sU, sU]) (st := []) (argsL := [(.int c0)]) (c_ws K) (fun x hx => nomatch hx) (wK K 121 rfl) (wK K 122 rfl) (wK K 3 rfl) (wK K 123 rfl) (by decide) (na := 1) rfl (by decide +kernel) rfl (stk := [(.int c0)]) rfl (by decide +kernel) (V := 0) (lb rfl) (lb rfl) (lb rfl) (lb rfl) (lb rfl)
      refine oLift st110 ?_
      rw [e110] at W110 C110
      show OG _ _ _ _ _ _ _ _ _ _ _ (mkF m 135 #[sR a, sI vl, sR b, sI (Int32.ofNat U), sI 3, sI 1, sU, sU, sU] [(.int r110)])
      rcases Q110 with ⟨rfl, hw110⟩ | ⟨rfl, hw110⟩
      · refine oIfT W110 (cd := .ne) (o := 6) (by decide +kernel) (XT.i0_ne_t (by decide)) (pc' := 141) (by decide) (by decide) ?_
        refine oGo W110 [.iconst (-1), .istore 6] (by decide +kernel) (ls' := #[sR a, sI vl, sR b, sI (Int32.ofNat U), sI 3, sI 1, sI (-1), sU, sU]) (st' := []) rfl rfl (pc' := 144) rfl ?_
        refine oGo W110 [.iload 4] (by decide +kernel) (ls' := #[sR a, sI vl, sR b, sI (Int32.ofNat U), sI 3, sI 1, sI (-1), sU, sU]) (st' := [(.int 3)]) rfl rfl (pc' := 146) rfl ?_
        refine oIfF W110 (cd := .le) (o := 15) (by decide +kernel) (XT.i0_le_f (by decide)) (pc' := 149) rfl ?_
        refine oGo W110 [.aload_n 0, .iconst 0] (by decide +kernel) (ls' := #[sR a, sI vl, sR b, sI (Int32.ofNat U), sI 3, sI 1, sI (-1), sU, sU]) (st' := [(.int 0), (.ref a)]) rfl rfl (pc' := 151) rfl ?_
        refine oGet W110 A (v := (.int c0)) (by decide) rfl (Or.inl ⟨rfl, rfl⟩) (by decide +kernel) ?_
        obtain ⟨v111, T111, L111, h111, vm111, W111, ⟨r111, rfl, e111, Q111⟩, C111, st111⟩ := oCallS W110 (idx := 28) (pc := 152) (ls := #[sR a, sI vl, sR b, sI (Int32.ofNat U), sI 3, sI 1, sI (-1), sU, sU]) (st := []) (argsL := [(.int c0)]) (c_ws K) (fun x hx => nomatch hx) (wK K 121 rfl) (wK K 122 rfl) (wK K 3 rfl) (wK K 123 rfl) (by decide) (na := 1) rfl (by decide +kernel) rfl (stk := [(.int c0)]) rfl (by decide +kernel) (V := 0) (lb rfl) (lb rfl) (lb rfl) (lb rfl) (lb rfl)
        refine oLift st111 ?_
        rw [e111] at W111 C111
        show OG _ _ _ _ _ _ _ _ _ _ _ (mkF m 155 #[sR a, sI vl, sR b, sI (Int32.ofNat U), sI 3, sI 1, sI (-1), sU, sU] [(.int r111)])
        rcases Q111 with ⟨rfl, hq111⟩ | ⟨rfl, hq111⟩
        rotate_left
        · exact absurd hw110 hq111
        refine oIfT W111 (cd := .ne) (o := 6) (by decide +kernel) (XT.i0_ne_t (by decide)) (pc' := 161) (by decide) (by decide) ?_
        refine oGo W111 [.iload 4, .iconst 1] (by decide +kernel) (ls' := #[sR a, sI vl, sR b, sI (Int32.ofNat U), sI 3, sI 1, sI (-1), sU, sU]) (st' := [(.int 1), (.int 3)]) rfl rfl (pc' := 164) rfl ?_
        refine oIcF W111 (cd := .le) (o := 15) (by decide +kernel) (XT.ii_le_f (by decide)) (pc' := 167) rfl ?_
        refine oGo W111 [.aload_n 0, .iconst 1] (by decide +kernel) (ls' := #[sR a, sI vl, sR b, sI (Int32.ofNat U), sI 3, sI 1, sI (-1), sU, sU]) (st' := [(.int 1), (.ref a)]) rfl rfl (pc' := 169) rfl ?_
        refine oGet W111 A (v := (.int c1)) (by decide) rfl (Or.inl ⟨rfl, rfl⟩) (by decide +kernel) ?_
        obtain ⟨v112, T112, L112, h112, vm112, W112, ⟨r112, rfl, e112, Q112⟩, C112, st112⟩ := oCallS W111 (idx := 28) (pc := 170) (ls := #[sR a, sI vl, sR b, sI (Int32.ofNat U), sI 3, sI 1, sI (-1), sU, sU]) (st := []) (argsL := [(.int c1)]) (c_ws K) (fun x hx => nomatch hx) (wK K 121 rfl) (wK K 122 rfl) (wK K 3 rfl) (wK K 123 rfl) (by decide) (na := 1) rfl (by decide +kernel) rfl (stk := [(.int c1)]) rfl (by decide +kernel) (V := 0) (lb rfl) (lb rfl) (lb rfl) (lb rfl) (lb rfl)
        refine oLift st112 ?_
        rw [e112] at W112 C112
        show OG _ _ _ _ _ _ _ _ _ _ _ (mkF m 173 #[sR a, sI vl, sR b, sI (Int32.ofNat U), sI 3, sI 1, sI (-1), sU, sU] [(.int r112)])
        rcases Q112 with ⟨rfl, hq112⟩ | ⟨rfl, hq112⟩
        · exact absurd hq112 hw102
        refine oIfF W112 (cd := .ne) (o := 6) (by decide +kernel) (XT.i0_ne_f (by decide)) (pc' := 176) rfl ?_
        refine oGo W112 [.iconst 1, .istore 6] (by decide +kernel) (ls' := #[sR a, sI vl, sR b, sI (Int32.ofNat U), sI 3, sI 1, sI 1, sU, sU]) (st' := []) rfl rfl (pc' := 179) rfl ?_
        refine oGo W112 [.iload 4, .iconst 2] (by decide +kernel) (ls' := #[sR a, sI vl, sR b, sI (Int32.ofNat U), sI 3, sI 1, sI 1, sU, sU]) (st' := [(.int 2), (.int 3)]) rfl rfl (pc' := 182) rfl ?_
        refine oIcF W112 (cd := .le) (o := 15) (by decide +kernel) (XT.ii_le_f (by decide)) (pc' := 185) rfl ?_
        refine oGo W112 [.aload_n 0, .iconst 2] (by decide +kernel) (ls' := #[sR a, sI vl, sR b, sI (Int32.ofNat U), sI 3, sI 1, sI 1, sU, sU]) (st' := [(.int 2), (.ref a)]) rfl rfl (pc' := 187) rfl ?_
        refine oGet W112 A (v := (.int c2)) (by decide) rfl (Or.inl ⟨rfl, rfl⟩) (by decide +kernel) ?_
        obtain ⟨v113, T113, L113, h113, vm113, W113, ⟨r113, rfl, e113, Q113⟩, C113, st113⟩ := oCallS W112 (idx := 28) (pc := 188) (ls := #[sR a, sI vl, sR b, sI (Int32.ofNat U), sI 3, sI 1, sI 1, sU, sU]) (st := []) (argsL := [(.int c2)]) (c_ws K) (fun x hx => nomatch hx) (wK K 121 rfl) (wK K 122 rfl) (wK K 3 rfl) (wK K 123 rfl) (by decide) (na := 1) rfl (by decide +kernel) rfl (stk := [(.int c2)]) rfl (by decide +kernel) (V := 0) (lb rfl) (lb rfl) (lb rfl) (lb rfl) (lb rfl)
        refine oLift st113 ?_
        rw [e113] at W113 C113
        show OG _ _ _ _ _ _ _ _ _ _ _ (mkF m 191 #[sR a, sI vl, sR b, sI (Int32.ofNat U), sI 3, sI 1, sI 1, sU, sU] [(.int r113)])
        rcases Q113 with ⟨rfl, hq113⟩ | ⟨rfl, hq113⟩
        rotate_left
        · exact absurd hw101 hq113
        refine oIfT W113 (cd := .ne) (o := 6) (by decide +kernel) (XT.i0_ne_t (by decide)) (pc' := 197) (by decide) (by decide) ?_
        refine oGo W113 [.iload 4, .iconst 3] (by decide +kernel) (ls' := #[sR a, sI vl, sR b, sI (Int32.ofNat U), sI 3, sI 1, sI 1, sU, sU]) (st' := [(.int 3), (.int 3)]) rfl rfl (pc' := 200) rfl ?_
        refine oIcT W113 (cd := .le) (o := 15) (by decide +kernel) (XT.ii_le_t (by decide)) (pc' := 215) (by decide) (by decide) ?_
        exact c_exp_c1_2 K hV hU W113 A B (by rw [he]; simp [strp, lw, rst, hw110, hw102, hw101])
      · refine oIfF W110 (cd := .ne) (o := 6) (by decide +kernel) (XT.i0_ne_f (by decide)) (pc' := 138) rfl ?_
        refine oGo W110 [.iconst 0, .istore 5] (by decide +kernel) (ls' := #[sR a, sI vl, sR b, sI (Int32.ofNat U), sI 3, sI 0, sU, sU, sU]) (st' := []) rfl rfl (pc' := 141) rfl ?_
        refine oGo W110 [.iconst (-1), .istore 6] (by decide +kernel) (ls' := #[sR a, sI vl, sR b, sI (Int32.ofNat U), sI 3, sI 0, sI (-1), sU, sU]) (st' := []) rfl rfl (pc' := 144) rfl ?_
        refine oGo W110 [.iload 4] (by decide +kernel) (ls' := #[sR a, sI vl, sR b, sI (Int32.ofNat U), sI 3, sI 0, sI (-1), sU, sU]) (st' := [(.int 3)]) rfl rfl (pc' := 146) rfl ?_
        refine oIfF W110 (cd := .le) (o := 15) (by decide +kernel) (XT.i0_le_f (by decide)) (pc' := 149) rfl ?_
        refine oGo W110 [.aload_n 0, .iconst 0] (by decide +kernel) (ls' := #[sR a, sI vl, sR b, sI (Int32.ofNat U), sI 3, sI 0, sI (-1), sU, sU]) (st' := [(.int 0), (.ref a)]) rfl rfl (pc' := 151) rfl ?_
        refine oGet W110 A (v := (.int c0)) (by decide) rfl (Or.inl ⟨rfl, rfl⟩) (by decide +kernel) ?_
        obtain ⟨v114, T114, L114, h114, vm114, W114, ⟨r114, rfl, e114, Q114⟩, C114, st114⟩ := oCallS W110 (idx := 28) (pc := 152) (ls := #[sR a, sI vl, sR b, sI (Int32.ofNat U), sI 3, sI 0, sI (-1), sU, sU]) (st := []) (argsL := [(.int c0)]) (c_ws K) (fun x hx => nomatch hx) (wK K 121 rfl) (wK K 122 rfl) (wK K 3 rfl) (wK K 123 rfl) (by decide) (na := 1) rfl (by decide +kernel) rfl (stk := [(.int c0)]) rfl (by decide +kernel) (V := 0) (lb rfl) (lb rfl) (lb rfl) (lb rfl) (lb rfl)
        refine oLift st114 ?_
        rw [e114] at W114 C114
        show OG _ _ _ _ _ _ _ _ _ _ _ (mkF m 155 #[sR a, sI vl, sR b, sI (Int32.ofNat U), sI 3, sI 0, sI (-1), sU, sU] [(.int r114)])
        rcases Q114 with ⟨rfl, hq114⟩ | ⟨rfl, hq114⟩
        · exact absurd hq114 hw110
        refine oIfF W114 (cd := .ne) (o := 6) (by decide +kernel) (XT.i0_ne_f (by decide)) (pc' := 158) rfl ?_
        refine oGo W114 [.iconst 0, .istore 6] (by decide +kernel) (ls' := #[sR a, sI vl, sR b, sI (Int32.ofNat U), sI 3, sI 0, sI 0, sU, sU]) (st' := []) rfl rfl (pc' := 161) rfl ?_
        refine oGo W114 [.iload 4, .iconst 1] (by decide +kernel) (ls' := #[sR a, sI vl, sR b, sI (Int32.ofNat U), sI 3, sI 0, sI 0, sU, sU]) (st' := [(.int 1), (.int 3)]) rfl rfl (pc' := 164) rfl ?_
        refine oIcF W114 (cd := .le) (o := 15) (by decide +kernel) (XT.ii_le_f (by decide)) (pc' := 167) rfl ?_
        refine oGo W114 [.aload_n 0, .iconst 1] (by decide +kernel) (ls' := #[sR a, sI vl, sR b, sI (Int32.ofNat U), sI 3, sI 0, sI 0, sU, sU]) (st' := [(.int 1), (.ref a)]) rfl rfl (pc' := 169) rfl ?_
        refine oGet W114 A (v := (.int c1)) (by decide) rfl (Or.inl ⟨rfl, rfl⟩) (by decide +kernel) ?_
        obtain ⟨v115, T115, L115, h115, vm115, W115, ⟨r115, rfl, e115, Q115⟩, C115, st115⟩ := oCallS W114 (idx := 28) (pc := 170) (ls := #[sR a, sI vl, sR b, sI (Int32.ofNat U), sI 3, sI 0, sI 0, sU, sU]) (st := []) (argsL := [(.int c1)]) (c_ws K) (fun x hx => nomatch hx) (wK K 121 rfl) (wK K 122 rfl) (wK K 3 rfl) (wK K 123 rfl) (by decide) (na := 1) rfl (by decide +kernel) rfl (stk := [(.int c1)]) rfl (by decide +kernel) (V := 0) (lb rfl) (lb rfl) (lb rfl) (lb rfl) (lb rfl)
        refine oLift st115 ?_
        rw [e115] at W115 C115
        show OG _ _ _ _ _ _ _ _ _ _ _ (mkF m 173 #[sR a, sI vl, sR b, sI (Int32.ofNat U), sI 3, sI 0, sI 0, sU, sU] [(.int r115)])
        rcases Q115 with ⟨rfl, hq115⟩ | ⟨rfl, hq115⟩
        · exact absurd hq115 hw102
        refine oIfF W115 (cd := .ne) (o := 6) (by decide +kernel) (XT.i0_ne_f (by decide)) (pc' := 176) rfl ?_
        refine oGo W115 [.iconst 1, .istore 6] (by decide +kernel) (ls' := #[sR a, sI vl, sR b, sI (Int32.ofNat U), sI 3, sI 0, sI 1, sU, sU]) (st' := []) rfl rfl (pc' := 179) rfl ?_
        refine oGo W115 [.iload 4, .iconst 2] (by decide +kernel) (ls' := #[sR a, sI vl, sR b, sI (Int32.ofNat U), sI 3, sI 0, sI 1, sU, sU]) (st' := [(.int 2), (.int 3)]) rfl rfl (pc' := 182) rfl ?_
        refine oIcF W115 (cd := .le) (o := 15) (by decide +kernel) (XT.ii_le_f (by decide)) (pc' := 185) rfl ?_
        refine oGo W115 [.aload_n 0, .iconst 2] (by decide +kernel) (ls' := #[sR a, sI vl, sR b, sI (Int32.ofNat U), sI 3, sI 0, sI 1, sU, sU]) (st' := [(.int 2), (.ref a)]) rfl rfl (pc' := 187) rfl ?_
        refine oGet W115 A (v := (.int c2)) (by decide) rfl (Or.inl ⟨rfl, rfl⟩) (by decide +kernel) ?_
        obtain ⟨v116, T116, L116, h116, vm116, W116, ⟨r116, rfl, e116, Q116⟩, C116, st116⟩ := oCallS W115 (idx := 28) (pc := 188) (ls := #[sR a, sI vl, sR b, sI (Int32.ofNat U), sI 3, sI 0, sI 1, sU, sU]) (st := []) (argsL := [(.int c2)]) (c_ws K) (fun x hx => nomatch hx) (wK K 121 rfl) (wK K 122 rfl) (wK K 3 rfl) (wK K 123 rfl) (by decide) (na := 1) rfl (by decide +kernel) rfl (stk := [(.int c2)]) rfl (by decide +kernel) (V := 0) (lb rfl) (lb rfl) (lb rfl) (lb rfl) (lb rfl)
        refine oLift st116 ?_
        rw [e116] at W116 C116
        show OG _ _ _ _ _ _ _ _ _ _ _ (mkF m 191 #[sR a, sI vl, sR b, sI (Int32.ofNat U), sI 3, sI 0, sI 1, sU, sU] [(.int r116)])
        rcases Q116 with ⟨rfl, hq116⟩ | ⟨rfl, hq116⟩
        rotate_left
        · exact absurd hw101 hq116
        refine oIfT W116 (cd := .ne) (o := 6) (by decide +kernel) (XT.i0_ne_t (by decide)) (pc' := 197) (by decide) (by decide) ?_
        refine oGo W116 [.iload 4, .iconst 3] (by decide +kernel) (ls' := #[sR a, sI vl, sR b, sI (Int32.ofNat U), sI 3, sI 0, sI 1, sU, sU]) (st' := [(.int 3), (.int 3)]) rfl rfl (pc' := 200) rfl ?_
        refine oIcT W116 (cd := .le) (o := 15) (by decide +kernel) (XT.ii_le_t (by decide)) (pc' := 215) (by decide) (by decide) ?_
        exact c_exp_c0_2 K hV hU W116 A B (by rw [he]; simp [strp, lw, rst, hw110, hw102, hw101])
  · refine oIfF W101 (cd := .ne) (o := 6) (by decide +kernel) (XT.i0_ne_f (by decide)) (pc' := 103) rfl ?_
    refine oGo W101 [.iconst 2, .istore 5] (by decide +kernel) (ls' := #[sR a, sI vl, sR b, sI (Int32.ofNat U), sI 3, sI 2, sU, sU, sU]) (st' := []) rfl rfl (pc' := 106) rfl ?_
    refine oGo W101 [.iload 4, .iconst 1] (by decide +kernel) (ls' := #[sR a, sI vl, sR b, sI (Int32.ofNat U), sI 3, sI 2, sU, sU, sU]) (st' := [(.int 1), (.int 3)]) rfl rfl (pc' := 109) rfl ?_
    refine oIcF W101 (cd := .le) (o := 15) (by decide +kernel) (XT.ii_le_f (by decide)) (pc' := 112) rfl ?_
    refine oGo W101 [.aload_n 0, .iconst 1] (by decide +kernel) (ls' := #[sR a, sI vl, sR b, sI (Int32.ofNat U), sI 3, sI 2, sU, sU, sU]) (st' := [(.int 1), (.ref a)]) rfl rfl (pc' := 114) rfl ?_
    refine oGet W101 A (v := (.int c1)) (by decide) rfl (Or.inl ⟨rfl, rfl⟩) (by decide +kernel) ?_
    obtain ⟨v117, T117, L117, h117, vm117, W117, ⟨r117, rfl, e117, Q117⟩, C117, st117⟩ := oCallS W101 (idx := 28) (pc := 115) (ls := #[sR a, sI vl, sR b, sI (Int32.ofNat U), sI 3, sI 2, sU, sU, sU]) (st := []) (argsL := [(.int c1)]) (c_ws K) (fun x hx => nomatch hx) (wK K 121 rfl) (wK K 122 rfl) (wK K 3 rfl) (wK K 123 rfl) (by decide) (na := 1) rfl (by decide +kernel) rfl (stk := [(.int c1)]) rfl (by decide +kernel) (V := 0) (lb rfl) (lb rfl) (lb rfl) (lb rfl) (lb rfl)
    refine oLift st117 ?_
    rw [e117] at W117 C117
    show OG _ _ _ _ _ _ _ _ _ _ _ (mkF m 118 #[sR a, sI vl, sR b, sI (Int32.ofNat U), sI 3, sI 2, sU, sU, sU] [(.int r117)])
    rcases Q117 with ⟨rfl, hw117⟩ | ⟨rfl, hw117⟩
    · refine oIfT W117 (cd := .ne) (o := 6) (by decide +kernel) (XT.i0_ne_t (by decide)) (pc' := 124) (by decide) (by decide) ?_
      refine oGo W117 [.iload 4] (by decide +kernel) (ls' := #[sR a, sI vl, sR b, sI (Int32.ofNat U), sI 3, sI 2, sU, sU, sU]) (st' := [(.int 3)]) rfl rfl (pc' := 126) rfl ?_
      refine oIfF W117 (cd := .le) (o := 15) (by decide +kernel) (XT.i0_le_f (by decide)) (pc' := 129) rfl ?_
      refine oGo W117 [.aload_n 0, .iconst 0] (by decide +kernel) (ls' := #[sR a, sI vl, sR b, sI (Int32.ofNat U), sI 3, sI 2, sU, sU, sU]) (st' := [(.int 0), (.ref a)]) rfl rfl (pc' := 131) rfl ?_
      refine oGet W117 A (v := (.int c0)) (by decide) rfl (Or.inl ⟨rfl, rfl⟩) (by decide +kernel) ?_
      obtain ⟨v118, T118, L118, h118, vm118, W118, ⟨r118, rfl, e118, Q118⟩, C118, st118⟩ := oCallS W117 (idx := 28) (pc := 132) (ls := #[sR a, sI vl, sR b, sI (Int32.ofNat U), sI 3, sI 2, sU, sU, sU]) (st := []) (argsL := [(.int c0)]) (c_ws K) (fun x hx => nomatch hx) (wK K 121 rfl) (wK K 122 rfl) (wK K 3 rfl) (wK K 123 rfl) (by decide) (na := 1) rfl (by decide +kernel) rfl (stk := [(.int c0)]) rfl (by decide +kernel) (V := 0) (lb rfl) (lb rfl) (lb rfl) (lb rfl) (lb rfl)
      refine oLift st118 ?_
      rw [e118] at W118 C118
      show OG _ _ _ _ _ _ _ _ _ _ _ (mkF m 135 #[sR a, sI vl, sR b, sI (Int32.ofNat U), sI 3, sI 2, sU, sU, sU] [(.int r118)])
      rcases Q118 with ⟨rfl, hw118⟩ | ⟨rfl, hw118⟩
      · refine oIfT W118 (cd := .ne) (o := 6) (by decide +kernel) (XT.i0_ne_t (by decide)) (pc' := 141) (by decide) (by decide) ?_
        refine oGo W118 [.iconst (-1), .istore 6] (by decide +kernel) (ls' := #[sR a, sI vl, sR b, sI (Int32.ofNat U), sI 3, sI 2, sI (-1), sU, sU]) (st' := []) rfl rfl (pc' := 144) rfl ?_
        refine oGo W118 [.iload 4] (by decide +kernel) (ls' := #[sR a, sI vl, sR b, sI (Int32.ofNat U), sI 3, sI 2, sI (-1), sU, sU]) (st' := [(.int 3)]) rfl rfl (pc' := 146) rfl ?_
        refine oIfF W118 (cd := .le) (o := 15) (by decide +kernel) (XT.i0_le_f (by decide)) (pc' := 149) rfl ?_
        refine oGo W118 [.aload_n 0, .iconst 0] (by decide +kernel) (ls' := #[sR a, sI vl, sR b, sI (Int32.ofNat U), sI 3, sI 2, sI (-1), sU, sU]) (st' := [(.int 0), (.ref a)]) rfl rfl (pc' := 151) rfl ?_
        refine oGet W118 A (v := (.int c0)) (by decide) rfl (Or.inl ⟨rfl, rfl⟩) (by decide +kernel) ?_
        obtain ⟨v119, T119, L119, h119, vm119, W119, ⟨r119, rfl, e119, Q119⟩, C119, st119⟩ := oCallS W118 (idx := 28) (pc := 152) (ls := #[sR a, sI vl, sR b, sI (Int32.ofNat U), sI 3, sI 2, sI (-1), sU, sU]) (st := []) (argsL := [(.int c0)]) (c_ws K) (fun x hx => nomatch hx) (wK K 121 rfl) (wK K 122 rfl) (wK K 3 rfl) (wK K 123 rfl) (by decide) (na := 1) rfl (by decide +kernel) rfl (stk := [(.int c0)]) rfl (by decide +kernel) (V := 0) (lb rfl) (lb rfl) (lb rfl) (lb rfl) (lb rfl)
        refine oLift st119 ?_
        rw [e119] at W119 C119
        show OG _ _ _ _ _ _ _ _ _ _ _ (mkF m 155 #[sR a, sI vl, sR b, sI (Int32.ofNat U), sI 3, sI 2, sI (-1), sU, sU] [(.int r119)])
        rcases Q119 with ⟨rfl, hq119⟩ | ⟨rfl, hq119⟩
        rotate_left
        · exact absurd hw118 hq119
        refine oIfT W119 (cd := .ne) (o := 6) (by decide +kernel) (XT.i0_ne_t (by decide)) (pc' := 161) (by decide) (by decide) ?_
        refine oGo W119 [.iload 4, .iconst 1] (by decide +kernel) (ls' := #[sR a, sI vl, sR b, sI (Int32.ofNat U), sI 3, sI 2, sI (-1), sU, sU]) (st' := [(.int 1), (.int 3)]) rfl rfl (pc' := 164) rfl ?_
        refine oIcF W119 (cd := .le) (o := 15) (by decide +kernel) (XT.ii_le_f (by decide)) (pc' := 167) rfl ?_
        refine oGo W119 [.aload_n 0, .iconst 1] (by decide +kernel) (ls' := #[sR a, sI vl, sR b, sI (Int32.ofNat U), sI 3, sI 2, sI (-1), sU, sU]) (st' := [(.int 1), (.ref a)]) rfl rfl (pc' := 169) rfl ?_
        refine oGet W119 A (v := (.int c1)) (by decide) rfl (Or.inl ⟨rfl, rfl⟩) (by decide +kernel) ?_
        obtain ⟨v120, T120, L120, h120, vm120, W120, ⟨r120, rfl, e120, Q120⟩, C120, st120⟩ := oCallS W119 (idx := 28) (pc := 170) (ls := #[sR a, sI vl, sR b, sI (Int32.ofNat U), sI 3, sI 2, sI (-1), sU, sU]) (st := []) (argsL := [(.int c1)]) (c_ws K) (fun x hx => nomatch hx) (wK K 121 rfl) (wK K 122 rfl) (wK K 3 rfl) (wK K 123 rfl) (by decide) (na := 1) rfl (by decide +kernel) rfl (stk := [(.int c1)]) rfl (by decide +kernel) (V := 0) (lb rfl) (lb rfl) (lb rfl) (lb rfl) (lb rfl)
        refine oLift st120 ?_
        rw [e120] at W120 C120
        show OG _ _ _ _ _ _ _ _ _ _ _ (mkF m 173 #[sR a, sI vl, sR b, sI (Int32.ofNat U), sI 3, sI 2, sI (-1), sU, sU] [(.int r120)])
        rcases Q120 with ⟨rfl, hq120⟩ | ⟨rfl, hq120⟩
        rotate_left
        · exact absurd hw117 hq120
        refine oIfT W120 (cd := .ne) (o := 6) (by decide +kernel) (XT.i0_ne_t (by decide)) (pc' := 179) (by decide) (by decide) ?_
        refine oGo W120 [.iload 4, .iconst 2] (by decide +kernel) (ls' := #[sR a, sI vl, sR b, sI (Int32.ofNat U), sI 3, sI 2, sI (-1), sU, sU]) (st' := [(.int 2), (.int 3)]) rfl rfl (pc' := 182) rfl ?_
        refine oIcF W120 (cd := .le) (o := 15) (by decide +kernel) (XT.ii_le_f (by decide)) (pc' := 185) rfl ?_
        refine oGo W120 [.aload_n 0, .iconst 2] (by decide +kernel) (ls' := #[sR a, sI vl, sR b, sI (Int32.ofNat U), sI 3, sI 2, sI (-1), sU, sU]) (st' := [(.int 2), (.ref a)]) rfl rfl (pc' := 187) rfl ?_
        refine oGet W120 A (v := (.int c2)) (by decide) rfl (Or.inl ⟨rfl, rfl⟩) (by decide +kernel) ?_
        obtain ⟨v121, T121, L121, h121, vm121, W121, ⟨r121, rfl, e121, Q121⟩, C121, st121⟩ := oCallS W120 (idx := 28) (pc := 188) (ls := #[sR a, sI vl, sR b, sI (Int32.ofNat U), sI 3, sI 2, sI (-1), sU, sU]) (st := []) (argsL := [(.int c2)]) (c_ws K) (fun x hx => nomatch hx) (wK K 121 rfl) (wK K 122 rfl) (wK K 3 rfl) (wK K 123 rfl) (by decide) (na := 1) rfl (by decide +kernel) rfl (stk := [(.int c2)]) rfl (by decide +kernel) (V := 0) (lb rfl) (lb rfl) (lb rfl) (lb rfl) (lb rfl)
        refine oLift st121 ?_
        rw [e121] at W121 C121
        show OG _ _ _ _ _ _ _ _ _ _ _ (mkF m 191 #[sR a, sI vl, sR b, sI (Int32.ofNat U), sI 3, sI 2, sI (-1), sU, sU] [(.int r121)])
        rcases Q121 with ⟨rfl, hq121⟩ | ⟨rfl, hq121⟩
        · exact absurd hq121 hw101
        refine oIfF W121 (cd := .ne) (o := 6) (by decide +kernel) (XT.i0_ne_f (by decide)) (pc' := 194) rfl ?_
        refine oGo W121 [.iconst 2, .istore 6] (by decide +kernel) (ls' := #[sR a, sI vl, sR b, sI (Int32.ofNat U), sI 3, sI 2, sI 2, sU, sU]) (st' := []) rfl rfl (pc' := 197) rfl ?_
        refine oGo W121 [.iload 4, .iconst 3] (by decide +kernel) (ls' := #[sR a, sI vl, sR b, sI (Int32.ofNat U), sI 3, sI 2, sI 2, sU, sU]) (st' := [(.int 3), (.int 3)]) rfl rfl (pc' := 200) rfl ?_
        refine oIcT W121 (cd := .le) (o := 15) (by decide +kernel) (XT.ii_le_t (by decide)) (pc' := 215) (by decide) (by decide) ?_
        exact c_exp_c2_3 K hV hU W121 A B (by rw [he]; simp [strp, lw, rst, hw118, hw117, hw101])
      · refine oIfF W118 (cd := .ne) (o := 6) (by decide +kernel) (XT.i0_ne_f (by decide)) (pc' := 138) rfl ?_
        refine oGo W118 [.iconst 0, .istore 5] (by decide +kernel) (ls' := #[sR a, sI vl, sR b, sI (Int32.ofNat U), sI 3, sI 0, sU, sU, sU]) (st' := []) rfl rfl (pc' := 141) rfl ?_
        refine oGo W118 [.iconst (-1), .istore 6] (by decide +kernel) (ls' := #[sR a, sI vl, sR b, sI (Int32.ofNat U), sI 3, sI 0, sI (-1), sU, sU]) (st' := []) rfl rfl (pc' := 144) rfl ?_
        refine oGo W118 [.iload 4] (by decide +kernel) (ls' := #[sR a, sI vl, sR b, sI (Int32.ofNat U), sI 3, sI 0, sI (-1), sU, sU]) (st' := [(.int 3)]) rfl rfl (pc' := 146) rfl ?_
        refine oIfF W118 (cd := .le) (o := 15) (by decide +kernel) (XT.i0_le_f (by decide)) (pc' := 149) rfl ?_
        refine oGo W118 [.aload_n 0, .iconst 0] (by decide +kernel) (ls' := #[sR a, sI vl, sR b, sI (Int32.ofNat U), sI 3, sI 0, sI (-1), sU, sU]) (st' := [(.int 0), (.ref a)]) rfl rfl (pc' := 151) rfl ?_
        refine oGet W118 A (v := (.int c0)) (by decide) rfl (Or.inl ⟨rfl, rfl⟩) (by decide +kernel) ?_
        obtain ⟨v122, T122, L122, h122, vm122, W122, ⟨r122, rfl, e122, Q122⟩, C122, st122⟩ := oCallS W118 (idx := 28) (pc := 152) (ls := #[sR a, sI vl, sR b, sI (Int32.ofNat U), sI 3, sI 0, sI (-1), sU, sU]) (st := []) (argsL := [(.int c0)]) (c_ws K) (fun x hx => nomatch hx) (wK K 121 rfl) (wK K 122 rfl) (wK K 3 rfl) (wK K 123 rfl) (by decide) (na := 1) rfl (by decide +kernel) rfl (stk := [(.int c0)]) rfl (by decide +kernel) (V := 0) (lb rfl) (lb rfl) (lb rfl) (lb rfl) (lb rfl)
        refine oLift st122 ?_
        rw [e122] at W122 C122
        show OG _ _ _ _ _ _ _ _ _ _ _ (mkF m 155 #[sR a, sI vl, sR b, sI (Int32.ofNat U), sI 3, sI 0, sI (-1), sU, sU] [(.int r122)])
        rcases Q122 with ⟨rfl, hq122⟩ | ⟨rfl, hq122⟩
        · exact absurd hq122 hw118
        refine oIfF W122 (cd := .ne) (o := 6) (by decide +kernel) (XT.i0_ne_f (by decide)) (pc' := 158) rfl ?_
        refine oGo W122 [.iconst 0, .istore 6] (by decide +kernel) (ls' := #[sR a, sI vl, sR b, sI (Int32.ofNat U), sI 3, sI 0, sI 0, sU, sU]) (st' := []) rfl rfl (pc' := 161) rfl ?_
        refine oGo W122 [.iload 4, .iconst 1] (by decide +kernel) (ls' := #[sR a, sI vl, sR b, sI (Int32.ofNat U), sI 3, sI 0, sI 0, sU, sU]) (st' := [(.int 1), (.int 3)]) rfl rfl (pc' := 164) rfl ?_
        refine oIcF W122 (cd := .le) (o := 15) (by decide +kernel) (XT.ii_le_f (by decide)) (pc' := 167) rfl ?_
        refine oGo W122 [.aload_n 0, .iconst 1] (by decide +kernel) (ls' := #[sR a, sI vl, sR b, sI (Int32.ofNat U), sI 3, sI 0, sI 0, sU, sU]) (st' := [(.int 1), (.ref a)]) rfl rfl (pc' := 169) rfl ?_
        refine oGet W122 A (v := (.int c1)) (by decide) rfl (Or.inl ⟨rfl, rfl⟩) (by decide +kernel) ?_
        obtain ⟨v123, T123, L123, h123, vm123, W123, ⟨r123, rfl, e123, Q123⟩, C123, st123⟩ := oCallS W122 (idx := 28) (pc := 170) (ls := #[sR a, sI vl, sR b, sI (Int32.ofNat U), sI 3, sI 0, sI 0, sU, sU]) (st := []) (argsL := [(.int c1)]) (c_ws K) (fun x hx => nomatch hx) (wK K 121 rfl) (wK K 122 rfl) (wK K 3 rfl) (wK K 123 rfl) (by decide) (na := 1) rfl (by decide +kernel) rfl (stk := [(.int c1)]) rfl (by decide +kernel) (V := 0) (lb rfl) (lb rfl) (lb rfl) (lb rfl) (lb rfl)
        refine oLift st123 ?_
        rw [e123] at W123 C123
        show OG _ _ _ _ _ _ _ _ _ _ _ (mkF m 173 #[sR a, sI vl, sR b, sI (Int32.ofNat U), sI 3, sI 0, sI 0, sU, sU] [(.int r123)])
        rcases Q123 with ⟨rfl, hq123⟩ | ⟨rfl, hq123⟩
        rotate_left
        · exact absurd hw117 hq123
        refine oIfT W123 (cd := .ne) (o := 6) (by decide +kernel) (XT.i0_ne_t (by decide)) (pc' := 179) (by decide) (by decide) ?_
        refine oGo W123 [.iload 4, .iconst 2] (by decide +kernel) (ls' := #[sR a, sI vl, sR b, sI (Int32.ofNat U), sI 3, sI 0, sI 0, sU, sU]) (st' := [(.int 2), (.int 3)]) rfl rfl (pc' := 182) rfl ?_
        refine oIcF W123 (cd := .le) (o := 15) (by decide +kernel) (XT.ii_le_f (by decide)) (pc' := 185) rfl ?_
        refine oGo W123 [.aload_n 0, .iconst 2] (by decide +kernel) (ls' := #[sR a, sI vl, sR b, sI (Int32.ofNat U), sI 3, sI 0, sI 0, sU, sU]) (st' := [(.int 2), (.ref a)]) rfl rfl (pc' := 187) rfl ?_
        refine oGet W123 A (v := (.int c2)) (by decide) rfl (Or.inl ⟨rfl, rfl⟩) (by decide +kernel) ?_
        obtain ⟨v124, T124, L124, h124, vm124, W124, ⟨r124, rfl, e124, Q124⟩, C124, st124⟩ := oCallS W123 (idx := 28) (pc := 188) (ls := #[sR a, sI vl, sR b, sI (Int32.ofNat U), sI 3, sI 0, sI 0, sU, sU]) (st := []) (argsL := [(.int c2)]) (c_ws K) (fun x hx => nomatch hx) (wK K 121 rfl) (wK K 122 rfl) (wK K 3 rfl) (wK K 123 rfl) (by decide) (na := 1) rfl (by decide +kernel) rfl (stk := [(.int c2)]) rfl (by decide +kernel) (V := 0) (lb rfl) (lb rfl) (lb rfl) (lb rfl) (lb rfl)
        refine oLift st124 ?_
        rw [e124] at W124 C124
        show OG _ _ _ _ _ _ _ _ _ _ _ (mkF m 191 #[sR a, sI vl, sR b, sI (Int32.ofNat U), sI 3, sI 0, sI 0, sU, sU] [(.int r124)])
        rcases Q124 with ⟨rfl, hq124⟩ | ⟨rfl, hq124⟩
        · exact absurd hq124 hw101
        refine oIfF W124 (cd := .ne) (o := 6) (by decide +kernel) (XT.i0_ne_f (by decide)) (pc' := 194) rfl ?_
        refine oGo W124 [.iconst 2, .istore 6] (by decide +kernel) (ls' := #[sR a, sI vl, sR b, sI (Int32.ofNat U), sI 3, sI 0, sI 2, sU, sU]) (st' := []) rfl rfl (pc' := 197) rfl ?_
        refine oGo W124 [.iload 4, .iconst 3] (by decide +kernel) (ls' := #[sR a, sI vl, sR b, sI (Int32.ofNat U), sI 3, sI 0, sI 2, sU, sU]) (st' := [(.int 3), (.int 3)]) rfl rfl (pc' := 200) rfl ?_
        refine oIcT W124 (cd := .le) (o := 15) (by decide +kernel) (XT.ii_le_t (by decide)) (pc' := 215) (by decide) (by decide) ?_
        exact c_exp_c0_3 K hV hU W124 A B (by rw [he]; simp [strp, lw, rst, hw118, hw117, hw101])
    · refine oIfF W117 (cd := .ne) (o := 6) (by decide +kernel) (XT.i0_ne_f (by decide)) (pc' := 121) rfl ?_
      refine oGo W117 [.iconst 1, .istore 5] (by decide +kernel) (ls' := #[sR a, sI vl, sR b, sI (Int32.ofNat U), sI 3, sI 1, sU, sU, sU]) (st' := []) rfl rfl (pc' := 124) rfl ?_
      refine oGo W117 [.iload 4] (by decide +kernel) (ls' := #[sR a, sI vl, sR b, sI (Int32.ofNat U), sI 3, sI 1, sU, sU, sU]) (st' := [(.int 3)]) rfl rfl (pc' := 126) rfl ?_
      refine oIfF W117 (cd := .le) (o := 15) (by decide +kernel) (XT.i0_le_f (by decide)) (pc' := 129) rfl ?_
      refine oGo W117 [.aload_n 0, .iconst 0] (by decide +kernel) (ls' := #[sR a, sI vl, sR b, sI (Int32.ofNat U), sI 3, sI 1, sU, sU, sU]) (st' := [(.int 0), (.ref a)]) rfl rfl (pc' := 131) rfl ?_
      refine oGet W117 A (v := (.int c0)) (by decide) rfl (Or.inl ⟨rfl, rfl⟩) (by decide +kernel) ?_
      obtain ⟨v125, T125, L125, h125, vm125, W125, ⟨r125, rfl, e125, Q125⟩, C125, st125⟩ := oCallS W117 (idx := 28) (pc := 132) (ls := #[sR a, sI vl, sR b, sI (Int32.ofNat U), sI 3, sI 1, sU, sU, sU]) (st := []) (argsL := [(.int c0)]) (c_ws K) (fun x hx => nomatch hx) (wK K 121 rfl) (wK K 122 rfl) (wK K 3 rfl) (wK K 123 rfl) (by decide) (na := 1) rfl (by decide +kernel) rfl (stk := [(.int c0)]) rfl (by decide +kernel) (V := 0) (lb rfl) (lb rfl) (lb rfl) (lb rfl) (lb rfl)
      refine oLift st125 ?_
      rw [e125] at W125 C125
      show OG _ _ _ _ _ _ _ _ _ _ _ (mkF m 135 #[sR a, sI vl, sR b, sI (Int32.ofNat U), sI 3, sI 1, sU, sU, sU] [(.int r125)])
      rcases Q125 with ⟨rfl, hw125⟩ | ⟨rfl, hw125⟩
      · refine oIfT W125 (cd := .ne) (o := 6) (by decide +kernel) (XT.i0_ne_t (by decide)) (pc' := 141) (by decide) (by decide) ?_
        refine oGo W125 [.iconst (-1), .istore 6] (by decide +kernel) (ls' := #[sR a, sI vl, sR b, sI (Int32.ofNat U), sI 3, sI 1, sI (-1), sU, sU]) (st' := []) rfl rfl (pc' := 144) rfl ?_
        refine oGo W125 [.iload 4] (by decide +kernel) (ls' := #[sR a, sI vl, sR b, sI (Int32.ofNat U), sI 3, sI 1, sI (-1), sU, sU]) (st' := [(.int 3)]) rfl rfl (pc' := 146) rfl ?_
        refine oIfF W125 (cd := .le) (o := 15) (by decide +kernel) (XT.i0_le_f (by decide)) (pc' := 149) rfl ?_
        refine oGo W125 [.aload_n 0, .iconst 0] (by decide +kernel) (ls' := #[sR a, sI vl, sR b, sI (Int32.ofNat U), sI 3, sI 1, sI (-1), sU, sU]) (st' := [(.int 0), (.ref a)]) rfl rfl (pc' := 151) rfl ?_
        refine oGet W125 A (v := (.int c0)) (by decide) rfl (Or.inl ⟨rfl, rfl⟩) (by decide +kernel) ?_
        obtain ⟨v126, T126, L126, h126, vm126, W126, ⟨r126, rfl, e126, Q126⟩, C126, st126⟩ := oCallS W125 (idx := 28) (pc := 152) (ls := #[sR a, sI vl, sR b, sI (Int32.ofNat U), sI 3, sI 1, sI (-1), sU, sU]) (st := []) (argsL := [(.int c0)]) (c_ws K) (fun x hx => nomatch hx) (wK K 121 rfl) (wK K 122 rfl) (wK K 3 rfl) (wK K 123 rfl) (by decide) (na := 1) rfl (by decide +kernel) rfl (stk := [(.int c0)]) rfl (by decide +kernel) (V := 0) (lb rfl) (lb rfl) (lb rfl) (lb rfl) (lb rfl)
        refine oLift st126 ?_
        rw [e126] at W126 C126
        show OG _ _ _ _ _ _ _ _ _ _ _ (mkF m 155 #[sR a, sI vl, sR b, sI (Int32.ofNat U), sI 3, sI 1, sI (-1), sU, sU] [(.int r126)])
        rcases Q126 with ⟨rfl, hq126⟩ | ⟨rfl, hq126⟩
        rotate_left
        · exact absurd hw125 hq126
        refine oIfT W126 (cd := .ne) (o := 6) (by decide +kernel) (XT.i0_ne_t (by decide)) (pc' := 161) (by decide) (by decide) ?_
        refine oGo W126 [.iload 4, .iconst 1] (by decide +kernel) (ls' := #[sR a, sI vl, sR b, sI (Int32.ofNat U), sI 3, sI 1, sI (-1), sU, sU]) (st' := [(.int 1), (.int 3)]) rfl rfl (pc' := 164) rfl ?_
        refine oIcF W126 (cd := .le) (o := 15) (by decide +kernel) (XT.ii_le_f (by decide)) (pc' := 167) rfl ?_
        refine oGo W126 [.aload_n 0, .iconst 1] (by decide +kernel) (ls' := #[sR a, sI vl, sR b, sI (Int32.ofNat U), sI 3, sI 1, sI (-1), sU, sU]) (st' := [(.int 1), (.ref a)]) rfl rfl (pc' := 169) rfl ?_
        refine oGet W126 A (v := (.int c1)) (by decide) rfl (Or.inl ⟨rfl, rfl⟩) (by decide +kernel) ?_
        obtain ⟨v127, T127, L127, h127, vm127, W127, ⟨r127, rfl, e127, Q127⟩, C127, st127⟩ := oCallS W126 (idx := 28) (pc := 170) (ls := #[sR a, sI vl, sR b, sI (Int32.ofNat U), sI 3, sI 1, sI (-1), sU, sU]) (st := []) (argsL := [(.int c1)]) (c_ws K) (fun x hx => nomatch hx) (wK K 121 rfl) (wK K 122 rfl) (wK K 3 rfl) (wK K 123 rfl) (by decide) (na := 1) rfl (by decide +kernel) rfl (stk := [(.int c1)]) rfl (by decide +kernel) (V := 0) (lb rfl) (lb rfl) (lb rfl) (lb rfl) (lb rfl)
        refine oLift st127 ?_
        rw [e127] at W127 C127
        show OG _ _ _ _ _ _ _ _ _ _ _ (mkF m 173 #[sR a, sI vl, sR b, sI (Int32.ofNat U), sI 3, sI 1, sI (-1), sU, sU] [(.int r127)])
        rcases Q127 with ⟨rfl, hq127⟩ | ⟨rfl, hq127⟩
        · exact absurd hq127 hw117
        refine oIfF W127 (cd := .ne) (o := 6) (by decide +kernel) (XT.i0_ne_f (by decide)) (pc' := 176) rfl ?_
        refine oGo W127 [.iconst 1, .istore 6] (by decide +kernel) (ls' := #[sR a, sI vl, sR b, sI (Int32.ofNat U), sI 3, sI 1, sI 1, sU, sU]) (st' := []) rfl rfl (pc' := 179) rfl ?_
        refine oGo W127 [.iload 4, .iconst 2] (by decide +kernel) (ls' := #[sR a, sI vl, sR b, sI (Int32.ofNat U), sI 3, sI 1, sI 1, sU, sU]) (st' := [(.int 2), (.int 3)]) rfl rfl (pc' := 182) rfl ?_
        refine oIcF W127 (cd := .le) (o := 15) (by decide +kernel) (XT.ii_le_f (by decide)) (pc' := 185) rfl ?_
        refine oGo W127 [.aload_n 0, .iconst 2] (by decide +kernel) (ls' := #[sR a, sI vl, sR b, sI (Int32.ofNat U), sI 3, sI 1, sI 1, sU, sU]) (st' := [(.int 2), (.ref a)]) rfl rfl (pc' := 187) rfl ?_
        refine oGet W127 A (v := (.int c2)) (by decide) rfl (Or.inl ⟨rfl, rfl⟩) (by decide +kernel) ?_
        obtain ⟨v128, T128, L128, h128, vm128, W128, ⟨r128, rfl, e128, Q128⟩, C128, st128⟩ := oCallS W127 (idx := 28) (pc := 188) (ls := #[sR a, sI vl, sR b, sI (Int32.ofNat U), sI 3, sI 1, sI 1, sU, sU]) (st := []) (argsL := [(.int c2)]) (c_ws K) (fun x hx => nomatch hx) (wK K 121 rfl) (wK K 122 rfl) (wK K 3 rfl) (wK K 123 rfl) (by decide) (na := 1) rfl (by decide +kernel) rfl (stk := [(.int c2)]) rfl (by decide +kernel) (V := 0) (lb rfl) (lb rfl) (lb rfl) (lb rfl) (lb rfl)
        refine oLift st128 ?_
        rw [e128] at W128 C128
        show OG _ _ _ _ _ _ _ _ _ _ _ (mkF m 191 #[sR a, sI vl, sR b, sI (Int32.ofNat U), sI 3, sI 1, sI 1, sU, sU] [(.int r128)])
        rcases Q128 with ⟨rfl, hq128⟩ | ⟨rfl, hq128⟩
        · exact absurd hq128 hw101
        refine oIfF W128 (cd := .ne) (o := 6) (by decide +kernel) (XT.i0_ne_f (by decide)) (pc' := 194) rfl ?_
        refine oGo W128 [.iconst 2, .istore 6] (by decide +kernel) (ls' := #[sR a, sI vl, sR b, sI (Int32.ofNat U), sI 3, sI 1, sI 2, sU, sU]) (st' := []) rfl rfl (pc' := 197) rfl ?_
        refine oGo W128 [.iload 4, .iconst 3] (by decide +kernel) (ls' := #[sR a, sI vl, sR b, sI (Int32.ofNat U), sI 3, sI 1, sI 2, sU, sU]) (st' := [(.int 3), (.int 3)]) rfl rfl (pc' := 200) rfl ?_
        refine oIcT W128 (cd := .le) (o := 15) (by decide +kernel) (XT.ii_le_t (by decide)) (pc' := 215) (by decide) (by decide) ?_
        exact c_exp_c1_3 K hV hU W128 A B (by rw [he]; simp [strp, lw, rst, hw125, hw117, hw101])
      · refine oIfF W125 (cd := .ne) (o := 6) (by decide +kernel) (XT.i0_ne_f (by decide)) (pc' := 138) rfl ?_
        refine oGo W125 [.iconst 0, .istore 5] (by decide +kernel) (ls' := #[sR a, sI vl, sR b, sI (Int32.ofNat U), sI 3, sI 0, sU, sU, sU]) (st' := []) rfl rfl (pc' := 141) rfl ?_
        refine oGo W125 [.iconst (-1), .istore 6] (by decide +kernel) (ls' := #[sR a, sI vl, sR b, sI (Int32.ofNat U), sI 3, sI 0, sI (-1), sU, sU]) (st' := []) rfl rfl (pc' := 144) rfl ?_
        refine oGo W125 [.iload 4] (by decide +kernel) (ls' := #[sR a, sI vl, sR b, sI (Int32.ofNat U), sI 3, sI 0, sI (-1), sU, sU]) (st' := [(.int 3)]) rfl rfl (pc' := 146) rfl ?_
        refine oIfF W125 (cd := .le) (o := 15) (by decide +kernel) (XT.i0_le_f (by decide)) (pc' := 149) rfl ?_
        refine oGo W125 [.aload_n 0, .iconst 0] (by decide +kernel) (ls' := #[sR a, sI vl, sR b, sI (Int32.ofNat U), sI 3, sI 0, sI (-1), sU, sU]) (st' := [(.int 0), (.ref a)]) rfl rfl (pc' := 151) rfl ?_
        refine oGet W125 A (v := (.int c0)) (by decide) rfl (Or.inl ⟨rfl, rfl⟩) (by decide +kernel) ?_
        obtain ⟨v129, T129, L129, h129, vm129, W129, ⟨r129, rfl, e129, Q129⟩, C129, st129⟩ := oCallS W125 (idx := 28) (pc := 152) (ls := #[sR a, sI vl, sR b, sI (Int32.ofNat U), sI 3, sI 0, sI (-1), sU, sU]) (st := []) (argsL := [(.int c0)]) (c_ws K) (fun x hx => nomatch hx) (wK K 121 rfl) (wK K 122 rfl) (wK K 3 rfl) (wK K 123 rfl) (by decide) (na := 1) rfl (by decide +kernel) rfl (stk := [(.int c0)]) rfl (by decide +kernel) (V := 0) (lb rfl) (lb rfl) (lb rfl) (lb rfl) (lb rfl)
        refine oLift st129 ?_
        rw [e129] at W129 C129
        show OG _ _ _ _ _ _ _ _ _ _ _ (mkF m 155 #[sR a, sI vl, sR b, sI (Int32.ofNat U), sI 3, sI 0, sI (-1), sU, sU] [(.int r129)])
        rcases Q129 with ⟨rfl, hq129⟩ | ⟨rfl, hq129⟩
        · exact absurd hq129 hw125
        refine oIfF W129 (cd := .ne) (o := 6) (by decide +kernel) (XT.i0_ne_f (by decide)) (pc' := 158) rfl ?_
        refine oGo W129 [.iconst 0, .istore 6] (by decide +kernel) (ls' := #[sR a, sI vl, sR b, sI (Int32.ofNat U), sI 3, sI 0, sI 0, sU, sU]) (st' := []) rfl rfl (pc' := 161) rfl ?_
        refine oGo W129 [.iload 4, .iconst 1] (by decide +kernel) (ls' := #[sR a, sI vl, sR b, sI (Int32.ofNat U), sI 3, sI 0, sI 0, sU, sU]) (st' := [(.int 1), (.int 3)]) rfl rfl (pc' := 164) rfl ?_
        refine oIcF W129 (cd := .le) (o := 15) (by decide +kernel) (XT.ii_le_f (by decide)) (pc' := 167) rfl ?_
        refine oGo W129 [.aload_n 0, .iconst 1] (by decide +kernel) (ls' := #[sR a, sI vl, sR b, sI (Int32.ofNat U), sI 3, sI 0, sI 0, sU, sU]) (st' := [(.int 1), (.ref a)]) rfl rfl (pc' := 169) rfl ?_
        refine oGet W129 A (v := (.int c1)) (by decide) rfl (Or.inl ⟨rfl, rfl⟩) (by decide +kernel) ?_
        obtain ⟨v130, T130, L130, h130, vm130, W130, ⟨r130, rfl, e130, Q130⟩, C130, st130⟩ := oCallS W129 (idx := 28) (pc := 170) (ls := #[sR a, sI vl, sR b, sI (Int32.ofNat U), sI 3, sI 0, sI 0, sU, sU]) (st := []) (argsL := [(.int c1)]) (c_ws K) (fun x hx => nomatch hx) (wK K 121 rfl) (wK K 122 rfl) (wK K 3 rfl) (wK K 123 rfl) (by decide) (na := 1) rfl (by decide +kernel) rfl (stk := [(.int c1)]) rfl (by decide +kernel) (V := 0) (lb rfl) (lb rfl) (lb rfl) (lb rfl) (lb rfl)
        refine oLift st130 ?_
        rw [e130] at W130 C130
        show OG _ _ _ _ _ _ _ _ _ _ _ (mkF m 173 #[sR a, sI vl, sR b, sI (Int32.ofNat U), sI 3, sI 0, sI 0, sU, sU] [(.int r130)])
        rcases Q130 with ⟨rfl, hq130⟩ | ⟨rfl, hq130⟩
        · exact absurd hq130 hw117
        refine oIfF W130 (cd := .ne) (o := 6) (by decide +kernel) (XT.i0_ne_f (by decide)) (pc' := 176) rfl ?_
        refine oGo W130 [.iconst 1, .istore 6] (by decide +kernel) (ls' := #[sR a, sI vl, sR b, sI (Int32.ofNat U), sI 3, sI 0, sI 1, sU, sU]) (st' := []) rfl rfl (pc' := 179) rfl ?_
        refine oGo W130 [.iload 4, .iconst 2] (by decide +kernel) (ls' := #[sR a, sI vl, sR b, sI (Int32.ofNat U), sI 3, sI 0, sI 1, sU, sU]) (st' := [(.int 2), (.int 3)]) rfl rfl (pc' := 182) rfl ?_
        refine oIcF W130 (cd := .le) (o := 15) (by decide +kernel) (XT.ii_le_f (by decide)) (pc' := 185) rfl ?_
        refine oGo W130 [.aload_n 0, .iconst 2] (by decide +kernel) (ls' := #[sR a, sI vl, sR b, sI (Int32.ofNat U), sI 3, sI 0, sI 1, sU, sU]) (st' := [(.int 2), (.ref a)]) rfl rfl (pc' := 187) rfl ?_
        refine oGet W130 A (v := (.int c2)) (by decide) rfl (Or.inl ⟨rfl, rfl⟩) (by decide +kernel) ?_
        obtain ⟨v131, T131, L131, h131, vm131, W131, ⟨r131, rfl, e131, Q131⟩, C131, st131⟩ := oCallS W130 (idx := 28) (pc := 188) (ls := #[sR a, sI vl, sR b, sI (Int32.ofNat U), sI 3, sI 0, sI 1, sU, sU]) (st := []) (argsL := [(.int c2)]) (c_ws K) (fun x hx => nomatch hx) (wK K 121 rfl) (wK K 122 rfl) (wK K 3 rfl) (wK K 123 rfl) (by decide) (na := 1) rfl (by decide +kernel) rfl (stk := [(.int c2)]) rfl (by decide +kernel) (V := 0) (lb rfl) (lb rfl) (lb rfl) (lb rfl) (lb rfl)
        refine oLift st131 ?_
        rw [e131] at W131 C131
        show OG _ _ _ _ _ _ _ _ _ _ _ (mkF m 191 #[sR a, sI vl, sR b, sI (Int32.ofNat U), sI 3, sI 0, sI 1, sU, sU] [(.int r131)])
        rcases Q131 with ⟨rfl, hq131⟩ | ⟨rfl, hq131⟩
        · exact absurd hq131 hw101
        refine oIfF W131 (cd := .ne) (o := 6) (by decide +kernel) (XT.i0_ne_f (by decide)) (pc' := 194) rfl ?_
        refine oGo W131 [.iconst 2, .istore 6] (by decide +kernel) (ls' := #[sR a, sI vl, sR b, sI (Int32.ofNat U), sI 3, sI 0, sI 2, sU, sU]) (st' := []) rfl rfl (pc' := 197) rfl ?_
        refine oGo W131 [.iload 4, .iconst 3] (by decide +kernel) (ls' := #[sR a, sI vl, sR b, sI (Int32.ofNat U), sI 3, sI 0, sI 2, sU, sU]) (st' := [(.int 3), (.int 3)]) rfl rfl (pc' := 200) rfl ?_
        refine oIcT W131 (cd := .le) (o := 15) (by decide +kernel) (XT.ii_le_t (by decide)) (pc' := 215) (by decide) (by decide) ?_
        exact c_exp_c0_3 K hV hU W131 A B (by rw [he]; simp [strp, lw, rst, hw125, hw117, hw101])

set_option maxRecDepth 65536 in
set_option maxHeartbeats 40000000 in
theorem c_exp_b4 {l : Launch} {Z : State} {a0 : Array Value} (K : Ctx Z a0) {nb : Bool} {a b : Addr} {ka kb : ClassId} {c0 c1 c2 c3 d0 d1 d2 d3 : Int32} {V U : Nat} (hV : V ≤ 4) (hU : U ≤ 4) {vl : Int32} {p : Program} {e : Env} {s : State} {m : MethodId} {args : Array Value} {below : List Frame} {meth : Method} {cc : Code} {h0 : Heap} {vm0 : Vm} {T0 : State} {lc : List Loc}
    (W0 : OW p l e rm_c_exp s m args below meth cc Z a0 EL nb "com/example/gentle_hub/gentlehub/server/MediaTypesNamesPinLaw" method_6_code 9 (some .boolean) "expected" vm0 T0 lc 0 0 h0) (A : OA Z h0 a ka .char [.int c0, .int c1, .int c2, .int c3]) (B : OA Z h0 b kb .char [.int d0, .int d1, .int d2, .int d3]) (he : ess (([c0, c1, c2, c3] : List Int32).take V) = [c0, c1, c2, c3]) :
    OG p e below s Z EL nb (fun v _ h => ∃ r, v = some (.int r) ∧ h = h0 ∧ ((r = 1 ∧ Nm (([c0, c1, c2, c3] : List Int32).take V) (([d0, d1, d2, d3] : List Int32).take U)) ∨ (r = 0 ∧ ¬ (Nm (([c0, c1, c2, c3] : List Int32).take V) (([d0, d1, d2, d3] : List Int32).take U))))) rm_c_exp.cells rm_c_exp.slots T0 (mkF m 66 #[sR a, sI vl, sR b, sI (Int32.ofNat U), sI 4, sU, sU, sU, sU] []) := by
  have hw := K.1
  have hS : ∀ a ∈ Bundle.stringAtoms, a.before a0 Z = true := K.2.2.1
  refine oGo W0 [.iload 4, .istore 5] (by decide +kernel) (ls' := #[sR a, sI vl, sR b, sI (Int32.ofNat U), sI 4, sI 4, sU, sU, sU]) (st' := []) rfl rfl (pc' := 70) rfl ?_
  refine oGo W0 [.iload 4, .iconst 3] (by decide +kernel) (ls' := #[sR a, sI vl, sR b, sI (Int32.ofNat U), sI 4, sI 4, sU, sU, sU]) (st' := [(.int 3), (.int 4)]) rfl rfl (pc' := 73) rfl ?_
  refine oIcF W0 (cd := .le) (o := 15) (by decide +kernel) (XT.ii_le_f (by decide)) (pc' := 76) rfl ?_
  refine oGo W0 [.aload_n 0, .iconst 3] (by decide +kernel) (ls' := #[sR a, sI vl, sR b, sI (Int32.ofNat U), sI 4, sI 4, sU, sU, sU]) (st' := [(.int 3), (.ref a)]) rfl rfl (pc' := 78) rfl ?_
  refine oGet W0 A (v := (.int c3)) (by decide) rfl (Or.inl ⟨rfl, rfl⟩) (by decide +kernel) ?_
  obtain ⟨v101, T101, L101, h101, vm101, W101, ⟨r101, rfl, e101, Q101⟩, C101, st101⟩ := oCallS W0 (idx := 28) (pc := 79) (ls := #[sR a, sI vl, sR b, sI (Int32.ofNat U), sI 4, sI 4, sU, sU, sU]) (st := []) (argsL := [(.int c3)]) (c_ws K) (fun x hx => nomatch hx) (wK K 121 rfl) (wK K 122 rfl) (wK K 3 rfl) (wK K 123 rfl) (by decide) (na := 1) rfl (by decide +kernel) rfl (stk := [(.int c3)]) rfl (by decide +kernel) (V := 0) (lb rfl) (lb rfl) (lb rfl) (lb rfl) (lb rfl)
  refine oLift st101 ?_
  rw [e101] at W101 C101
  show OG _ _ _ _ _ _ _ _ _ _ _ (mkF m 82 #[sR a, sI vl, sR b, sI (Int32.ofNat U), sI 4, sI 4, sU, sU, sU] [(.int r101)])
  rcases Q101 with ⟨rfl, hw101⟩ | ⟨rfl, hw101⟩
  · refine oIfT W101 (cd := .ne) (o := 6) (by decide +kernel) (XT.i0_ne_t (by decide)) (pc' := 88) (by decide) (by decide) ?_
    refine oGo W101 [.iload 4, .iconst 2] (by decide +kernel) (ls' := #[sR a, sI vl, sR b, sI (Int32.ofNat U), sI 4, sI 4, sU, sU, sU]) (st' := [(.int 2), (.int 4)]) rfl rfl (pc' := 91) rfl ?_
    refine oIcF W101 (cd := .le) (o := 15) (by decide +kernel) (XT.ii_le_f (by decide)) (pc' := 94) rfl ?_
    refine oGo W101 [.aload_n 0, .iconst 2] (by decide +kernel) (ls' := #[sR a, sI vl, sR b, sI (Int32.ofNat U), sI 4, sI 4, sU, sU, sU]) (st' := [(.int 2), (.ref a)]) rfl rfl (pc' := 96) rfl ?_
    refine oGet W101 A (v := (.int c2)) (by decide) rfl (Or.inl ⟨rfl, rfl⟩) (by decide +kernel) ?_
    obtain ⟨v102, T102, L102, h102, vm102, W102, ⟨r102, rfl, e102, Q102⟩, C102, st102⟩ := oCallS W101 (idx := 28) (pc := 97) (ls := #[sR a, sI vl, sR b, sI (Int32.ofNat U), sI 4, sI 4, sU, sU, sU]) (st := []) (argsL := [(.int c2)]) (c_ws K) (fun x hx => nomatch hx) (wK K 121 rfl) (wK K 122 rfl) (wK K 3 rfl) (wK K 123 rfl) (by decide) (na := 1) rfl (by decide +kernel) rfl (stk := [(.int c2)]) rfl (by decide +kernel) (V := 0) (lb rfl) (lb rfl) (lb rfl) (lb rfl) (lb rfl)
    refine oLift st102 ?_
    rw [e102] at W102 C102
    show OG _ _ _ _ _ _ _ _ _ _ _ (mkF m 100 #[sR a, sI vl, sR b, sI (Int32.ofNat U), sI 4, sI 4, sU, sU, sU] [(.int r102)])
    rcases Q102 with ⟨rfl, hw102⟩ | ⟨rfl, hw102⟩
    · refine oIfT W102 (cd := .ne) (o := 6) (by decide +kernel) (XT.i0_ne_t (by decide)) (pc' := 106) (by decide) (by decide) ?_
      refine oGo W102 [.iload 4, .iconst 1] (by decide +kernel) (ls' := #[sR a, sI vl, sR b, sI (Int32.ofNat U), sI 4, sI 4, sU, sU, sU]) (st' := [(.int 1), (.int 4)]) rfl rfl (pc' := 109) rfl ?_
      refine oIcF W102 (cd := .le) (o := 15) (by decide +kernel) (XT.ii_le_f (by decide)) (pc' := 112) rfl ?_
      refine oGo W102 [.aload_n 0, .iconst 1] (by decide +kernel) (ls' := #[sR a, sI vl, sR b, sI (Int32.ofNat U), sI 4, sI 4, sU, sU, sU]) (st' := [(.int 1), (.ref a)]) rfl rfl (pc' := 114) rfl ?_
      refine oGet W102 A (v := (.int c1)) (by decide) rfl (Or.inl ⟨rfl, rfl⟩) (by decide +kernel) ?_
      obtain ⟨v103, T103, L103, h103, vm103, W103, ⟨r103, rfl, e103, Q103⟩, C103, st103⟩ := oCallS W102 (idx := 28) (pc := 115) (ls := #[sR a, sI vl, sR b, sI (Int32.ofNat U), sI 4, sI 4, sU, sU, sU]) (st := []) (argsL := [(.int c1)]) (c_ws K) (fun x hx => nomatch hx) (wK K 121 rfl) (wK K 122 rfl) (wK K 3 rfl) (wK K 123 rfl) (by decide) (na := 1) rfl (by decide +kernel) rfl (stk := [(.int c1)]) rfl (by decide +kernel) (V := 0) (lb rfl) (lb rfl) (lb rfl) (lb rfl) (lb rfl)
      refine oLift st103 ?_
      rw [e103] at W103 C103
      show OG _ _ _ _ _ _ _ _ _ _ _ (mkF m 118 #[sR a, sI vl, sR b, sI (Int32.ofNat U), sI 4, sI 4, sU, sU, sU] [(.int r103)])
      rcases Q103 with ⟨rfl, hw103⟩ | ⟨rfl, hw103⟩
      · refine oIfT W103 (cd := .ne) (o := 6) (by decide +kernel) (XT.i0_ne_t (by decide)) (pc' := 124) (by decide) (by decide) ?_
        refine oGo W103 [.iload 4] (by decide +kernel) (ls' := #[sR a, sI vl, sR b, sI (Int32.ofNat U), sI 4, sI 4, sU, sU, sU]) (st' := [(.int 4)]) rfl rfl (pc' := 126) rfl ?_
        refine oIfF W103 (cd := .le) (o := 15) (by decide +kernel) (XT.i0_le_f (by decide)) (pc' := 129) rfl ?_
        refine oGo W103 [.aload_n 0, .iconst 0] (by decide +kernel) (ls' := #[sR a, sI vl, sR b, sI (Int32.ofNat U), sI 4, sI 4, sU, sU, sU]) (st' := [(.int 0), (.ref a)]) rfl rfl (pc' := 131) rfl ?_
        refine oGet W103 A (v := (.int c0)) (by decide) rfl (Or.inl ⟨rfl, rfl⟩) (by decide +kernel) ?_
        obtain ⟨v104, T104, L104, h104, vm104, W104, ⟨r104, rfl, e104, Q104⟩, C104, st104⟩ := oCallS W103 (idx := 28) (pc := 132) (ls := #[sR a, sI vl, sR b, sI (Int32.ofNat U), sI 4, sI 4, sU, sU, sU]) (st := []) (argsL := [(.int c0)]) (c_ws K) (fun x hx => nomatch hx) (wK K 121 rfl) (wK K 122 rfl) (wK K 3 rfl) (wK K 123 rfl) (by decide) (na := 1) rfl (by decide +kernel) rfl (stk := [(.int c0)]) rfl (by decide +kernel) (V := 0) (lb rfl) (lb rfl) (lb rfl) (lb rfl) (lb rfl)
        refine oLift st104 ?_
        rw [e104] at W104 C104
        show OG _ _ _ _ _ _ _ _ _ _ _ (mkF m 135 #[sR a, sI vl, sR b, sI (Int32.ofNat U), sI 4, sI 4, sU, sU, sU] [(.int r104)])
        rcases Q104 with ⟨rfl, hw104⟩ | ⟨rfl, hw104⟩
        · refine oIfT W104 (cd := .ne) (o := 6) (by decide +kernel) (XT.i0_ne_t (by decide)) (pc' := 141) (by decide) (by decide) ?_
          refine oGo W104 [.iconst (-1), .istore 6] (by decide +kernel) (ls' := #[sR a, sI vl, sR b, sI (Int32.ofNat U), sI 4, sI 4, sI (-1), sU, sU]) (st' := []) rfl rfl (pc' := 144) rfl ?_
          refine oGo W104 [.iload 4] (by decide +kernel) (ls' := #[sR a, sI vl, sR b, sI (Int32.ofNat U), sI 4, sI 4, sI (-1), sU, sU]) (st' := [(.int 4)]) rfl rfl (pc' := 146) rfl ?_
          refine oIfF W104 (cd := .le) (o := 15) (by decide +kernel) (XT.i0_le_f (by decide)) (pc' := 149) rfl ?_
          refine oGo W104 [.aload_n 0, .iconst 0] (by decide +kernel) (ls' := #[sR a, sI vl, sR b, sI (Int32.ofNat U), sI 4, sI 4, sI (-1), sU, sU]) (st' := [(.int 0), (.ref a)]) rfl rfl (pc' := 151) rfl ?_
          refine oGet W104 A (v := (.int c0)) (by decide) rfl (Or.inl ⟨rfl, rfl⟩) (by decide +kernel) ?_
          obtain ⟨v105, T105, L105, h105, vm105, W105, ⟨r105, rfl, e105, Q105⟩, C105, st105⟩ := oCallS W104 (idx := 28) (pc := 152) (ls := #[sR a, sI vl, sR b, sI (Int32.ofNat U), sI 4, sI 4, sI (-1), sU, sU]) (st := []) (argsL := [(.int c0)]) (c_ws K) (fun x hx => nomatch hx) (wK K 121 rfl) (wK K 122 rfl) (wK K 3 rfl) (wK K 123 rfl) (by decide) (na := 1) rfl (by decide +kernel) rfl (stk := [(.int c0)]) rfl (by decide +kernel) (V := 0) (lb rfl) (lb rfl) (lb rfl) (lb rfl) (lb rfl)
          refine oLift st105 ?_
          rw [e105] at W105 C105
          show OG _ _ _ _ _ _ _ _ _ _ _ (mkF m 155 #[sR a, sI vl, sR b, sI (Int32.ofNat U), sI 4, sI 4, sI (-1), sU, sU] [(.int r105)])
          rcases Q105 with ⟨rfl, hq105⟩ | ⟨rfl, hq105⟩
          rotate_left
          · exact absurd hw104 hq105
          refine oIfT W105 (cd := .ne) (o := 6) (by decide +kernel) (XT.i0_ne_t (by decide)) (pc' := 161) (by decide) (by decide) ?_
          refine oGo W105 [.iload 4, .iconst 1] (by decide +kernel) (ls' := #[sR a, sI vl, sR b, sI (Int32.ofNat U), sI 4, sI 4, sI (-1), sU, sU]) (st' := [(.int 1), (.int 4)]) rfl rfl (pc' := 164) rfl ?_
          refine oIcF W105 (cd := .le) (o := 15) (by decide +kernel) (XT.ii_le_f (by decide)) (pc' := 167) rfl ?_
          refine oGo W105 [.aload_n 0, .iconst 1] (by decide +kernel) (ls' := #[sR a, sI vl, sR b, sI (Int32.ofNat U), sI 4, sI 4, sI (-1), sU, sU]) (st' := [(.int 1), (.ref a)]) rfl rfl (pc' := 169) rfl ?_
          refine oGet W105 A (v := (.int c1)) (by decide) rfl (Or.inl ⟨rfl, rfl⟩) (by decide +kernel) ?_
          obtain ⟨v106, T106, L106, h106, vm106, W106, ⟨r106, rfl, e106, Q106⟩, C106, st106⟩ := oCallS W105 (idx := 28) (pc := 170) (ls := #[sR a, sI vl, sR b, sI (Int32.ofNat U), sI 4, sI 4, sI (-1), sU, sU]) (st := []) (argsL := [(.int c1)]) (c_ws K) (fun x hx => nomatch hx) (wK K 121 rfl) (wK K 122 rfl) (wK K 3 rfl) (wK K 123 rfl) (by decide) (na := 1) rfl (by decide +kernel) rfl (stk := [(.int c1)]) rfl (by decide +kernel) (V := 0) (lb rfl) (lb rfl) (lb rfl) (lb rfl) (lb rfl)
          refine oLift st106 ?_
          rw [e106] at W106 C106
          show OG _ _ _ _ _ _ _ _ _ _ _ (mkF m 173 #[sR a, sI vl, sR b, sI (Int32.ofNat U), sI 4, sI 4, sI (-1), sU, sU] [(.int r106)])
          rcases Q106 with ⟨rfl, hq106⟩ | ⟨rfl, hq106⟩
          rotate_left
          · exact absurd hw103 hq106
          refine oIfT W106 (cd := .ne) (o := 6) (by decide +kernel) (XT.i0_ne_t (by decide)) (pc' := 179) (by decide) (by decide) ?_
          refine oGo W106 [.iload 4, .iconst 2] (by decide +kernel) (ls' := #[sR a, sI vl, sR b, sI (Int32.ofNat U), sI 4, sI 4, sI (-1), sU, sU]) (st' := [(.int 2), (.int 4)]) rfl rfl (pc' := 182) rfl ?_
          refine oIcF W106 (cd := .le) (o := 15) (by decide +kernel) (XT.ii_le_f (by decide)) (pc' := 185) rfl ?_
          refine oGo W106 [.aload_n 0, .iconst 2] (by decide +kernel) (ls' := #[sR a, sI vl, sR b, sI (Int32.ofNat U), sI 4, sI 4, sI (-1), sU, sU]) (st' := [(.int 2), (.ref a)]) rfl rfl (pc' := 187) rfl ?_
          refine oGet W106 A (v := (.int c2)) (by decide) rfl (Or.inl ⟨rfl, rfl⟩) (by decide +kernel) ?_
          obtain ⟨v107, T107, L107, h107, vm107, W107, ⟨r107, rfl, e107, Q107⟩, C107, st107⟩ := oCallS W106 (idx := 28) (pc := 188) (ls := #[sR a, sI vl, sR b, sI (Int32.ofNat U), sI 4, sI 4, sI (-1), sU, sU]) (st := []) (argsL := [(.int c2)]) (c_ws K) (fun x hx => nomatch hx) (wK K 121 rfl) (wK K 122 rfl) (wK K 3 rfl) (wK K 123 rfl) (by decide) (na := 1) rfl (by decide +kernel) rfl (stk := [(.int c2)]) rfl (by decide +kernel) (V := 0) (lb rfl) (lb rfl) (lb rfl) (lb rfl) (lb rfl)
          refine oLift st107 ?_
          rw [e107] at W107 C107
          show OG _ _ _ _ _ _ _ _ _ _ _ (mkF m 191 #[sR a, sI vl, sR b, sI (Int32.ofNat U), sI 4, sI 4, sI (-1), sU, sU] [(.int r107)])
          rcases Q107 with ⟨rfl, hq107⟩ | ⟨rfl, hq107⟩
          rotate_left
          · exact absurd hw102 hq107
          refine oIfT W107 (cd := .ne) (o := 6) (by decide +kernel) (XT.i0_ne_t (by decide)) (pc' := 197) (by decide) (by decide) ?_
          refine oGo W107 [.iload 4, .iconst 3] (by decide +kernel) (ls' := #[sR a, sI vl, sR b, sI (Int32.ofNat U), sI 4, sI 4, sI (-1), sU, sU]) (st' := [(.int 3), (.int 4)]) rfl rfl (pc' := 200) rfl ?_
          refine oIcF W107 (cd := .le) (o := 15) (by decide +kernel) (XT.ii_le_f (by decide)) (pc' := 203) rfl ?_
          refine oGo W107 [.aload_n 0, .iconst 3] (by decide +kernel) (ls' := #[sR a, sI vl, sR b, sI (Int32.ofNat U), sI 4, sI 4, sI (-1), sU, sU]) (st' := [(.int 3), (.ref a)]) rfl rfl (pc' := 205) rfl ?_
          refine oGet W107 A (v := (.int c3)) (by decide) rfl (Or.inl ⟨rfl, rfl⟩) (by decide +kernel) ?_
          obtain ⟨v108, T108, L108, h108, vm108, W108, ⟨r108, rfl, e108, Q108⟩, C108, st108⟩ := oCallS W107 (idx := 28) (pc := 206) (ls := #[sR a, sI vl, sR b, sI (Int32.ofNat U), sI 4, sI 4, sI (-1), sU, sU]) (st := []) (argsL := [(.int c3)]) (c_ws K) (fun x hx => nomatch hx) (wK K 121 rfl) (wK K 122 rfl) (wK K 3 rfl) (wK K 123 rfl) (by decide) (na := 1) rfl (by decide +kernel) rfl (stk := [(.int c3)]) rfl (by decide +kernel) (V := 0) (lb rfl) (lb rfl) (lb rfl) (lb rfl) (lb rfl)
          refine oLift st108 ?_
          rw [e108] at W108 C108
          show OG _ _ _ _ _ _ _ _ _ _ _ (mkF m 209 #[sR a, sI vl, sR b, sI (Int32.ofNat U), sI 4, sI 4, sI (-1), sU, sU] [(.int r108)])
          rcases Q108 with ⟨rfl, hq108⟩ | ⟨rfl, hq108⟩
          rotate_left
          · exact absurd hw101 hq108
          refine oIfT W108 (cd := .ne) (o := 6) (by decide +kernel) (XT.i0_ne_t (by decide)) (pc' := 215) (by decide) (by decide) ?_
          exact c_exp_c4_0 K hV hU W108 A B (by rw [he]; simp [strp, lw, rst, hw104, hw103, hw102, hw101])
        · refine oIfF W104 (cd := .ne) (o := 6) (by decide +kernel) (XT.i0_ne_f (by decide)) (pc' := 138) rfl ?_
          refine oGo W104 [.iconst 0, .istore 5] (by decide +kernel) (ls' := #[sR a, sI vl, sR b, sI (Int32.ofNat U), sI 4, sI 0, sU, sU, sU]) (st' := []) rfl rfl (pc' := 141) rfl ?_
          refine oGo W104 [.iconst (-1), .istore 6] (by decide +kernel) (ls' := #[sR a, sI vl, sR b, sI (Int32.ofNat U), sI 4, sI 0, sI (-1), sU, sU]) (st' := []) rfl rfl (pc' := 144) rfl ?_
          refine oGo W104 [.iload 4] (by decide +kernel) (ls' := #[sR a, sI vl, sR b, sI (Int32.ofNat U), sI 4, sI 0, sI (-1), sU, sU]) (st' := [(.int 4)]) rfl rfl (pc' := 146) rfl ?_
          refine oIfF W104 (cd := .le) (o := 15) (by decide +kernel) (XT.i0_le_f (by decide)) (pc' := 149) rfl ?_
          refine oGo W104 [.aload_n 0, .iconst 0] (by decide +kernel) (ls' := #[sR a, sI vl, sR b, sI (Int32.ofNat U), sI 4, sI 0, sI (-1), sU, sU]) (st' := [(.int 0), (.ref a)]) rfl rfl (pc' := 151) rfl ?_
          refine oGet W104 A (v := (.int c0)) (by decide) rfl (Or.inl ⟨rfl, rfl⟩) (by decide +kernel) ?_
          obtain ⟨v109, T109, L109, h109, vm109, W109, ⟨r109, rfl, e109, Q109⟩, C109, st109⟩ := oCallS W104 (idx := 28) (pc := 152) (ls := #[sR a, sI vl, sR b, sI (Int32.ofNat U), sI 4, sI 0, sI (-1), sU, sU]) (st := []) (argsL := [(.int c0)]) (c_ws K) (fun x hx => nomatch hx) (wK K 121 rfl) (wK K 122 rfl) (wK K 3 rfl) (wK K 123 rfl) (by decide) (na := 1) rfl (by decide +kernel) rfl (stk := [(.int c0)]) rfl (by decide +kernel) (V := 0) (lb rfl) (lb rfl) (lb rfl) (lb rfl) (lb rfl)
          refine oLift st109 ?_
          rw [e109] at W109 C109
          show OG _ _ _ _ _ _ _ _ _ _ _ (mkF m 155 #[sR a, sI vl, sR b, sI (Int32.ofNat U), sI 4, sI 0, sI (-1), sU, sU] [(.int r109)])
          rcases Q109 with ⟨rfl, hq109⟩ | ⟨rfl, hq109⟩
          · exact absurd hq109 hw104
          refine oIfF W109 (cd := .ne) (o := 6) (by decide +kernel) (XT.i0_ne_f (by decide)) (pc' := 158) rfl ?_
          refine oGo W109 [.iconst 0, .istore 6] (by decide +kernel) (ls' := #[sR a, sI vl, sR b, sI (Int32.ofNat U), sI 4, sI 0, sI 0, sU, sU]) (st' := []) rfl rfl (pc' := 161) rfl ?_
          refine oGo W109 [.iload 4, .iconst 1] (by decide +kernel) (ls' := #[sR a, sI vl, sR b, sI (Int32.ofNat U), sI 4, sI 0, sI 0, sU, sU]) (st' := [(.int 1), (.int 4)]) rfl rfl (pc' := 164) rfl ?_
          refine oIcF W109 (cd := .le) (o := 15) (by decide +kernel) (XT.ii_le_f (by decide)) (pc' := 167) rfl ?_
          refine oGo W109 [.aload_n 0, .iconst 1] (by decide +kernel) (ls' := #[sR a, sI vl, sR b, sI (Int32.ofNat U), sI 4, sI 0, sI 0, sU, sU]) (st' := [(.int 1), (.ref a)]) rfl rfl (pc' := 169) rfl ?_
          refine oGet W109 A (v := (.int c1)) (by decide) rfl (Or.inl ⟨rfl, rfl⟩) (by decide +kernel) ?_
          obtain ⟨v110, T110, L110, h110, vm110, W110, ⟨r110, rfl, e110, Q110⟩, C110, st110⟩ := oCallS W109 (idx := 28) (pc := 170) (ls := #[sR a, sI vl, sR b, sI (Int32.ofNat U), sI 4, sI 0, sI 0, sU, sU]) (st := []) (argsL := [(.int c1)]) (c_ws K) (fun x hx => nomatch hx) (wK K 121 rfl) (wK K 122 rfl) (wK K 3 rfl) (wK K 123 rfl) (by decide) (na := 1) rfl (by decide +kernel) rfl (stk := [(.int c1)]) rfl (by decide +kernel) (V := 0) (lb rfl) (lb rfl) (lb rfl) (lb rfl) (lb rfl)
          refine oLift st110 ?_
          rw [e110] at W110 C110
          show OG _ _ _ _ _ _ _ _ _ _ _ (mkF m 173 #[sR a, sI vl, sR b, sI (Int32.ofNat U), sI 4, sI 0, sI 0, sU, sU] [(.int r110)])
          rcases Q110 with ⟨rfl, hq110⟩ | ⟨rfl, hq110⟩
          rotate_left
          · exact absurd hw103 hq110
          refine oIfT W110 (cd := .ne) (o := 6) (by decide +kernel) (XT.i0_ne_t (by decide)) (pc' := 179) (by decide) (by decide) ?_
          refine oGo W110 [.iload 4, .iconst 2] (by decide +kernel) (ls' := #[sR a, sI vl, sR b, sI (Int32.ofNat U), sI 4, sI 0, sI 0, sU, sU]) (st' := [(.int 2), (.int 4)]) rfl rfl (pc' := 182) rfl ?_
          refine oIcF W110 (cd := .le) (o := 15) (by decide +kernel) (XT.ii_le_f (by decide)) (pc' := 185) rfl ?_
          refine oGo W110 [.aload_n 0, .iconst 2] (by decide +kernel) (ls' := #[sR a, sI vl, sR b, sI (Int32.ofNat U), sI 4, sI 0, sI 0, sU, sU]) (st' := [(.int 2), (.ref a)]) rfl rfl (pc' := 187) rfl ?_
          refine oGet W110 A (v := (.int c2)) (by decide) rfl (Or.inl ⟨rfl, rfl⟩) (by decide +kernel) ?_
          obtain ⟨v111, T111, L111, h111, vm111, W111, ⟨r111, rfl, e111, Q111⟩, C111, st111⟩ := oCallS W110 (idx := 28) (pc := 188) (ls := #[sR a, sI vl, sR b, sI (Int32.ofNat U), sI 4, sI 0, sI 0, sU, sU]) (st := []) (argsL := [(.int c2)]) (c_ws K) (fun x hx => nomatch hx) (wK K 121 rfl) (wK K 122 rfl) (wK K 3 rfl) (wK K 123 rfl) (by decide) (na := 1) rfl (by decide +kernel) rfl (stk := [(.int c2)]) rfl (by decide +kernel) (V := 0) (lb rfl) (lb rfl) (lb rfl) (lb rfl) (lb rfl)
          refine oLift st111 ?_
          rw [e111] at W111 C111
          show OG _ _ _ _ _ _ _ _ _ _ _ (mkF m 191 #[sR a, sI vl, sR b, sI (Int32.ofNat U), sI 4, sI 0, sI 0, sU, sU] [(.int r111)])
          rcases Q111 with ⟨rfl, hq111⟩ | ⟨rfl, hq111⟩
          rotate_left
          · exact absurd hw102 hq111
          refine oIfT W111 (cd := .ne) (o := 6) (by decide +kernel) (XT.i0_ne_t (by decide)) (pc' := 197) (by decide) (by decide) ?_
          refine oGo W111 [.iload 4, .iconst 3] (by decide +kernel) (ls' := #[sR a, sI vl, sR b, sI (Int32.ofNat U), sI 4, sI 0, sI 0, sU, sU]) (st' := [(.int 3), (.int 4)]) rfl rfl (pc' := 200) rfl ?_
          refine oIcF W111 (cd := .le) (o := 15) (by decide +kernel) (XT.ii_le_f (by decide)) (pc' := 203) rfl ?_
          refine oGo W111 [.aload_n 0, .iconst 3] (by decide +kernel) (ls' := #[sR a, sI vl, sR b, sI (Int32.ofNat U), sI 4, sI 0, sI 0, sU, sU]) (st' := [(.int 3), (.ref a)]) rfl rfl (pc' := 205) rfl ?_
          refine oGet W111 A (v := (.int c3)) (by decide) rfl (Or.inl ⟨rfl, rfl⟩) (by decide +kernel) ?_
          obtain ⟨v112, T112, L112, h112, vm112, W112, ⟨r112, rfl, e112, Q112⟩, C112, st112⟩ := oCallS W111 (idx := 28) (pc := 206) (ls := #[sR a, sI vl, sR b, sI (Int32.ofNat U), sI 4, sI 0, sI 0, sU, sU]) (st := []) (argsL := [(.int c3)]) (c_ws K) (fun x hx => nomatch hx) (wK K 121 rfl) (wK K 122 rfl) (wK K 3 rfl) (wK K 123 rfl) (by decide) (na := 1) rfl (by decide +kernel) rfl (stk := [(.int c3)]) rfl (by decide +kernel) (V := 0) (lb rfl) (lb rfl) (lb rfl) (lb rfl) (lb rfl)
          refine oLift st112 ?_
          rw [e112] at W112 C112
          show OG _ _ _ _ _ _ _ _ _ _ _ (mkF m 209 #[sR a, sI vl, sR b, sI (Int32.ofNat U), sI 4, sI 0, sI 0, sU, sU] [(.int r112)])
          rcases Q112 with ⟨rfl, hq112⟩ | ⟨rfl, hq112⟩
          rotate_left
          · exact absurd hw101 hq112
          refine oIfT W112 (cd := .ne) (o := 6) (by decide +kernel) (XT.i0_ne_t (by decide)) (pc' := 215) (by decide) (by decide) ?_
          exact c_exp_c0_1 K hV hU W112 A B (by rw [he]; simp [strp, lw, rst, hw104, hw103, hw102, hw101])
      · refine oIfF W103 (cd := .ne) (o := 6) (by decide +kernel) (XT.i0_ne_f (by decide)) (pc' := 121) rfl ?_
        refine oGo W103 [.iconst 1, .istore 5] (by decide +kernel) (ls' := #[sR a, sI vl, sR b, sI (Int32.ofNat U), sI 4, sI 1, sU, sU, sU]) (st' := []) rfl rfl (pc' := 124) rfl ?_
        refine oGo W103 [.iload 4] (by decide +kernel) (ls' := #[sR a, sI vl, sR b, sI (Int32.ofNat U), sI 4, sI 1, sU, sU, sU]) (st' := [(.int 4)]) rfl rfl (pc' := 126) rfl ?_
        refine oIfF W103 (cd := .le) (o := 15) (by decide +kernel) (XT.i0_le_f (by decide)) (pc' := 129) rfl ?_
        refine oGo W103 [.aload_n 0, .iconst 0] (by decide +kernel) (ls' := #[sR a, sI vl, sR b, sI (Int32.ofNat U), sI 4, sI 1, sU, sU, sU]) (st' := [(.int 0), (.ref a)]) rfl rfl (pc' := 131) rfl ?_
        refine oGet W103 A (v := (.int c0)) (by decide) rfl (Or.inl ⟨rfl, rfl⟩) (by decide +kernel) ?_
        obtain ⟨v113, T113, L113, h113, vm113, W113, ⟨r113, rfl, e113, Q113⟩, C113, st113⟩ := oCallS W103 (idx := 28) (pc := 132) (ls := #[sR a, sI vl, sR b, sI (Int32.ofNat U), sI 4, sI 1, sU, sU, sU]) (st := []) (argsL := [(.int c0)]) (c_ws K) (fun x hx => nomatch hx) (wK K 121 rfl) (wK K 122 rfl) (wK K 3 rfl) (wK K 123 rfl) (by decide) (na := 1) rfl (by decide +kernel) rfl (stk := [(.int c0)]) rfl (by decide +kernel) (V := 0) (lb rfl) (lb rfl) (lb rfl) (lb rfl) (lb rfl)
        refine oLift st113 ?_
        rw [e113] at W113 C113
        show OG _ _ _ _ _ _ _ _ _ _ _ (mkF m 135 #[sR a, sI vl, sR b, sI (Int32.ofNat U), sI 4, sI 1, sU, sU, sU] [(.int r113)])
        rcases Q113 with ⟨rfl, hw113⟩ | ⟨rfl, hw113⟩
        · refine oIfT W113 (cd := .ne) (o := 6) (by decide +kernel) (XT.i0_ne_t (by decide)) (pc' := 141) (by decide) (by decide) ?_
          refine oGo W113 [.iconst (-1), .istore 6] (by decide +kernel) (ls' := #[sR a, sI vl, sR b, sI (Int32.ofNat U), sI 4, sI 1, sI (-1), sU, sU]) (st' := []) rfl rfl (pc' := 144) rfl ?_
          refine oGo W113 [.iload 4] (by decide +kernel) (ls' := #[sR a, sI vl, sR b, sI (Int32.ofNat U), sI 4, sI 1, sI (-1), sU, sU]) (st' := [(.int 4)]) rfl rfl (pc' := 146) rfl ?_
          refine oIfF W113 (cd := .le) (o := 15) (by decide +kernel) (XT.i0_le_f (by decide)) (pc' := 149) rfl ?_
          refine oGo W113 [.aload_n 0, .iconst 0] (by decide +kernel) (ls' := #[sR a, sI vl, sR b, sI (Int32.ofNat U), sI 4, sI 1, sI (-1), sU, sU]) (st' := [(.int 0), (.ref a)]) rfl rfl (pc' := 151) rfl ?_
          refine oGet W113 A (v := (.int c0)) (by decide) rfl (Or.inl ⟨rfl, rfl⟩) (by decide +kernel) ?_
          obtain ⟨v114, T114, L114, h114, vm114, W114, ⟨r114, rfl, e114, Q114⟩, C114, st114⟩ := oCallS W113 (idx := 28) (pc := 152) (ls := #[sR a, sI vl, sR b, sI (Int32.ofNat U), sI 4, sI 1, sI (-1), sU, sU]) (st := []) (argsL := [(.int c0)]) (c_ws K) (fun x hx => nomatch hx) (wK K 121 rfl) (wK K 122 rfl) (wK K 3 rfl) (wK K 123 rfl) (by decide) (na := 1) rfl (by decide +kernel) rfl (stk := [(.int c0)]) rfl (by decide +kernel) (V := 0) (lb rfl) (lb rfl) (lb rfl) (lb rfl) (lb rfl)
          refine oLift st114 ?_
          rw [e114] at W114 C114
          show OG _ _ _ _ _ _ _ _ _ _ _ (mkF m 155 #[sR a, sI vl, sR b, sI (Int32.ofNat U), sI 4, sI 1, sI (-1), sU, sU] [(.int r114)])
          rcases Q114 with ⟨rfl, hq114⟩ | ⟨rfl, hq114⟩
          rotate_left
          · exact absurd hw113 hq114
          refine oIfT W114 (cd := .ne) (o := 6) (by decide +kernel) (XT.i0_ne_t (by decide)) (pc' := 161) (by decide) (by decide) ?_
          refine oGo W114 [.iload 4, .iconst 1] (by decide +kernel) (ls' := #[sR a, sI vl, sR b, sI (Int32.ofNat U), sI 4, sI 1, sI (-1), sU, sU]) (st' := [(.int 1), (.int 4)]) rfl rfl (pc' := 164) rfl ?_
          refine oIcF W114 (cd := .le) (o := 15) (by decide +kernel) (XT.ii_le_f (by decide)) (pc' := 167) rfl ?_
          refine oGo W114 [.aload_n 0, .iconst 1] (by decide +kernel) (ls' := #[sR a, sI vl, sR b, sI (Int32.ofNat U), sI 4, sI 1, sI (-1), sU, sU]) (st' := [(.int 1), (.ref a)]) rfl rfl (pc' := 169) rfl ?_
          refine oGet W114 A (v := (.int c1)) (by decide) rfl (Or.inl ⟨rfl, rfl⟩) (by decide +kernel) ?_
          obtain ⟨v115, T115, L115, h115, vm115, W115, ⟨r115, rfl, e115, Q115⟩, C115, st115⟩ := oCallS W114 (idx := 28) (pc := 170) (ls := #[sR a, sI vl, sR b, sI (Int32.ofNat U), sI 4, sI 1, sI (-1), sU, sU]) (st := []) (argsL := [(.int c1)]) (c_ws K) (fun x hx => nomatch hx) (wK K 121 rfl) (wK K 122 rfl) (wK K 3 rfl) (wK K 123 rfl) (by decide) (na := 1) rfl (by decide +kernel) rfl (stk := [(.int c1)]) rfl (by decide +kernel) (V := 0) (lb rfl) (lb rfl) (lb rfl) (lb rfl) (lb rfl)
          refine oLift st115 ?_
          rw [e115] at W115 C115
          show OG _ _ _ _ _ _ _ _ _ _ _ (mkF m 173 #[sR a, sI vl, sR b, sI (Int32.ofNat U), sI 4, sI 1, sI (-1), sU, sU] [(.int r115)])
          rcases Q115 with ⟨rfl, hq115⟩ | ⟨rfl, hq115⟩
          · exact absurd hq115 hw103
          refine oIfF W115 (cd := .ne) (o := 6) (by decide +kernel) (XT.i0_ne_f (by decide)) (pc' := 176) rfl ?_
          refine oGo W115 [.iconst 1, .istore 6] (by decide +kernel) (ls' := #[sR a, sI vl, sR b, sI (Int32.ofNat U), sI 4, sI 1, sI 1, sU, sU]) (st' := []) rfl rfl (pc' := 179) rfl ?_
          refine oGo W115 [.iload 4, .iconst 2] (by decide +kernel) (ls' := #[sR a, sI vl, sR b, sI (Int32.ofNat U), sI 4, sI 1, sI 1, sU, sU]) (st' := [(.int 2), (.int 4)]) rfl rfl (pc' := 182) rfl ?_
          refine oIcF W115 (cd := .le) (o := 15) (by decide +kernel) (XT.ii_le_f (by decide)) (pc' := 185) rfl ?_
          refine oGo W115 [.aload_n 0, .iconst 2] (by decide +kernel) (ls' := #[sR a, sI vl, sR b, sI (Int32.ofNat U), sI 4, sI 1, sI 1, sU, sU]) (st' := [(.int 2), (.ref a)]) rfl rfl (pc' := 187) rfl ?_
          refine oGet W115 A (v := (.int c2)) (by decide) rfl (Or.inl ⟨rfl, rfl⟩) (by decide +kernel) ?_
          obtain ⟨v116, T116, L116, h116, vm116, W116, ⟨r116, rfl, e116, Q116⟩, C116, st116⟩ := oCallS W115 (idx := 28) (pc := 188) (ls := #[sR a, sI vl, sR b, sI (Int32.ofNat U), sI 4, sI 1, sI 1, sU, sU]) (st := []) (argsL := [(.int c2)]) (c_ws K) (fun x hx => nomatch hx) (wK K 121 rfl) (wK K 122 rfl) (wK K 3 rfl) (wK K 123 rfl) (by decide) (na := 1) rfl (by decide +kernel) rfl (stk := [(.int c2)]) rfl (by decide +kernel) (V := 0) (lb rfl) (lb rfl) (lb rfl) (lb rfl) (lb rfl)
          refine oLift st116 ?_
          rw [e116] at W116 C116
          show OG _ _ _ _ _ _ _ _ _ _ _ (mkF m 191 #[sR a, sI vl, sR b, sI (Int32.ofNat U), sI 4, sI 1, sI 1, sU, sU] [(.int r116)])
          rcases Q116 with ⟨rfl, hq116⟩ | ⟨rfl, hq116⟩
          rotate_left
          · exact absurd hw102 hq116
          refine oIfT W116 (cd := .ne) (o := 6) (by decide +kernel) (XT.i0_ne_t (by decide)) (pc' := 197) (by decide) (by decide) ?_
          refine oGo W116 [.iload 4, .iconst 3] (by decide +kernel) (ls' := #[sR a, sI vl, sR b, sI (Int32.ofNat U), sI 4, sI 1, sI 1, sU, sU]) (st' := [(.int 3), (.int 4)]) rfl rfl (pc' := 200) rfl ?_
          refine oIcF W116 (cd := .le) (o := 15) (by decide +kernel) (XT.ii_le_f (by decide)) (pc' := 203) rfl ?_
          refine oGo W116 [.aload_n 0, .iconst 3] (by decide +kernel) (ls' := #[sR a, sI vl, sR b, sI (Int32.ofNat U), sI 4, sI 1, sI 1, sU, sU]) (st' := [(.int 3), (.ref a)]) rfl rfl (pc' := 205) rfl ?_
          refine oGet W116 A (v := (.int c3)) (by decide) rfl (Or.inl ⟨rfl, rfl⟩) (by decide +kernel) ?_
          obtain ⟨v117, T117, L117, h117, vm117, W117, ⟨r117, rfl, e117, Q117⟩, C117, st117⟩ := oCallS W116 (idx := 28) (pc := 206) (ls := #[sR a, sI vl, sR b, sI (Int32.ofNat U), sI 4, sI 1, sI 1, sU, sU]) (st := []) (argsL := [(.int c3)]) (c_ws K) (fun x hx => nomatch hx) (wK K 121 rfl) (wK K 122 rfl) (wK K 3 rfl) (wK K 123 rfl) (by decide) (na := 1) rfl (by decide +kernel) rfl (stk := [(.int c3)]) rfl (by decide +kernel) (V := 0) (lb rfl) (lb rfl) (lb rfl) (lb rfl) (lb rfl)
          refine oLift st117 ?_
          rw [e117] at W117 C117
          show OG _ _ _ _ _ _ _ _ _ _ _ (mkF m 209 #[sR a, sI vl, sR b, sI (Int32.ofNat U), sI 4, sI 1, sI 1, sU, sU] [(.int r117)])
          rcases Q117 with ⟨rfl, hq117⟩ | ⟨rfl, hq117⟩
          rotate_left
          · exact absurd hw101 hq117
          refine oIfT W117 (cd := .ne) (o := 6) (by decide +kernel) (XT.i0_ne_t (by decide)) (pc' := 215) (by decide) (by decide) ?_
          exact c_exp_c1_2 K hV hU W117 A B (by rw [he]; simp [strp, lw, rst, hw113, hw103, hw102, hw101])
        · refine oIfF W113 (cd := .ne) (o := 6) (by decide +kernel) (XT.i0_ne_f (by decide)) (pc' := 138) rfl ?_
          refine oGo W113 [.iconst 0, .istore 5] (by decide +kernel) (ls' := #[sR a, sI vl, sR b, sI (Int32.ofNat U), sI 4, sI 0, sU, sU, sU]) (st' := []) rfl rfl (pc' := 141) rfl ?_
          refine oGo W113 [.iconst (-1), .istore 6] (by decide +kernel) (ls' := #[sR a, sI vl, sR b, sI (Int32.ofNat U), sI 4, sI 0, sI (-1), sU, sU]) (st' := []) rfl rfl (pc' := 144) rfl ?_
          refine oGo W113 [.iload 4] (by decide +kernel) (ls' := #[sR a, sI vl, sR b, sI (Int32.ofNat U), sI 4, sI 0, sI (-1), sU, sU]) (st' := [(.int 4)]) rfl rfl (pc' := 146) rfl ?_
          refine oIfF W113 (cd := .le) (o := 15) (by decide +kernel) (XT.i0_le_f (by decide)) (pc' := 149) rfl ?_
          refine oGo W113 [.aload_n 0, .iconst 0] (by decide +kernel) (ls' := #[sR a, sI vl, sR b, sI (Int32.ofNat U), sI 4, sI 0, sI (-1), sU, sU]) (st' := [(.int 0), (.ref a)]) rfl rfl (pc' := 151) rfl ?_
          refine oGet W113 A (v := (.int c0)) (by decide) rfl (Or.inl ⟨rfl, rfl⟩) (by decide +kernel) ?_
          obtain ⟨v118, T118, L118, h118, vm118, W118, ⟨r118, rfl, e118, Q118⟩, C118, st118⟩ := oCallS W113 (idx := 28) (pc := 152) (ls := #[sR a, sI vl, sR b, sI (Int32.ofNat U), sI 4, sI 0, sI (-1), sU, sU]) (st := []) (argsL := [(.int c0)]) (c_ws K) (fun x hx => nomatch hx) (wK K 121 rfl) (wK K 122 rfl) (wK K 3 rfl) (wK K 123 rfl) (by decide) (na := 1) rfl (by decide +kernel) rfl (stk := [(.int c0)]) rfl (by decide +kernel) (V := 0) (lb rfl) (lb rfl) (lb rfl) (lb rfl) (lb rfl)
          refine oLift st118 ?_
          rw [e118] at W118 C118
          show OG _ _ _ _ _ _ _ _ _ _ _ (mkF m 155 #[sR a, sI vl, sR b, sI (Int32.ofNat U), sI 4, sI 0, sI (-1), sU, sU] [(.int r118)])
          rcases Q118 with ⟨rfl, hq118⟩ | ⟨rfl, hq118⟩
          · exact absurd hq118 hw113
          refine oIfF W118 (cd := .ne) (o := 6) (by decide +kernel) (XT.i0_ne_f (by decide)) (pc' := 158) rfl ?_
          refine oGo W118 [.iconst 0, .istore 6] (by decide +kernel) (ls' := #[sR a, sI vl, sR b, sI (Int32.ofNat U), sI 4, sI 0, sI 0, sU, sU]) (st' := []) rfl rfl (pc' := 161) rfl ?_
          refine oGo W118 [.iload 4, .iconst 1] (by decide +kernel) (ls' := #[sR a, sI vl, sR b, sI (Int32.ofNat U), sI 4, sI 0, sI 0, sU, sU]) (st' := [(.int 1), (.int 4)]) rfl rfl (pc' := 164) rfl ?_
          refine oIcF W118 (cd := .le) (o := 15) (by decide +kernel) (XT.ii_le_f (by decide)) (pc' := 167) rfl ?_
          refine oGo W118 [.aload_n 0, .iconst 1] (by decide +kernel) (ls' := #[sR a, sI vl, sR b, sI (Int32.ofNat U), sI 4, sI 0, sI 0, sU, sU]) (st' := [(.int 1), (.ref a)]) rfl rfl (pc' := 169) rfl ?_
          refine oGet W118 A (v := (.int c1)) (by decide) rfl (Or.inl ⟨rfl, rfl⟩) (by decide +kernel) ?_
          obtain ⟨v119, T119, L119, h119, vm119, W119, ⟨r119, rfl, e119, Q119⟩, C119, st119⟩ := oCallS W118 (idx := 28) (pc := 170) (ls := #[sR a, sI vl, sR b, sI (Int32.ofNat U), sI 4, sI 0, sI 0, sU, sU]) (st := []) (argsL := [(.int c1)]) (c_ws K) (fun x hx => nomatch hx) (wK K 121 rfl) (wK K 122 rfl) (wK K 3 rfl) (wK K 123 rfl) (by decide) (na := 1) rfl (by decide +kernel) rfl (stk := [(.int c1)]) rfl (by decide +kernel) (V := 0) (lb rfl) (lb rfl) (lb rfl) (lb rfl) (lb rfl)
          refine oLift st119 ?_
          rw [e119] at W119 C119
          show OG _ _ _ _ _ _ _ _ _ _ _ (mkF m 173 #[sR a, sI vl, sR b, sI (Int32.ofNat U), sI 4, sI 0, sI 0, sU, sU] [(.int r119)])
          rcases Q119 with ⟨rfl, hq119⟩ | ⟨rfl, hq119⟩
          · exact absurd hq119 hw103
          refine oIfF W119 (cd := .ne) (o := 6) (by decide +kernel) (XT.i0_ne_f (by decide)) (pc' := 176) rfl ?_
          refine oGo W119 [.iconst 1, .istore 6] (by decide +kernel) (ls' := #[sR a, sI vl, sR b, sI (Int32.ofNat U), sI 4, sI 0, sI 1, sU, sU]) (st' := []) rfl rfl (pc' := 179) rfl ?_
          refine oGo W119 [.iload 4, .iconst 2] (by decide +kernel) (ls' := #[sR a, sI vl, sR b, sI (Int32.ofNat U), sI 4, sI 0, sI 1, sU, sU]) (st' := [(.int 2), (.int 4)]) rfl rfl (pc' := 182) rfl ?_
          refine oIcF W119 (cd := .le) (o := 15) (by decide +kernel) (XT.ii_le_f (by decide)) (pc' := 185) rfl ?_
          refine oGo W119 [.aload_n 0, .iconst 2] (by decide +kernel) (ls' := #[sR a, sI vl, sR b, sI (Int32.ofNat U), sI 4, sI 0, sI 1, sU, sU]) (st' := [(.int 2), (.ref a)]) rfl rfl (pc' := 187) rfl ?_
          refine oGet W119 A (v := (.int c2)) (by decide) rfl (Or.inl ⟨rfl, rfl⟩) (by decide +kernel) ?_
          obtain ⟨v120, T120, L120, h120, vm120, W120, ⟨r120, rfl, e120, Q120⟩, C120, st120⟩ := oCallS W119 (idx := 28) (pc := 188) (ls := #[sR a, sI vl, sR b, sI (Int32.ofNat U), sI 4, sI 0, sI 1, sU, sU]) (st := []) (argsL := [(.int c2)]) (c_ws K) (fun x hx => nomatch hx) (wK K 121 rfl) (wK K 122 rfl) (wK K 3 rfl) (wK K 123 rfl) (by decide) (na := 1) rfl (by decide +kernel) rfl (stk := [(.int c2)]) rfl (by decide +kernel) (V := 0) (lb rfl) (lb rfl) (lb rfl) (lb rfl) (lb rfl)
          refine oLift st120 ?_
          rw [e120] at W120 C120
          show OG _ _ _ _ _ _ _ _ _ _ _ (mkF m 191 #[sR a, sI vl, sR b, sI (Int32.ofNat U), sI 4, sI 0, sI 1, sU, sU] [(.int r120)])
          rcases Q120 with ⟨rfl, hq120⟩ | ⟨rfl, hq120⟩
          rotate_left
          · exact absurd hw102 hq120
          refine oIfT W120 (cd := .ne) (o := 6) (by decide +kernel) (XT.i0_ne_t (by decide)) (pc' := 197) (by decide) (by decide) ?_
          refine oGo W120 [.iload 4, .iconst 3] (by decide +kernel) (ls' := #[sR a, sI vl, sR b, sI (Int32.ofNat U), sI 4, sI 0, sI 1, sU, sU]) (st' := [(.int 3), (.int 4)]) rfl rfl (pc' := 200) rfl ?_
          refine oIcF W120 (cd := .le) (o := 15) (by decide +kernel) (XT.ii_le_f (by decide)) (pc' := 203) rfl ?_
          refine oGo W120 [.aload_n 0, .iconst 3] (by decide +kernel) (ls' := #[sR a, sI vl, sR b, sI (Int32.ofNat U), sI 4, sI 0, sI 1, sU, sU]) (st' := [(.int 3), (.ref a)]) rfl rfl (pc' := 205) rfl ?_
          refine oGet W120 A (v := (.int c3)) (by decide) rfl (Or.inl ⟨rfl, rfl⟩) (by decide +kernel) ?_
          obtain ⟨v121, T121, L121, h121, vm121, W121, ⟨r121, rfl, e121, Q121⟩, C121, st121⟩ := oCallS W120 (idx := 28) (pc := 206) (ls := #[sR a, sI vl, sR b, sI (Int32.ofNat U), sI 4, sI 0, sI 1, sU, sU]) (st := []) (argsL := [(.int c3)]) (c_ws K) (fun x hx => nomatch hx) (wK K 121 rfl) (wK K 122 rfl) (wK K 3 rfl) (wK K 123 rfl) (by decide) (na := 1) rfl (by decide +kernel) rfl (stk := [(.int c3)]) rfl (by decide +kernel) (V := 0) (lb rfl) (lb rfl) (lb rfl) (lb rfl) (lb rfl)
          refine oLift st121 ?_
          rw [e121] at W121 C121
          show OG _ _ _ _ _ _ _ _ _ _ _ (mkF m 209 #[sR a, sI vl, sR b, sI (Int32.ofNat U), sI 4, sI 0, sI 1, sU, sU] [(.int r121)])
          rcases Q121 with ⟨rfl, hq121⟩ | ⟨rfl, hq121⟩
          rotate_left
          · exact absurd hw101 hq121
          refine oIfT W121 (cd := .ne) (o := 6) (by decide +kernel) (XT.i0_ne_t (by decide)) (pc' := 215) (by decide) (by decide) ?_
          exact c_exp_c0_2 K hV hU W121 A B (by rw [he]; simp [strp, lw, rst, hw113, hw103, hw102, hw101])
    · refine oIfF W102 (cd := .ne) (o := 6) (by decide +kernel) (XT.i0_ne_f (by decide)) (pc' := 103) rfl ?_
      refine oGo W102 [.iconst 2, .istore 5] (by decide +kernel) (ls' := #[sR a, sI vl, sR b, sI (Int32.ofNat U), sI 4, sI 2, sU, sU, sU]) (st' := []) rfl rfl (pc' := 106) rfl ?_
      refine oGo W102 [.iload 4, .iconst 1] (by decide +kernel) (ls' := #[sR a, sI vl, sR b, sI (Int32.ofNat U), sI 4, sI 2, sU, sU, sU]) (st' := [(.int 1), (.int 4)]) rfl rfl (pc' := 109) rfl ?_
      refine oIcF W102 (cd := .le) (o := 15) (by decide +kernel) (XT.ii_le_f (by decide)) (pc' := 112) rfl ?_
      refine oGo W102 [.aload_n 0, .iconst 1] (by decide +kernel) (ls' := #[sR a, sI vl, sR b, sI (Int32.ofNat U), sI 4, sI 2, sU, sU, sU]) (st' := [(.int 1), (.ref a)]) rfl rfl (pc' := 114) rfl ?_
      refine oGet W102 A (v := (.int c1)) (by decide) rfl (Or.inl ⟨rfl, rfl⟩) (by decide +kernel) ?_
      obtain ⟨v122, T122, L122, h122, vm122, W122, ⟨r122, rfl, e122, Q122⟩, C122, st122⟩ := oCallS W102 (idx := 28) (pc := 115) (ls := #[sR a, sI vl, sR b, sI (Int32.ofNat U), sI 4, sI 2, sU, sU, sU]) (st := []) (argsL := [(.int c1)]) (c_ws K) (fun x hx => nomatch hx) (wK K 121 rfl) (wK K 122 rfl) (wK K 3 rfl) (wK K 123 rfl) (by decide) (na := 1) rfl (by decide +kernel) rfl (stk := [(.int c1)]) rfl (by decide +kernel) (V := 0) (lb rfl) (lb rfl) (lb rfl) (lb rfl) (lb rfl)
      refine oLift st122 ?_
      rw [e122] at W122 C122
      show OG _ _ _ _ _ _ _ _ _ _ _ (mkF m 118 #[sR a, sI vl, sR b, sI (Int32.ofNat U), sI 4, sI 2, sU, sU, sU] [(.int r122)])
      rcases Q122 with ⟨rfl, hw122⟩ | ⟨rfl, hw122⟩
      · refine oIfT W122 (cd := .ne) (o := 6) (by decide +kernel) (XT.i0_ne_t (by decide)) (pc' := 124) (by decide) (by decide) ?_
        refine oGo W122 [.iload 4] (by decide +kernel) (ls' := #[sR a, sI vl, sR b, sI (Int32.ofNat U), sI 4, sI 2, sU, sU, sU]) (st' := [(.int 4)]) rfl rfl (pc' := 126) rfl ?_
        refine oIfF W122 (cd := .le) (o := 15) (by decide +kernel) (XT.i0_le_f (by decide)) (pc' := 129) rfl ?_
        refine oGo W122 [.aload_n 0, .iconst 0] (by decide +kernel) (ls' := #[sR a, sI vl, sR b, sI (Int32.ofNat U), sI 4, sI 2, sU, sU, sU]) (st' := [(.int 0), (.ref a)]) rfl rfl (pc' := 131) rfl ?_
        refine oGet W122 A (v := (.int c0)) (by decide) rfl (Or.inl ⟨rfl, rfl⟩) (by decide +kernel) ?_
        obtain ⟨v123, T123, L123, h123, vm123, W123, ⟨r123, rfl, e123, Q123⟩, C123, st123⟩ := oCallS W122 (idx := 28) (pc := 132) (ls := #[sR a, sI vl, sR b, sI (Int32.ofNat U), sI 4, sI 2, sU, sU, sU]) (st := []) (argsL := [(.int c0)]) (c_ws K) (fun x hx => nomatch hx) (wK K 121 rfl) (wK K 122 rfl) (wK K 3 rfl) (wK K 123 rfl) (by decide) (na := 1) rfl (by decide +kernel) rfl (stk := [(.int c0)]) rfl (by decide +kernel) (V := 0) (lb rfl) (lb rfl) (lb rfl) (lb rfl) (lb rfl)
        refine oLift st123 ?_
        rw [e123] at W123 C123
        show OG _ _ _ _ _ _ _ _ _ _ _ (mkF m 135 #[sR a, sI vl, sR b, sI (Int32.ofNat U), sI 4, sI 2, sU, sU, sU] [(.int r123)])
        rcases Q123 with ⟨rfl, hw123⟩ | ⟨rfl, hw123⟩
        · refine oIfT W123 (cd := .ne) (o := 6) (by decide +kernel) (XT.i0_ne_t (by decide)) (pc' := 141) (by decide) (by decide) ?_
          refine oGo W123 [.iconst (-1), .istore 6] (by decide +kernel) (ls' := #[sR a, sI vl, sR b, sI (Int32.ofNat U), sI 4, sI 2, sI (-1), sU, sU]) (st' := []) rfl rfl (pc' := 144) rfl ?_
          refine oGo W123 [.iload 4] (by decide +kernel) (ls' := #[sR a, sI vl, sR b, sI (Int32.ofNat U), sI 4, sI 2, sI (-1), sU, sU]) (st' := [(.int 4)]) rfl rfl (pc' := 146) rfl ?_
          refine oIfF W123 (cd := .le) (o := 15) (by decide +kernel) (XT.i0_le_f (by decide)) (pc' := 149) rfl ?_
          refine oGo W123 [.aload_n 0, .iconst 0] (by decide +kernel) (ls' := #[sR a, sI vl, sR b, sI (Int32.ofNat U), sI 4, sI 2, sI (-1), sU, sU]) (st' := [(.int 0), (.ref a)]) rfl rfl (pc' := 151) rfl ?_
          refine oGet W123 A (v := (.int c0)) (by decide) rfl (Or.inl ⟨rfl, rfl⟩) (by decide +kernel) ?_
          obtain ⟨v124, T124, L124, h124, vm124, W124, ⟨r124, rfl, e124, Q124⟩, C124, st124⟩ := oCallS W123 (idx := 28) (pc := 152) (ls := #[sR a, sI vl, sR b, sI (Int32.ofNat U), sI 4, sI 2, sI (-1), sU, sU]) (st := []) (argsL := [(.int c0)]) (c_ws K) (fun x hx => nomatch hx) (wK K 121 rfl) (wK K 122 rfl) (wK K 3 rfl) (wK K 123 rfl) (by decide) (na := 1) rfl (by decide +kernel) rfl (stk := [(.int c0)]) rfl (by decide +kernel) (V := 0) (lb rfl) (lb rfl) (lb rfl) (lb rfl) (lb rfl)
          refine oLift st124 ?_
          rw [e124] at W124 C124
          show OG _ _ _ _ _ _ _ _ _ _ _ (mkF m 155 #[sR a, sI vl, sR b, sI (Int32.ofNat U), sI 4, sI 2, sI (-1), sU, sU] [(.int r124)])
          rcases Q124 with ⟨rfl, hq124⟩ | ⟨rfl, hq124⟩
          rotate_left
          · exact absurd hw123 hq124
          refine oIfT W124 (cd := .ne) (o := 6) (by decide +kernel) (XT.i0_ne_t (by decide)) (pc' := 161) (by decide) (by decide) ?_
          refine oGo W124 [.iload 4, .iconst 1] (by decide +kernel) (ls' := #[sR a, sI vl, sR b, sI (Int32.ofNat U), sI 4, sI 2, sI (-1), sU, sU]) (st' := [(.int 1), (.int 4)]) rfl rfl (pc' := 164) rfl ?_
          refine oIcF W124 (cd := .le) (o := 15) (by decide +kernel) (XT.ii_le_f (by decide)) (pc' := 167) rfl ?_
          refine oGo W124 [.aload_n 0, .iconst 1] (by decide +kernel) (ls' := #[sR a, sI vl, sR b, sI (Int32.ofNat U), sI 4, sI 2, sI (-1), sU, sU]) (st' := [(.int 1), (.ref a)]) rfl rfl (pc' := 169) rfl ?_
          refine oGet W124 A (v := (.int c1)) (by decide) rfl (Or.inl ⟨rfl, rfl⟩) (by decide +kernel) ?_
          obtain ⟨v125, T125, L125, h125, vm125, W125, ⟨r125, rfl, e125, Q125⟩, C125, st125⟩ := oCallS W124 (idx := 28) (pc := 170) (ls := #[sR a, sI vl, sR b, sI (Int32.ofNat U), sI 4, sI 2, sI (-1), sU, sU]) (st := []) (argsL := [(.int c1)]) (c_ws K) (fun x hx => nomatch hx) (wK K 121 rfl) (wK K 122 rfl) (wK K 3 rfl) (wK K 123 rfl) (by decide) (na := 1) rfl (by decide +kernel) rfl (stk := [(.int c1)]) rfl (by decide +kernel) (V := 0) (lb rfl) (lb rfl) (lb rfl) (lb rfl) (lb rfl)
          refine oLift st125 ?_
          rw [e125] at W125 C125
          show OG _ _ _ _ _ _ _ _ _ _ _ (mkF m 173 #[sR a, sI vl, sR b, sI (Int32.ofNat U), sI 4, sI 2, sI (-1), sU, sU] [(.int r125)])
          rcases Q125 with ⟨rfl, hq125⟩ | ⟨rfl, hq125⟩
          rotate_left
          · exact absurd hw122 hq125
          refine oIfT W125 (cd := .ne) (o := 6) (by decide +kernel) (XT.i0_ne_t (by decide)) (pc' := 179) (by decide) (by decide) ?_
          refine oGo W125 [.iload 4, .iconst 2] (by decide +kernel) (ls' := #[sR a, sI vl, sR b, sI (Int32.ofNat U), sI 4, sI 2, sI (-1), sU, sU]) (st' := [(.int 2), (.int 4)]) rfl rfl (pc' := 182) rfl ?_
          refine oIcF W125 (cd := .le) (o := 15) (by decide +kernel) (XT.ii_le_f (by decide)) (pc' := 185) rfl ?_
          refine oGo W125 [.aload_n 0, .iconst 2] (by decide +kernel) (ls' := #[sR a, sI vl, sR b, sI (Int32.ofNat U), sI 4, sI 2, sI (-1), sU, sU]) (st' := [(.int 2), (.ref a)]) rfl rfl (pc' := 187) rfl ?_
          refine oGet W125 A (v := (.int c2)) (by decide) rfl (Or.inl ⟨rfl, rfl⟩) (by decide +kernel) ?_
          obtain ⟨v126, T126, L126, h126, vm126, W126, ⟨r126, rfl, e126, Q126⟩, C126, st126⟩ := oCallS W125 (idx := 28) (pc := 188) (ls := #[sR a, sI vl, sR b, sI (Int32.ofNat U), sI 4, sI 2, sI (-1), sU, sU]) (st := []) (argsL := [(.int c2)]) (c_ws K) (fun x hx => nomatch hx) (wK K 121 rfl) (wK K 122 rfl) (wK K 3 rfl) (wK K 123 rfl) (by decide) (na := 1) rfl (by decide +kernel) rfl (stk := [(.int c2)]) rfl (by decide +kernel) (V := 0) (lb rfl) (lb rfl) (lb rfl) (lb rfl) (lb rfl)
          refine oLift st126 ?_
          rw [e126] at W126 C126
          show OG _ _ _ _ _ _ _ _ _ _ _ (mkF m 191 #[sR a, sI vl, sR b, sI (Int32.ofNat U), sI 4, sI 2, sI (-1), sU, sU] [(.int r126)])
          rcases Q126 with ⟨rfl, hq126⟩ | ⟨rfl, hq126⟩
          · exact absurd hq126 hw102
          refine oIfF W126 (cd := .ne) (o := 6) (by decide +kernel) (XT.i0_ne_f (by decide)) (pc' := 194) rfl ?_
          refine oGo W126 [.iconst 2, .istore 6] (by decide +kernel) (ls' := #[sR a, sI vl, sR b, sI (Int32.ofNat U), sI 4, sI 2, sI 2, sU, sU]) (st' := []) rfl rfl (pc' := 197) rfl ?_
          refine oGo W126 [.iload 4, .iconst 3] (by decide +kernel) (ls' := #[sR a, sI vl, sR b, sI (Int32.ofNat U), sI 4, sI 2, sI 2, sU, sU]) (st' := [(.int 3), (.int 4)]) rfl rfl (pc' := 200) rfl ?_
          refine oIcF W126 (cd := .le) (o := 15) (by decide +kernel) (XT.ii_le_f (by decide)) (pc' := 203) rfl ?_
          refine oGo W126 [.aload_n 0, .iconst 3] (by decide +kernel) (ls' := #[sR a, sI vl, sR b, sI (Int32.ofNat U), sI 4, sI 2, sI 2, sU, sU]) (st' := [(.int 3), (.ref a)]) rfl rfl (pc' := 205) rfl ?_
          refine oGet W126 A (v := (.int c3)) (by decide) rfl (Or.inl ⟨rfl, rfl⟩) (by decide +kernel) ?_
          obtain ⟨v127, T127, L127, h127, vm127, W127, ⟨r127, rfl, e127, Q127⟩, C127, st127⟩ := oCallS W126 (idx := 28) (pc := 206) (ls := #[sR a, sI vl, sR b, sI (Int32.ofNat U), sI 4, sI 2, sI 2, sU, sU]) (st := []) (argsL := [(.int c3)]) (c_ws K) (fun x hx => nomatch hx) (wK K 121 rfl) (wK K 122 rfl) (wK K 3 rfl) (wK K 123 rfl) (by decide) (na := 1) rfl (by decide +kernel) rfl (stk := [(.int c3)]) rfl (by decide +kernel) (V := 0) (lb rfl) (lb rfl) (lb rfl) (lb rfl) (lb rfl)
          refine oLift st127 ?_
          rw [e127] at W127 C127
          show OG _ _ _ _ _ _ _ _ _ _ _ (mkF m 209 #[sR a, sI vl, sR b, sI (Int32.ofNat U), sI 4, sI 2, sI 2, sU, sU] [(.int r127)])
          rcases Q127 with ⟨rfl, hq127⟩ | ⟨rfl, hq127⟩
          rotate_left
          · exact absurd hw101 hq127
          refine oIfT W127 (cd := .ne) (o := 6) (by decide +kernel) (XT.i0_ne_t (by decide)) (pc' := 215) (by decide) (by decide) ?_
          exact c_exp_c2_3 K hV hU W127 A B (by rw [he]; simp [strp, lw, rst, hw123, hw122, hw102, hw101])
        · refine oIfF W123 (cd := .ne) (o := 6) (by decide +kernel) (XT.i0_ne_f (by decide)) (pc' := 138) rfl ?_
          refine oGo W123 [.iconst 0, .istore 5] (by decide +kernel) (ls' := #[sR a, sI vl, sR b, sI (Int32.ofNat U), sI 4, sI 0, sU, sU, sU]) (st' := []) rfl rfl (pc' := 141) rfl ?_
          refine oGo W123 [.iconst (-1), .istore 6] (by decide +kernel) (ls' := #[sR a, sI vl, sR b, sI (Int32.ofNat U), sI 4, sI 0, sI (-1), sU, sU]) (st' := []) rfl rfl (pc' := 144) rfl ?_
          refine oGo W123 [.iload 4] (by decide +kernel) (ls' := #[sR a, sI vl, sR b, sI (Int32.ofNat U), sI 4, sI 0, sI (-1), sU, sU]) (st' := [(.int 4)]) rfl rfl (pc' := 146) rfl ?_
          refine oIfF W123 (cd := .le) (o := 15) (by decide +kernel) (XT.i0_le_f (by decide)) (pc' := 149) rfl ?_
          refine oGo W123 [.aload_n 0, .iconst 0] (by decide +kernel) (ls' := #[sR a, sI vl, sR b, sI (Int32.ofNat U), sI 4, sI 0, sI (-1), sU, sU]) (st' := [(.int 0), (.ref a)]) rfl rfl (pc' := 151) rfl ?_
          refine oGet W123 A (v := (.int c0)) (by decide) rfl (Or.inl ⟨rfl, rfl⟩) (by decide +kernel) ?_
          obtain ⟨v128, T128, L128, h128, vm128, W128, ⟨r128, rfl, e128, Q128⟩, C128, st128⟩ := oCallS W123 (idx := 28) (pc := 152) (ls := #[sR a, sI vl, sR b, sI (Int32.ofNat U), sI 4, sI 0, sI (-1), sU, sU]) (st := []) (argsL := [(.int c0)]) (c_ws K) (fun x hx => nomatch hx) (wK K 121 rfl) (wK K 122 rfl) (wK K 3 rfl) (wK K 123 rfl) (by decide) (na := 1) rfl (by decide +kernel) rfl (stk := [(.int c0)]) rfl (by decide +kernel) (V := 0) (lb rfl) (lb rfl) (lb rfl) (lb rfl) (lb rfl)
          refine oLift st128 ?_
          rw [e128] at W128 C128
          show OG _ _ _ _ _ _ _ _ _ _ _ (mkF m 155 #[sR a, sI vl, sR b, sI (Int32.ofNat U), sI 4, sI 0, sI (-1), sU, sU] [(.int r128)])
          rcases Q128 with ⟨rfl, hq128⟩ | ⟨rfl, hq128⟩
          · exact absurd hq128 hw123
          refine oIfF W128 (cd := .ne) (o := 6) (by decide +kernel) (XT.i0_ne_f (by decide)) (pc' := 158) rfl ?_
          refine oGo W128 [.iconst 0, .istore 6] (by decide +kernel) (ls' := #[sR a, sI vl, sR b, sI (Int32.ofNat U), sI 4, sI 0, sI 0, sU, sU]) (st' := []) rfl rfl (pc' := 161) rfl ?_
          refine oGo W128 [.iload 4, .iconst 1] (by decide +kernel) (ls' := #[sR a, sI vl, sR b, sI (Int32.ofNat U), sI 4, sI 0, sI 0, sU, sU]) (st' := [(.int 1), (.int 4)]) rfl rfl (pc' := 164) rfl ?_
          refine oIcF W128 (cd := .le) (o := 15) (by decide +kernel) (XT.ii_le_f (by decide)) (pc' := 167) rfl ?_
          refine oGo W128 [.aload_n 0, .iconst 1] (by decide +kernel) (ls' := #[sR a, sI vl, sR b, sI (Int32.ofNat U), sI 4, sI 0, sI 0, sU, sU]) (st' := [(.int 1), (.ref a)]) rfl rfl (pc' := 169) rfl ?_
          refine oGet W128 A (v := (.int c1)) (by decide) rfl (Or.inl ⟨rfl, rfl⟩) (by decide +kernel) ?_
          obtain ⟨v129, T129, L129, h129, vm129, W129, ⟨r129, rfl, e129, Q129⟩, C129, st129⟩ := oCallS W128 (idx := 28) (pc := 170) (ls := #[sR a, sI vl, sR b, sI (Int32.ofNat U), sI 4, sI 0, sI 0, sU, sU]) (st := []) (argsL := [(.int c1)]) (c_ws K) (fun x hx => nomatch hx) (wK K 121 rfl) (wK K 122 rfl) (wK K 3 rfl) (wK K 123 rfl) (by decide) (na := 1) rfl (by decide +kernel) rfl (stk := [(.int c1)]) rfl (by decide +kernel) (V := 0) (lb rfl) (lb rfl) (lb rfl) (lb rfl) (lb rfl)
          refine oLift st129 ?_
          rw [e129] at W129 C129
          show OG _ _ _ _ _ _ _ _ _ _ _ (mkF m 173 #[sR a, sI vl, sR b, sI (Int32.ofNat U), sI 4, sI 0, sI 0, sU, sU] [(.int r129)])
          rcases Q129 with ⟨rfl, hq129⟩ | ⟨rfl, hq129⟩
          rotate_left
          · exact absurd hw122 hq129
          refine oIfT W129 (cd := .ne) (o := 6) (by decide +kernel) (XT.i0_ne_t (by decide)) (pc' := 179) (by decide) (by decide) ?_
          refine oGo W129 [.iload 4, .iconst 2] (by decide +kernel) (ls' := #[sR a, sI vl, sR b, sI (Int32.ofNat U), sI 4, sI 0, sI 0, sU, sU]) (st' := [(.int 2), (.int 4)]) rfl rfl (pc' := 182) rfl ?_
          refine oIcF W129 (cd := .le) (o := 15) (by decide +kernel) (XT.ii_le_f (by decide)) (pc' := 185) rfl ?_
          refine oGo W129 [.aload_n 0, .iconst 2] (by decide +kernel) (ls' := #[sR a, sI vl, sR b, sI (Int32.ofNat U), sI 4, sI 0, sI 0, sU, sU]) (st' := [(.int 2), (.ref a)]) rfl rfl (pc' := 187) rfl ?_
          refine oGet W129 A (v := (.int c2)) (by decide) rfl (Or.inl ⟨rfl, rfl⟩) (by decide +kernel) ?_
          obtain ⟨v130, T130, L130, h130, vm130, W130, ⟨r130, rfl, e130, Q130⟩, C130, st130⟩ := oCallS W129 (idx := 28) (pc := 188) (ls := #[sR a, sI vl, sR b, sI (Int32.ofNat U), sI 4, sI 0, sI 0, sU, sU]) (st := []) (argsL := [(.int c2)]) (c_ws K) (fun x hx => nomatch hx) (wK K 121 rfl) (wK K 122 rfl) (wK K 3 rfl) (wK K 123 rfl) (by decide) (na := 1) rfl (by decide +kernel) rfl (stk := [(.int c2)]) rfl (by decide +kernel) (V := 0) (lb rfl) (lb rfl) (lb rfl) (lb rfl) (lb rfl)
          refine oLift st130 ?_
          rw [e130] at W130 C130
          show OG _ _ _ _ _ _ _ _ _ _ _ (mkF m 191 #[sR a, sI vl, sR b, sI (Int32.ofNat U), sI 4, sI 0, sI 0, sU, sU] [(.int r130)])
          rcases Q130 with ⟨rfl, hq130⟩ | ⟨rfl, hq130⟩
          · exact absurd hq130 hw102
          refine oIfF W130 (cd := .ne) (o := 6) (by decide +kernel) (XT.i0_ne_f (by decide)) (pc' := 194) rfl ?_
          refine oGo W130 [.iconst 2, .istore 6] (by decide +kernel) (ls' := #[sR a, sI vl, sR b, sI (Int32.ofNat U), sI 4, sI 0, sI 2, sU, sU]) (st' := []) rfl rfl (pc' := 197) rfl ?_
          refine oGo W130 [.iload 4, .iconst 3] (by decide +kernel) (ls' := #[sR a, sI vl, sR b, sI (Int32.ofNat U), sI 4, sI 0, sI 2, sU, sU]) (st' := [(.int 3), (.int 4)]) rfl rfl (pc' := 200) rfl ?_
          refine oIcF W130 (cd := .le) (o := 15) (by decide +kernel) (XT.ii_le_f (by decide)) (pc' := 203) rfl ?_
          refine oGo W130 [.aload_n 0, .iconst 3] (by decide +kernel) (ls' := #[sR a, sI vl, sR b, sI (Int32.ofNat U), sI 4, sI 0, sI 2, sU, sU]) (st' := [(.int 3), (.ref a)]) rfl rfl (pc' := 205) rfl ?_
          refine oGet W130 A (v := (.int c3)) (by decide) rfl (Or.inl ⟨rfl, rfl⟩) (by decide +kernel) ?_
          obtain ⟨v131, T131, L131, h131, vm131, W131, ⟨r131, rfl, e131, Q131⟩, C131, st131⟩ := oCallS W130 (idx := 28) (pc := 206) (ls := #[sR a, sI vl, sR b, sI (Int32.ofNat U), sI 4, sI 0, sI 2, sU, sU]) (st := []) (argsL := [(.int c3)]) (c_ws K) (fun x hx => nomatch hx) (wK K 121 rfl) (wK K 122 rfl) (wK K 3 rfl) (wK K 123 rfl) (by decide) (na := 1) rfl (by decide +kernel) rfl (stk := [(.int c3)]) rfl (by decide +kernel) (V := 0) (lb rfl) (lb rfl) (lb rfl) (lb rfl) (lb rfl)
          refine oLift st131 ?_
          rw [e131] at W131 C131
          show OG _ _ _ _ _ _ _ _ _ _ _ (mkF m 209 #[sR a, sI vl, sR b, sI (Int32.ofNat U), sI 4, sI 0, sI 2, sU, sU] [(.int r131)])
          rcases Q131 with ⟨rfl, hq131⟩ | ⟨rfl, hq131⟩
          rotate_left
          · exact absurd hw101 hq131
          refine oIfT W131 (cd := .ne) (o := 6) (by decide +kernel) (XT.i0_ne_t (by decide)) (pc' := 215) (by decide) (by decide) ?_
          exact c_exp_c0_3 K hV hU W131 A B (by rw [he]; simp [strp, lw, rst, hw123, hw122, hw102, hw101])
      · refine oIfF W122 (cd := .ne) (o := 6) (by decide +kernel) (XT.i0_ne_f (by decide)) (pc' := 121) rfl ?_
        refine oGo W122 [.iconst 1, .istore 5] (by decide +kernel) (ls' := #[sR a, sI vl, sR b, sI (Int32.ofNat U), sI 4, sI 1, sU, sU, sU]) (st' := []) rfl rfl (pc' := 124) rfl ?_
        refine oGo W122 [.iload 4] (by decide +kernel) (ls' := #[sR a, sI vl, sR b, sI (Int32.ofNat U), sI 4, sI 1, sU, sU, sU]) (st' := [(.int 4)]) rfl rfl (pc' := 126) rfl ?_
        refine oIfF W122 (cd := .le) (o := 15) (by decide +kernel) (XT.i0_le_f (by decide)) (pc' := 129) rfl ?_
        refine oGo W122 [.aload_n 0, .iconst 0] (by decide +kernel) (ls' := #[sR a, sI vl, sR b, sI (Int32.ofNat U), sI 4, sI 1, sU, sU, sU]) (st' := [(.int 0), (.ref a)]) rfl rfl (pc' := 131) rfl ?_
        refine oGet W122 A (v := (.int c0)) (by decide) rfl (Or.inl ⟨rfl, rfl⟩) (by decide +kernel) ?_
        obtain ⟨v132, T132, L132, h132, vm132, W132, ⟨r132, rfl, e132, Q132⟩, C132, st132⟩ := oCallS W122 (idx := 28) (pc := 132) (ls := #[sR a, sI vl, sR b, sI (Int32.ofNat U), sI 4, sI 1, sU, sU, sU]) (st := []) (argsL := [(.int c0)]) (c_ws K) (fun x hx => nomatch hx) (wK K 121 rfl) (wK K 122 rfl) (wK K 3 rfl) (wK K 123 rfl) (by decide) (na := 1) rfl (by decide +kernel) rfl (stk := [(.int c0)]) rfl (by decide +kernel) (V := 0) (lb rfl) (lb rfl) (lb rfl) (lb rfl) (lb rfl)
        refine oLift st132 ?_
        rw [e132] at W132 C132
        show OG _ _ _ _ _ _ _ _ _ _ _ (mkF m 135 #[sR a, sI vl, sR b, sI (Int32.ofNat U), sI 4, sI 1, sU, sU, sU] [(.int r132)])
        rcases Q132 with ⟨rfl, hw132⟩ | ⟨rfl, hw132⟩
        · refine oIfT W132 (cd := .ne) (o := 6) (by decide +kernel) (XT.i0_ne_t (by decide)) (pc' := 141) (by decide) (by decide) ?_
          refine oGo W132 [.iconst (-1), .istore 6] (by decide +kernel) (ls' := #[sR a, sI vl, sR b, sI (Int32.ofNat U), sI 4, sI 1, sI (-1), sU, sU]) (st' := []) rfl rfl (pc' := 144) rfl ?_
          refine oGo W132 [.iload 4] (by decide +kernel) (ls' := #[sR a, sI vl, sR b, sI (Int32.ofNat U), sI 4, sI 1, sI (-1), sU, sU]) (st' := [(.int 4)]) rfl rfl (pc' := 146) rfl ?_
          refine oIfF W132 (cd := .le) (o := 15) (by decide +kernel) (XT.i0_le_f (by decide)) (pc' := 149) rfl ?_
          refine oGo W132 [.aload_n 0, .iconst 0] (by decide +kernel) (ls' := #[sR a, sI vl, sR b, sI (Int32.ofNat U), sI 4, sI 1, sI (-1), sU, sU]) (st' := [(.int 0), (.ref a)]) rfl rfl (pc' := 151) rfl ?_
          refine oGet W132 A (v := (.int c0)) (by decide) rfl (Or.inl ⟨rfl, rfl⟩) (by decide +kernel) ?_
          obtain ⟨v133, T133, L133, h133, vm133, W133, ⟨r133, rfl, e133, Q133⟩, C133, st133⟩ := oCallS W132 (idx := 28) (pc := 152) (ls := #[sR a, sI vl, sR b, sI (Int32.ofNat U), sI 4, sI 1, sI (-1), sU, sU]) (st := []) (argsL := [(.int c0)]) (c_ws K) (fun x hx => nomatch hx) (wK K 121 rfl) (wK K 122 rfl) (wK K 3 rfl) (wK K 123 rfl) (by decide) (na := 1) rfl (by decide +kernel) rfl (stk := [(.int c0)]) rfl (by decide +kernel) (V := 0) (lb rfl) (lb rfl) (lb rfl) (lb rfl) (lb rfl)
          refine oLift st133 ?_
          rw [e133] at W133 C133
          show OG _ _ _ _ _ _ _ _ _ _ _ (mkF m 155 #[sR a, sI vl, sR b, sI (Int32.ofNat U), sI 4, sI 1, sI (-1), sU, sU] [(.int r133)])
          rcases Q133 with ⟨rfl, hq133⟩ | ⟨rfl, hq133⟩
          rotate_left
          · exact absurd hw132 hq133
          refine oIfT W133 (cd := .ne) (o := 6) (by decide +kernel) (XT.i0_ne_t (by decide)) (pc' := 161) (by decide) (by decide) ?_
          refine oGo W133 [.iload 4, .iconst 1] (by decide +kernel) (ls' := #[sR a, sI vl, sR b, sI (Int32.ofNat U), sI 4, sI 1, sI (-1), sU, sU]) (st' := [(.int 1), (.int 4)]) rfl rfl (pc' := 164) rfl ?_
          refine oIcF W133 (cd := .le) (o := 15) (by decide +kernel) (XT.ii_le_f (by decide)) (pc' := 167) rfl ?_
          refine oGo W133 [.aload_n 0, .iconst 1] (by decide +kernel) (ls' := #[sR a, sI vl, sR b, sI (Int32.ofNat U), sI 4, sI 1, sI (-1), sU, sU]) (st' := [(.int 1), (.ref a)]) rfl rfl (pc' := 169) rfl ?_
          refine oGet W133 A (v := (.int c1)) (by decide) rfl (Or.inl ⟨rfl, rfl⟩) (by decide +kernel) ?_
          obtain ⟨v134, T134, L134, h134, vm134, W134, ⟨r134, rfl, e134, Q134⟩, C134, st134⟩ := oCallS W133 (idx := 28) (pc := 170) (ls := #[sR a, sI vl, sR b, sI (Int32.ofNat U), sI 4, sI 1, sI (-1), sU, sU]) (st := []) (argsL := [(.int c1)]) (c_ws K) (fun x hx => nomatch hx) (wK K 121 rfl) (wK K 122 rfl) (wK K 3 rfl) (wK K 123 rfl) (by decide) (na := 1) rfl (by decide +kernel) rfl (stk := [(.int c1)]) rfl (by decide +kernel) (V := 0) (lb rfl) (lb rfl) (lb rfl) (lb rfl) (lb rfl)
          refine oLift st134 ?_
          rw [e134] at W134 C134
          show OG _ _ _ _ _ _ _ _ _ _ _ (mkF m 173 #[sR a, sI vl, sR b, sI (Int32.ofNat U), sI 4, sI 1, sI (-1), sU, sU] [(.int r134)])
          rcases Q134 with ⟨rfl, hq134⟩ | ⟨rfl, hq134⟩
          · exact absurd hq134 hw122
          refine oIfF W134 (cd := .ne) (o := 6) (by decide +kernel) (XT.i0_ne_f (by decide)) (pc' := 176) rfl ?_
          refine oGo W134 [.iconst 1, .istore 6] (by decide +kernel) (ls' := #[sR a, sI vl, sR b, sI (Int32.ofNat U), sI 4, sI 1, sI 1, sU, sU]) (st' := []) rfl rfl (pc' := 179) rfl ?_
          refine oGo W134 [.iload 4, .iconst 2] (by decide +kernel) (ls' := #[sR a, sI vl, sR b, sI (Int32.ofNat U), sI 4, sI 1, sI 1, sU, sU]) (st' := [(.int 2), (.int 4)]) rfl rfl (pc' := 182) rfl ?_
          refine oIcF W134 (cd := .le) (o := 15) (by decide +kernel) (XT.ii_le_f (by decide)) (pc' := 185) rfl ?_
          refine oGo W134 [.aload_n 0, .iconst 2] (by decide +kernel) (ls' := #[sR a, sI vl, sR b, sI (Int32.ofNat U), sI 4, sI 1, sI 1, sU, sU]) (st' := [(.int 2), (.ref a)]) rfl rfl (pc' := 187) rfl ?_
          refine oGet W134 A (v := (.int c2)) (by decide) rfl (Or.inl ⟨rfl, rfl⟩) (by decide +kernel) ?_
          obtain ⟨v135, T135, L135, h135, vm135, W135, ⟨r135, rfl, e135, Q135⟩, C135, st135⟩ := oCallS W134 (idx := 28) (pc := 188) (ls := #[sR a, sI vl, sR b, sI (Int32.ofNat U), sI 4, sI 1, sI 1, sU, sU]) (st := []) (argsL := [(.int c2)]) (c_ws K) (fun x hx => nomatch hx) (wK K 121 rfl) (wK K 122 rfl) (wK K 3 rfl) (wK K 123 rfl) (by decide) (na := 1) rfl (by decide +kernel) rfl (stk := [(.int c2)]) rfl (by decide +kernel) (V := 0) (lb rfl) (lb rfl) (lb rfl) (lb rfl) (lb rfl)
          refine oLift st135 ?_
          rw [e135] at W135 C135
          show OG _ _ _ _ _ _ _ _ _ _ _ (mkF m 191 #[sR a, sI vl, sR b, sI (Int32.ofNat U), sI 4, sI 1, sI 1, sU, sU] [(.int r135)])
          rcases Q135 with ⟨rfl, hq135⟩ | ⟨rfl, hq135⟩
          · exact absurd hq135 hw102
          refine oIfF W135 (cd := .ne) (o := 6) (by decide +kernel) (XT.i0_ne_f (by decide)) (pc' := 194) rfl ?_
          refine oGo W135 [.iconst 2, .istore 6] (by decide +kernel) (ls' := #[sR a, sI vl, sR b, sI (Int32.ofNat U), sI 4, sI 1, sI 2, sU, sU]) (st' := []) rfl rfl (pc' := 197) rfl ?_
          refine oGo W135 [.iload 4, .iconst 3] (by decide +kernel) (ls' := #[sR a, sI vl, sR b, sI (Int32.ofNat U), sI 4, sI 1, sI 2, sU, sU]) (st' := [(.int 3), (.int 4)]) rfl rfl (pc' := 200) rfl ?_
          refine oIcF W135 (cd := .le) (o := 15) (by decide +kernel) (XT.ii_le_f (by decide)) (pc' := 203) rfl ?_
          refine oGo W135 [.aload_n 0, .iconst 3] (by decide +kernel) (ls' := #[sR a, sI vl, sR b, sI (Int32.ofNat U), sI 4, sI 1, sI 2, sU, sU]) (st' := [(.int 3), (.ref a)]) rfl rfl (pc' := 205) rfl ?_
          refine oGet W135 A (v := (.int c3)) (by decide) rfl (Or.inl ⟨rfl, rfl⟩) (by decide +kernel) ?_
          obtain ⟨v136, T136, L136, h136, vm136, W136, ⟨r136, rfl, e136, Q136⟩, C136, st136⟩ := oCallS W135 (idx := 28) (pc := 206) (ls := #[sR a, sI vl, sR b, sI (Int32.ofNat U), sI 4, sI 1, sI 2, sU, sU]) (st := []) (argsL := [(.int c3)]) (c_ws K) (fun x hx => nomatch hx) (wK K 121 rfl) (wK K 122 rfl) (wK K 3 rfl) (wK K 123 rfl) (by decide) (na := 1) rfl (by decide +kernel) rfl (stk := [(.int c3)]) rfl (by decide +kernel) (V := 0) (lb rfl) (lb rfl) (lb rfl) (lb rfl) (lb rfl)
          refine oLift st136 ?_
          rw [e136] at W136 C136
          show OG _ _ _ _ _ _ _ _ _ _ _ (mkF m 209 #[sR a, sI vl, sR b, sI (Int32.ofNat U), sI 4, sI 1, sI 2, sU, sU] [(.int r136)])
          rcases Q136 with ⟨rfl, hq136⟩ | ⟨rfl, hq136⟩
          rotate_left
          · exact absurd hw101 hq136
          refine oIfT W136 (cd := .ne) (o := 6) (by decide +kernel) (XT.i0_ne_t (by decide)) (pc' := 215) (by decide) (by decide) ?_
          exact c_exp_c1_3 K hV hU W136 A B (by rw [he]; simp [strp, lw, rst, hw132, hw122, hw102, hw101])
        · refine oIfF W132 (cd := .ne) (o := 6) (by decide +kernel) (XT.i0_ne_f (by decide)) (pc' := 138) rfl ?_
          refine oGo W132 [.iconst 0, .istore 5] (by decide +kernel) (ls' := #[sR a, sI vl, sR b, sI (Int32.ofNat U), sI 4, sI 0, sU, sU, sU]) (st' := []) rfl rfl (pc' := 141) rfl ?_
          refine oGo W132 [.iconst (-1), .istore 6] (by decide +kernel) (ls' := #[sR a, sI vl, sR b, sI (Int32.ofNat U), sI 4, sI 0, sI (-1), sU, sU]) (st' := []) rfl rfl (pc' := 144) rfl ?_
          refine oGo W132 [.iload 4] (by decide +kernel) (ls' := #[sR a, sI vl, sR b, sI (Int32.ofNat U), sI 4, sI 0, sI (-1), sU, sU]) (st' := [(.int 4)]) rfl rfl (pc' := 146) rfl ?_
          refine oIfF W132 (cd := .le) (o := 15) (by decide +kernel) (XT.i0_le_f (by decide)) (pc' := 149) rfl ?_
          refine oGo W132 [.aload_n 0, .iconst 0] (by decide +kernel) (ls' := #[sR a, sI vl, sR b, sI (Int32.ofNat U), sI 4, sI 0, sI (-1), sU, sU]) (st' := [(.int 0), (.ref a)]) rfl rfl (pc' := 151) rfl ?_
          refine oGet W132 A (v := (.int c0)) (by decide) rfl (Or.inl ⟨rfl, rfl⟩) (by decide +kernel) ?_
          obtain ⟨v137, T137, L137, h137, vm137, W137, ⟨r137, rfl, e137, Q137⟩, C137, st137⟩ := oCallS W132 (idx := 28) (pc := 152) (ls := #[sR a, sI vl, sR b, sI (Int32.ofNat U), sI 4, sI 0, sI (-1), sU, sU]) (st := []) (argsL := [(.int c0)]) (c_ws K) (fun x hx => nomatch hx) (wK K 121 rfl) (wK K 122 rfl) (wK K 3 rfl) (wK K 123 rfl) (by decide) (na := 1) rfl (by decide +kernel) rfl (stk := [(.int c0)]) rfl (by decide +kernel) (V := 0) (lb rfl) (lb rfl) (lb rfl) (lb rfl) (lb rfl)
          refine oLift st137 ?_
          rw [e137] at W137 C137
          show OG _ _ _ _ _ _ _ _ _ _ _ (mkF m 155 #[sR a, sI vl, sR b, sI (Int32.ofNat U), sI 4, sI 0, sI (-1), sU, sU] [(.int r137)])
          rcases Q137 with ⟨rfl, hq137⟩ | ⟨rfl, hq137⟩
          · exact absurd hq137 hw132
          refine oIfF W137 (cd := .ne) (o := 6) (by decide +kernel) (XT.i0_ne_f (by decide)) (pc' := 158) rfl ?_
          refine oGo W137 [.iconst 0, .istore 6] (by decide +kernel) (ls' := #[sR a, sI vl, sR b, sI (Int32.ofNat U), sI 4, sI 0, sI 0, sU, sU]) (st' := []) rfl rfl (pc' := 161) rfl ?_
          refine oGo W137 [.iload 4, .iconst 1] (by decide +kernel) (ls' := #[sR a, sI vl, sR b, sI (Int32.ofNat U), sI 4, sI 0, sI 0, sU, sU]) (st' := [(.int 1), (.int 4)]) rfl rfl (pc' := 164) rfl ?_
          refine oIcF W137 (cd := .le) (o := 15) (by decide +kernel) (XT.ii_le_f (by decide)) (pc' := 167) rfl ?_
          refine oGo W137 [.aload_n 0, .iconst 1] (by decide +kernel) (ls' := #[sR a, sI vl, sR b, sI (Int32.ofNat U), sI 4, sI 0, sI 0, sU, sU]) (st' := [(.int 1), (.ref a)]) rfl rfl (pc' := 169) rfl ?_
          refine oGet W137 A (v := (.int c1)) (by decide) rfl (Or.inl ⟨rfl, rfl⟩) (by decide +kernel) ?_
          obtain ⟨v138, T138, L138, h138, vm138, W138, ⟨r138, rfl, e138, Q138⟩, C138, st138⟩ := oCallS W137 (idx := 28) (pc := 170) (ls := #[sR a, sI vl, sR b, sI (Int32.ofNat U), sI 4, sI 0, sI 0, sU, sU]) (st := []) (argsL := [(.int c1)]) (c_ws K) (fun x hx => nomatch hx) (wK K 121 rfl) (wK K 122 rfl) (wK K 3 rfl) (wK K 123 rfl) (by decide) (na := 1) rfl (by decide +kernel) rfl (stk := [(.int c1)]) rfl (by decide +kernel) (V := 0) (lb rfl) (lb rfl) (lb rfl) (lb rfl) (lb rfl)
          refine oLift st138 ?_
          rw [e138] at W138 C138
          show OG _ _ _ _ _ _ _ _ _ _ _ (mkF m 173 #[sR a, sI vl, sR b, sI (Int32.ofNat U), sI 4, sI 0, sI 0, sU, sU] [(.int r138)])
          rcases Q138 with ⟨rfl, hq138⟩ | ⟨rfl, hq138⟩
          · exact absurd hq138 hw122
          refine oIfF W138 (cd := .ne) (o := 6) (by decide +kernel) (XT.i0_ne_f (by decide)) (pc' := 176) rfl ?_
          refine oGo W138 [.iconst 1, .istore 6] (by decide +kernel) (ls' := #[sR a, sI vl, sR b, sI (Int32.ofNat U), sI 4, sI 0, sI 1, sU, sU]) (st' := []) rfl rfl (pc' := 179) rfl ?_
          refine oGo W138 [.iload 4, .iconst 2] (by decide +kernel) (ls' := #[sR a, sI vl, sR b, sI (Int32.ofNat U), sI 4, sI 0, sI 1, sU, sU]) (st' := [(.int 2), (.int 4)]) rfl rfl (pc' := 182) rfl ?_
          refine oIcF W138 (cd := .le) (o := 15) (by decide +kernel) (XT.ii_le_f (by decide)) (pc' := 185) rfl ?_
          refine oGo W138 [.aload_n 0, .iconst 2] (by decide +kernel) (ls' := #[sR a, sI vl, sR b, sI (Int32.ofNat U), sI 4, sI 0, sI 1, sU, sU]) (st' := [(.int 2), (.ref a)]) rfl rfl (pc' := 187) rfl ?_
          refine oGet W138 A (v := (.int c2)) (by decide) rfl (Or.inl ⟨rfl, rfl⟩) (by decide +kernel) ?_
          obtain ⟨v139, T139, L139, h139, vm139, W139, ⟨r139, rfl, e139, Q139⟩, C139, st139⟩ := oCallS W138 (idx := 28) (pc := 188) (ls := #[sR a, sI vl, sR b, sI (Int32.ofNat U), sI 4, sI 0, sI 1, sU, sU]) (st := []) (argsL := [(.int c2)]) (c_ws K) (fun x hx => nomatch hx) (wK K 121 rfl) (wK K 122 rfl) (wK K 3 rfl) (wK K 123 rfl) (by decide) (na := 1) rfl (by decide +kernel) rfl (stk := [(.int c2)]) rfl (by decide +kernel) (V := 0) (lb rfl) (lb rfl) (lb rfl) (lb rfl) (lb rfl)
          refine oLift st139 ?_
          rw [e139] at W139 C139
          show OG _ _ _ _ _ _ _ _ _ _ _ (mkF m 191 #[sR a, sI vl, sR b, sI (Int32.ofNat U), sI 4, sI 0, sI 1, sU, sU] [(.int r139)])
          rcases Q139 with ⟨rfl, hq139⟩ | ⟨rfl, hq139⟩
          · exact absurd hq139 hw102
          refine oIfF W139 (cd := .ne) (o := 6) (by decide +kernel) (XT.i0_ne_f (by decide)) (pc' := 194) rfl ?_
          refine oGo W139 [.iconst 2, .istore 6] (by decide +kernel) (ls' := #[sR a, sI vl, sR b, sI (Int32.ofNat U), sI 4, sI 0, sI 2, sU, sU]) (st' := []) rfl rfl (pc' := 197) rfl ?_
          refine oGo W139 [.iload 4, .iconst 3] (by decide +kernel) (ls' := #[sR a, sI vl, sR b, sI (Int32.ofNat U), sI 4, sI 0, sI 2, sU, sU]) (st' := [(.int 3), (.int 4)]) rfl rfl (pc' := 200) rfl ?_
          refine oIcF W139 (cd := .le) (o := 15) (by decide +kernel) (XT.ii_le_f (by decide)) (pc' := 203) rfl ?_
          refine oGo W139 [.aload_n 0, .iconst 3] (by decide +kernel) (ls' := #[sR a, sI vl, sR b, sI (Int32.ofNat U), sI 4, sI 0, sI 2, sU, sU]) (st' := [(.int 3), (.ref a)]) rfl rfl (pc' := 205) rfl ?_
          refine oGet W139 A (v := (.int c3)) (by decide) rfl (Or.inl ⟨rfl, rfl⟩) (by decide +kernel) ?_
          obtain ⟨v140, T140, L140, h140, vm140, W140, ⟨r140, rfl, e140, Q140⟩, C140, st140⟩ := oCallS W139 (idx := 28) (pc := 206) (ls := #[sR a, sI vl, sR b, sI (Int32.ofNat U), sI 4, sI 0, sI 2, sU, sU]) (st := []) (argsL := [(.int c3)]) (c_ws K) (fun x hx => nomatch hx) (wK K 121 rfl) (wK K 122 rfl) (wK K 3 rfl) (wK K 123 rfl) (by decide) (na := 1) rfl (by decide +kernel) rfl (stk := [(.int c3)]) rfl (by decide +kernel) (V := 0) (lb rfl) (lb rfl) (lb rfl) (lb rfl) (lb rfl)
          refine oLift st140 ?_
          rw [e140] at W140 C140
          show OG _ _ _ _ _ _ _ _ _ _ _ (mkF m 209 #[sR a, sI vl, sR b, sI (Int32.ofNat U), sI 4, sI 0, sI 2, sU, sU] [(.int r140)])
          rcases Q140 with ⟨rfl, hq140⟩ | ⟨rfl, hq140⟩
          rotate_left
          · exact absurd hw101 hq140
          refine oIfT W140 (cd := .ne) (o := 6) (by decide +kernel) (XT.i0_ne_t (by decide)) (pc' := 215) (by decide) (by decide) ?_
          exact c_exp_c0_3 K hV hU W140 A B (by rw [he]; simp [strp, lw, rst, hw132, hw122, hw102, hw101])
  · refine oIfF W101 (cd := .ne) (o := 6) (by decide +kernel) (XT.i0_ne_f (by decide)) (pc' := 85) rfl ?_
    refine oGo W101 [.iconst 3, .istore 5] (by decide +kernel) (ls' := #[sR a, sI vl, sR b, sI (Int32.ofNat U), sI 4, sI 3, sU, sU, sU]) (st' := []) rfl rfl (pc' := 88) rfl ?_
    refine oGo W101 [.iload 4, .iconst 2] (by decide +kernel) (ls' := #[sR a, sI vl, sR b, sI (Int32.ofNat U), sI 4, sI 3, sU, sU, sU]) (st' := [(.int 2), (.int 4)]) rfl rfl (pc' := 91) rfl ?_
    refine oIcF W101 (cd := .le) (o := 15) (by decide +kernel) (XT.ii_le_f (by decide)) (pc' := 94) rfl ?_
    refine oGo W101 [.aload_n 0, .iconst 2] (by decide +kernel) (ls' := #[sR a, sI vl, sR b, sI (Int32.ofNat U), sI 4, sI 3, sU, sU, sU]) (st' := [(.int 2), (.ref a)]) rfl rfl (pc' := 96) rfl ?_
    refine oGet W101 A (v := (.int c2)) (by decide) rfl (Or.inl ⟨rfl, rfl⟩) (by decide +kernel) ?_
    obtain ⟨v141, T141, L141, h141, vm141, W141, ⟨r141, rfl, e141, Q141⟩, C141, st141⟩ := oCallS W101 (idx := 28) (pc := 97) (ls := #[sR a, sI vl, sR b, sI (Int32.ofNat U), sI 4, sI 3, sU, sU, sU]) (st := []) (argsL := [(.int c2)]) (c_ws K) (fun x hx => nomatch hx) (wK K 121 rfl) (wK K 122 rfl) (wK K 3 rfl) (wK K 123 rfl) (by decide) (na := 1) rfl (by decide +kernel) rfl (stk := [(.int c2)]) rfl (by decide +kernel) (V := 0) (lb rfl) (lb rfl) (lb rfl) (lb rfl) (lb rfl)
    refine oLift st141 ?_
    rw [e141] at W141 C141
    show OG _ _ _ _ _ _ _ _ _ _ _ (mkF m 100 #[sR a, sI vl, sR b, sI (Int32.ofNat U), sI 4, sI 3, sU, sU, sU] [(.int r141)])
    rcases Q141 with ⟨rfl, hw141⟩ | ⟨rfl, hw141⟩
    · refine oIfT W141 (cd := .ne) (o := 6) (by decide +kernel) (XT.i0_ne_t (by decide)) (pc' := 106) (by decide) (by decide) ?_
      refine oGo W141 [.iload 4, .iconst 1] (by decide +kernel) (ls' := #[sR a, sI vl, sR b, sI (Int32.ofNat U), sI 4, sI 3, sU, sU, sU]) (st' := [(.int 1), (.int 4)]) rfl rfl (pc' := 109) rfl ?_
      refine oIcF W141 (cd := .le) (o := 15) (by decide +kernel) (XT.ii_le_f (by decide)) (pc' := 112) rfl ?_
      refine oGo W141 [.aload_n 0, .iconst 1] (by decide +kernel) (ls' := #[sR a, sI vl, sR b, sI (Int32.ofNat U), sI 4, sI 3, sU, sU, sU]) (st' := [(.int 1), (.ref a)]) rfl rfl (pc' := 114) rfl ?_
      refine oGet W141 A (v := (.int c1)) (by decide) rfl (Or.inl ⟨rfl, rfl⟩) (by decide +kernel) ?_
      obtain ⟨v142, T142, L142, h142, vm142, W142, ⟨r142, rfl, e142, Q142⟩, C142, st142⟩ := oCallS W141 (idx := 28) (pc := 115) (ls := #[sR a, sI vl, sR b, sI (Int32.ofNat U), sI 4, sI 3, sU, sU, sU]) (st := []) (argsL := [(.int c1)]) (c_ws K) (fun x hx => nomatch hx) (wK K 121 rfl) (wK K 122 rfl) (wK K 3 rfl) (wK K 123 rfl) (by decide) (na := 1) rfl (by decide +kernel) rfl (stk := [(.int c1)]) rfl (by decide +kernel) (V := 0) (lb rfl) (lb rfl) (lb rfl) (lb rfl) (lb rfl)
      refine oLift st142 ?_
      rw [e142] at W142 C142
      show OG _ _ _ _ _ _ _ _ _ _ _ (mkF m 118 #[sR a, sI vl, sR b, sI (Int32.ofNat U), sI 4, sI 3, sU, sU, sU] [(.int r142)])
      rcases Q142 with ⟨rfl, hw142⟩ | ⟨rfl, hw142⟩
      · refine oIfT W142 (cd := .ne) (o := 6) (by decide +kernel) (XT.i0_ne_t (by decide)) (pc' := 124) (by decide) (by decide) ?_
        refine oGo W142 [.iload 4] (by decide +kernel) (ls' := #[sR a, sI vl, sR b, sI (Int32.ofNat U), sI 4, sI 3, sU, sU, sU]) (st' := [(.int 4)]) rfl rfl (pc' := 126) rfl ?_
        refine oIfF W142 (cd := .le) (o := 15) (by decide +kernel) (XT.i0_le_f (by decide)) (pc' := 129) rfl ?_
        refine oGo W142 [.aload_n 0, .iconst 0] (by decide +kernel) (ls' := #[sR a, sI vl, sR b, sI (Int32.ofNat U), sI 4, sI 3, sU, sU, sU]) (st' := [(.int 0), (.ref a)]) rfl rfl (pc' := 131) rfl ?_
        refine oGet W142 A (v := (.int c0)) (by decide) rfl (Or.inl ⟨rfl, rfl⟩) (by decide +kernel) ?_
        obtain ⟨v143, T143, L143, h143, vm143, W143, ⟨r143, rfl, e143, Q143⟩, C143, st143⟩ := oCallS W142 (idx := 28) (pc := 132) (ls := #[sR a, sI vl, sR b, sI (Int32.ofNat U), sI 4, sI 3, sU, sU, sU]) (st := []) (argsL := [(.int c0)]) (c_ws K) (fun x hx => nomatch hx) (wK K 121 rfl) (wK K 122 rfl) (wK K 3 rfl) (wK K 123 rfl) (by decide) (na := 1) rfl (by decide +kernel) rfl (stk := [(.int c0)]) rfl (by decide +kernel) (V := 0) (lb rfl) (lb rfl) (lb rfl) (lb rfl) (lb rfl)
        refine oLift st143 ?_
        rw [e143] at W143 C143
        show OG _ _ _ _ _ _ _ _ _ _ _ (mkF m 135 #[sR a, sI vl, sR b, sI (Int32.ofNat U), sI 4, sI 3, sU, sU, sU] [(.int r143)])
        rcases Q143 with ⟨rfl, hw143⟩ | ⟨rfl, hw143⟩
        · refine oIfT W143 (cd := .ne) (o := 6) (by decide +kernel) (XT.i0_ne_t (by decide)) (pc' := 141) (by decide) (by decide) ?_
          refine oGo W143 [.iconst (-1), .istore 6] (by decide +kernel) (ls' := #[sR a, sI vl, sR b, sI (Int32.ofNat U), sI 4, sI 3, sI (-1), sU, sU]) (st' := []) rfl rfl (pc' := 144) rfl ?_
          refine oGo W143 [.iload 4] (by decide +kernel) (ls' := #[sR a, sI vl, sR b, sI (Int32.ofNat U), sI 4, sI 3, sI (-1), sU, sU]) (st' := [(.int 4)]) rfl rfl (pc' := 146) rfl ?_
          refine oIfF W143 (cd := .le) (o := 15) (by decide +kernel) (XT.i0_le_f (by decide)) (pc' := 149) rfl ?_
          refine oGo W143 [.aload_n 0, .iconst 0] (by decide +kernel) (ls' := #[sR a, sI vl, sR b, sI (Int32.ofNat U), sI 4, sI 3, sI (-1), sU, sU]) (st' := [(.int 0), (.ref a)]) rfl rfl (pc' := 151) rfl ?_
          refine oGet W143 A (v := (.int c0)) (by decide) rfl (Or.inl ⟨rfl, rfl⟩) (by decide +kernel) ?_
          obtain ⟨v144, T144, L144, h144, vm144, W144, ⟨r144, rfl, e144, Q144⟩, C144, st144⟩ := oCallS W143 (idx := 28) (pc := 152) (ls := #[sR a, sI vl, sR b, sI (Int32.ofNat U), sI 4, sI 3, sI (-1), sU, sU]) (st := []) (argsL := [(.int c0)]) (c_ws K) (fun x hx => nomatch hx) (wK K 121 rfl) (wK K 122 rfl) (wK K 3 rfl) (wK K 123 rfl) (by decide) (na := 1) rfl (by decide +kernel) rfl (stk := [(.int c0)]) rfl (by decide +kernel) (V := 0) (lb rfl) (lb rfl) (lb rfl) (lb rfl) (lb rfl)
          refine oLift st144 ?_
          rw [e144] at W144 C144
          show OG _ _ _ _ _ _ _ _ _ _ _ (mkF m 155 #[sR a, sI vl, sR b, sI (Int32.ofNat U), sI 4, sI 3, sI (-1), sU, sU] [(.int r144)])
          rcases Q144 with ⟨rfl, hq144⟩ | ⟨rfl, hq144⟩
          rotate_left
          · exact absurd hw143 hq144
          refine oIfT W144 (cd := .ne) (o := 6) (by decide +kernel) (XT.i0_ne_t (by decide)) (pc' := 161) (by decide) (by decide) ?_
          refine oGo W144 [.iload 4, .iconst 1] (by decide +kernel) (ls' := #[sR a, sI vl, sR b, sI (Int32.ofNat U), sI 4, sI 3, sI (-1), sU, sU]) (st' := [(.int 1), (.int 4)]) rfl rfl (pc' := 164) rfl ?_
          refine oIcF W144 (cd := .le) (o := 15) (by decide +kernel) (XT.ii_le_f (by decide)) (pc' := 167) rfl ?_
          refine oGo W144 [.aload_n 0, .iconst 1] (by decide +kernel) (ls' := #[sR a, sI vl, sR b, sI (Int32.ofNat U), sI 4, sI 3, sI (-1), sU, sU]) (st' := [(.int 1), (.ref a)]) rfl rfl (pc' := 169) rfl ?_
          refine oGet W144 A (v := (.int c1)) (by decide) rfl (Or.inl ⟨rfl, rfl⟩) (by decide +kernel) ?_
          obtain ⟨v145, T145, L145, h145, vm145, W145, ⟨r145, rfl, e145, Q145⟩, C145, st145⟩ := oCallS W144 (idx := 28) (pc := 170) (ls := #[sR a, sI vl, sR b, sI (Int32.ofNat U), sI 4, sI 3, sI (-1), sU, sU]) (st := []) (argsL := [(.int c1)]) (c_ws K) (fun x hx => nomatch hx) (wK K 121 rfl) (wK K 122 rfl) (wK K 3 rfl) (wK K 123 rfl) (by decide) (na := 1) rfl (by decide +kernel) rfl (stk := [(.int c1)]) rfl (by decide +kernel) (V := 0) (lb rfl) (lb rfl) (lb rfl) (lb rfl) (lb rfl)
          refine oLift st145 ?_
          rw [e145] at W145 C145
          show OG _ _ _ _ _ _ _ _ _ _ _ (mkF m 173 #[sR a, sI vl, sR b, sI (Int32.ofNat U), sI 4, sI 3, sI (-1), sU, sU] [(.int r145)])
          rcases Q145 with ⟨rfl, hq145⟩ | ⟨rfl, hq145⟩
          rotate_left
          · exact absurd hw142 hq145
          refine oIfT W145 (cd := .ne) (o := 6) (by decide +kernel) (XT.i0_ne_t (by decide)) (pc' := 179) (by decide) (by decide) ?_
          refine oGo W145 [.iload 4, .iconst 2] (by decide +kernel) (ls' := #[sR a, sI vl, sR b, sI (Int32.ofNat U), sI 4, sI 3, sI (-1), sU, sU]) (st' := [(.int 2), (.int 4)]) rfl rfl (pc' := 182) rfl ?_
          refine oIcF W145 (cd := .le) (o := 15) (by decide +kernel) (XT.ii_le_f (by decide)) (pc' := 185) rfl ?_
          refine oGo W145 [.aload_n 0, .iconst 2] (by decide +kernel) (ls' := #[sR a, sI vl, sR b, sI (Int32.ofNat U), sI 4, sI 3, sI (-1), sU, sU]) (st' := [(.int 2), (.ref a)]) rfl rfl (pc' := 187) rfl ?_
          refine oGet W145 A (v := (.int c2)) (by decide) rfl (Or.inl ⟨rfl, rfl⟩) (by decide +kernel) ?_
          obtain ⟨v146, T146, L146, h146, vm146, W146, ⟨r146, rfl, e146, Q146⟩, C146, st146⟩ := oCallS W145 (idx := 28) (pc := 188) (ls := #[sR a, sI vl, sR b, sI (Int32.ofNat U), sI 4, sI 3, sI (-1), sU, sU]) (st := []) (argsL := [(.int c2)]) (c_ws K) (fun x hx => nomatch hx) (wK K 121 rfl) (wK K 122 rfl) (wK K 3 rfl) (wK K 123 rfl) (by decide) (na := 1) rfl (by decide +kernel) rfl (stk := [(.int c2)]) rfl (by decide +kernel) (V := 0) (lb rfl) (lb rfl) (lb rfl) (lb rfl) (lb rfl)
          refine oLift st146 ?_
          rw [e146] at W146 C146
          show OG _ _ _ _ _ _ _ _ _ _ _ (mkF m 191 #[sR a, sI vl, sR b, sI (Int32.ofNat U), sI 4, sI 3, sI (-1), sU, sU] [(.int r146)])
          rcases Q146 with ⟨rfl, hq146⟩ | ⟨rfl, hq146⟩
          rotate_left
          · exact absurd hw141 hq146
          refine oIfT W146 (cd := .ne) (o := 6) (by decide +kernel) (XT.i0_ne_t (by decide)) (pc' := 197) (by decide) (by decide) ?_
          refine oGo W146 [.iload 4, .iconst 3] (by decide +kernel) (ls' := #[sR a, sI vl, sR b, sI (Int32.ofNat U), sI 4, sI 3, sI (-1), sU, sU]) (st' := [(.int 3), (.int 4)]) rfl rfl (pc' := 200) rfl ?_
          refine oIcF W146 (cd := .le) (o := 15) (by decide +kernel) (XT.ii_le_f (by decide)) (pc' := 203) rfl ?_
          refine oGo W146 [.aload_n 0, .iconst 3] (by decide +kernel) (ls' := #[sR a, sI vl, sR b, sI (Int32.ofNat U), sI 4, sI 3, sI (-1), sU, sU]) (st' := [(.int 3), (.ref a)]) rfl rfl (pc' := 205) rfl ?_
          refine oGet W146 A (v := (.int c3)) (by decide) rfl (Or.inl ⟨rfl, rfl⟩) (by decide +kernel) ?_
          obtain ⟨v147, T147, L147, h147, vm147, W147, ⟨r147, rfl, e147, Q147⟩, C147, st147⟩ := oCallS W146 (idx := 28) (pc := 206) (ls := #[sR a, sI vl, sR b, sI (Int32.ofNat U), sI 4, sI 3, sI (-1), sU, sU]) (st := []) (argsL := [(.int c3)]) (c_ws K) (fun x hx => nomatch hx) (wK K 121 rfl) (wK K 122 rfl) (wK K 3 rfl) (wK K 123 rfl) (by decide) (na := 1) rfl (by decide +kernel) rfl (stk := [(.int c3)]) rfl (by decide +kernel) (V := 0) (lb rfl) (lb rfl) (lb rfl) (lb rfl) (lb rfl)
          refine oLift st147 ?_
          rw [e147] at W147 C147
          show OG _ _ _ _ _ _ _ _ _ _ _ (mkF m 209 #[sR a, sI vl, sR b, sI (Int32.ofNat U), sI 4, sI 3, sI (-1), sU, sU] [(.int r147)])
          rcases Q147 with ⟨rfl, hq147⟩ | ⟨rfl, hq147⟩
          · exact absurd hq147 hw101
          refine oIfF W147 (cd := .ne) (o := 6) (by decide +kernel) (XT.i0_ne_f (by decide)) (pc' := 212) rfl ?_
          refine oGo W147 [.iconst 3, .istore 6] (by decide +kernel) (ls' := #[sR a, sI vl, sR b, sI (Int32.ofNat U), sI 4, sI 3, sI 3, sU, sU]) (st' := []) rfl rfl (pc' := 215) rfl ?_
          exact c_exp_c3_4 K hV hU W147 A B (by rw [he]; simp [strp, lw, rst, hw143, hw142, hw141, hw101])
        · refine oIfF W143 (cd := .ne) (o := 6) (by decide +kernel) (XT.i0_ne_f (by decide)) (pc' := 138) rfl ?_
          refine oGo W143 [.iconst 0, .istore 5] (by decide +kernel) (ls' := #[sR a, sI vl, sR b, sI (Int32.ofNat U), sI 4, sI 0, sU, sU, sU]) (st' := []) rfl rfl (pc' := 141) rfl ?_
          refine oGo W143 [.iconst (-1), .istore 6] (by decide +kernel) (ls' := #[sR a, sI vl, sR b, sI (Int32.ofNat U), sI 4, sI 0, sI (-1), sU, sU]) (st' := []) rfl rfl (pc' := 144) rfl ?_
          refine oGo W143 [.iload 4] (by decide +kernel) (ls' := #[sR a, sI vl, sR b, sI (Int32.ofNat U), sI 4, sI 0, sI (-1), sU, sU]) (st' := [(.int 4)]) rfl rfl (pc' := 146) rfl ?_
          refine oIfF W143 (cd := .le) (o := 15) (by decide +kernel) (XT.i0_le_f (by decide)) (pc' := 149) rfl ?_
          refine oGo W143 [.aload_n 0, .iconst 0] (by decide +kernel) (ls' := #[sR a, sI vl, sR b, sI (Int32.ofNat U), sI 4, sI 0, sI (-1), sU, sU]) (st' := [(.int 0), (.ref a)]) rfl rfl (pc' := 151) rfl ?_
          refine oGet W143 A (v := (.int c0)) (by decide) rfl (Or.inl ⟨rfl, rfl⟩) (by decide +kernel) ?_
          obtain ⟨v148, T148, L148, h148, vm148, W148, ⟨r148, rfl, e148, Q148⟩, C148, st148⟩ := oCallS W143 (idx := 28) (pc := 152) (ls := #[sR a, sI vl, sR b, sI (Int32.ofNat U), sI 4, sI 0, sI (-1), sU, sU]) (st := []) (argsL := [(.int c0)]) (c_ws K) (fun x hx => nomatch hx) (wK K 121 rfl) (wK K 122 rfl) (wK K 3 rfl) (wK K 123 rfl) (by decide) (na := 1) rfl (by decide +kernel) rfl (stk := [(.int c0)]) rfl (by decide +kernel) (V := 0) (lb rfl) (lb rfl) (lb rfl) (lb rfl) (lb rfl)
          refine oLift st148 ?_
          rw [e148] at W148 C148
          show OG _ _ _ _ _ _ _ _ _ _ _ (mkF m 155 #[sR a, sI vl, sR b, sI (Int32.ofNat U), sI 4, sI 0, sI (-1), sU, sU] [(.int r148)])
          rcases Q148 with ⟨rfl, hq148⟩ | ⟨rfl, hq148⟩
          · exact absurd hq148 hw143
          refine oIfF W148 (cd := .ne) (o := 6) (by decide +kernel) (XT.i0_ne_f (by decide)) (pc' := 158) rfl ?_
          refine oGo W148 [.iconst 0, .istore 6] (by decide +kernel) (ls' := #[sR a, sI vl, sR b, sI (Int32.ofNat U), sI 4, sI 0, sI 0, sU, sU]) (st' := []) rfl rfl (pc' := 161) rfl ?_
          refine oGo W148 [.iload 4, .iconst 1] (by decide +kernel) (ls' := #[sR a, sI vl, sR b, sI (Int32.ofNat U), sI 4, sI 0, sI 0, sU, sU]) (st' := [(.int 1), (.int 4)]) rfl rfl (pc' := 164) rfl ?_
          refine oIcF W148 (cd := .le) (o := 15) (by decide +kernel) (XT.ii_le_f (by decide)) (pc' := 167) rfl ?_
          refine oGo W148 [.aload_n 0, .iconst 1] (by decide +kernel) (ls' := #[sR a, sI vl, sR b, sI (Int32.ofNat U), sI 4, sI 0, sI 0, sU, sU]) (st' := [(.int 1), (.ref a)]) rfl rfl (pc' := 169) rfl ?_
          refine oGet W148 A (v := (.int c1)) (by decide) rfl (Or.inl ⟨rfl, rfl⟩) (by decide +kernel) ?_
          obtain ⟨v149, T149, L149, h149, vm149, W149, ⟨r149, rfl, e149, Q149⟩, C149, st149⟩ := oCallS W148 (idx := 28) (pc := 170) (ls := #[sR a, sI vl, sR b, sI (Int32.ofNat U), sI 4, sI 0, sI 0, sU, sU]) (st := []) (argsL := [(.int c1)]) (c_ws K) (fun x hx => nomatch hx) (wK K 121 rfl) (wK K 122 rfl) (wK K 3 rfl) (wK K 123 rfl) (by decide) (na := 1) rfl (by decide +kernel) rfl (stk := [(.int c1)]) rfl (by decide +kernel) (V := 0) (lb rfl) (lb rfl) (lb rfl) (lb rfl) (lb rfl)
          refine oLift st149 ?_
          rw [e149] at W149 C149
          show OG _ _ _ _ _ _ _ _ _ _ _ (mkF m 173 #[sR a, sI vl, sR b, sI (Int32.ofNat U), sI 4, sI 0, sI 0, sU, sU] [(.int r149)])
          rcases Q149 with ⟨rfl, hq149⟩ | ⟨rfl, hq149⟩
          rotate_left
          · exact absurd hw142 hq149
          refine oIfT W149 (cd := .ne) (o := 6) (by decide +kernel) (XT.i0_ne_t (by decide)) (pc' := 179) (by decide) (by decide) ?_
          refine oGo W149 [.iload 4, .iconst 2] (by decide +kernel) (ls' := #[sR a, sI vl, sR b, sI (Int32.ofNat U), sI 4, sI 0, sI 0, sU, sU]) (st' := [(.int 2), (.int 4)]) rfl rfl (pc' := 182) rfl ?_
          refine oIcF W149 (cd := .le) (o := 15) (by decide +kernel) (XT.ii_le_f (by decide)) (pc' := 185) rfl ?_
          refine oGo W149 [.aload_n 0, .iconst 2] (by decide +kernel) (ls' := #[sR a, sI vl, sR b, sI (Int32.ofNat U), sI 4, sI 0, sI 0, sU, sU]) (st' := [(.int 2), (.ref a)]) rfl rfl (pc' := 187) rfl ?_
          refine oGet W149 A (v := (.int c2)) (by decide) rfl (Or.inl ⟨rfl, rfl⟩) (by decide +kernel) ?_
          obtain ⟨v150, T150, L150, h150, vm150, W150, ⟨r150, rfl, e150, Q150⟩, C150, st150⟩ := oCallS W149 (idx := 28) (pc := 188) (ls := #[sR a, sI vl, sR b, sI (Int32.ofNat U), sI 4, sI 0, sI 0, sU, sU]) (st := []) (argsL := [(.int c2)]) (c_ws K) (fun x hx => nomatch hx) (wK K 121 rfl) (wK K 122 rfl) (wK K 3 rfl) (wK K 123 rfl) (by decide) (na := 1) rfl (by decide +kernel) rfl (stk := [(.int c2)]) rfl (by decide +kernel) (V := 0) (lb rfl) (lb rfl) (lb rfl) (lb rfl) (lb rfl)
          refine oLift st150 ?_
          rw [e150] at W150 C150
          show OG _ _ _ _ _ _ _ _ _ _ _ (mkF m 191 #[sR a, sI vl, sR b, sI (Int32.ofNat U), sI 4, sI 0, sI 0, sU, sU] [(.int r150)])
          rcases Q150 with ⟨rfl, hq150⟩ | ⟨rfl, hq150⟩
          rotate_left
          · exact absurd hw141 hq150
          refine oIfT W150 (cd := .ne) (o := 6) (by decide +kernel) (XT.i0_ne_t (by decide)) (pc' := 197) (by decide) (by decide) ?_
          refine oGo W150 [.iload 4, .iconst 3] (by decide +kernel) (ls' := #[sR a, sI vl, sR b, sI (Int32.ofNat U), sI 4, sI 0, sI 0, sU, sU]) (st' := [(.int 3), (.int 4)]) rfl rfl (pc' := 200) rfl ?_
          refine oIcF W150 (cd := .le) (o := 15) (by decide +kernel) (XT.ii_le_f (by decide)) (pc' := 203) rfl ?_
          refine oGo W150 [.aload_n 0, .iconst 3] (by decide +kernel) (ls' := #[sR a, sI vl, sR b, sI (Int32.ofNat U), sI 4, sI 0, sI 0, sU, sU]) (st' := [(.int 3), (.ref a)]) rfl rfl (pc' := 205) rfl ?_
          refine oGet W150 A (v := (.int c3)) (by decide) rfl (Or.inl ⟨rfl, rfl⟩) (by decide +kernel) ?_
          obtain ⟨v151, T151, L151, h151, vm151, W151, ⟨r151, rfl, e151, Q151⟩, C151, st151⟩ := oCallS W150 (idx := 28) (pc := 206) (ls := #[sR a, sI vl, sR b, sI (Int32.ofNat U), sI 4, sI 0, sI 0, sU, sU]) (st := []) (argsL := [(.int c3)]) (c_ws K) (fun x hx => nomatch hx) (wK K 121 rfl) (wK K 122 rfl) (wK K 3 rfl) (wK K 123 rfl) (by decide) (na := 1) rfl (by decide +kernel) rfl (stk := [(.int c3)]) rfl (by decide +kernel) (V := 0) (lb rfl) (lb rfl) (lb rfl) (lb rfl) (lb rfl)
          refine oLift st151 ?_
          rw [e151] at W151 C151
          show OG _ _ _ _ _ _ _ _ _ _ _ (mkF m 209 #[sR a, sI vl, sR b, sI (Int32.ofNat U), sI 4, sI 0, sI 0, sU, sU] [(.int r151)])
          rcases Q151 with ⟨rfl, hq151⟩ | ⟨rfl, hq151⟩
          · exact absurd hq151 hw101
          refine oIfF W151 (cd := .ne) (o := 6) (by decide +kernel) (XT.i0_ne_f (by decide)) (pc' := 212) rfl ?_
          refine oGo W151 [.iconst 3, .istore 6] (by decide +kernel) (ls' := #[sR a, sI vl, sR b, sI (Int32.ofNat U), sI 4, sI 0, sI 3, sU, sU]) (st' := []) rfl rfl (pc' := 215) rfl ?_
          exact c_exp_c0_4 K hV hU W151 A B (by rw [he]; simp [strp, lw, rst, hw143, hw142, hw141, hw101])
      · refine oIfF W142 (cd := .ne) (o := 6) (by decide +kernel) (XT.i0_ne_f (by decide)) (pc' := 121) rfl ?_
        refine oGo W142 [.iconst 1, .istore 5] (by decide +kernel) (ls' := #[sR a, sI vl, sR b, sI (Int32.ofNat U), sI 4, sI 1, sU, sU, sU]) (st' := []) rfl rfl (pc' := 124) rfl ?_
        refine oGo W142 [.iload 4] (by decide +kernel) (ls' := #[sR a, sI vl, sR b, sI (Int32.ofNat U), sI 4, sI 1, sU, sU, sU]) (st' := [(.int 4)]) rfl rfl (pc' := 126) rfl ?_
        refine oIfF W142 (cd := .le) (o := 15) (by decide +kernel) (XT.i0_le_f (by decide)) (pc' := 129) rfl ?_
        refine oGo W142 [.aload_n 0, .iconst 0] (by decide +kernel) (ls' := #[sR a, sI vl, sR b, sI (Int32.ofNat U), sI 4, sI 1, sU, sU, sU]) (st' := [(.int 0), (.ref a)]) rfl rfl (pc' := 131) rfl ?_
        refine oGet W142 A (v := (.int c0)) (by decide) rfl (Or.inl ⟨rfl, rfl⟩) (by decide +kernel) ?_
        obtain ⟨v152, T152, L152, h152, vm152, W152, ⟨r152, rfl, e152, Q152⟩, C152, st152⟩ := oCallS W142 (idx := 28) (pc := 132) (ls := #[sR a, sI vl, sR b, sI (Int32.ofNat U), sI 4, sI 1, sU, sU, sU]) (st := []) (argsL := [(.int c0)]) (c_ws K) (fun x hx => nomatch hx) (wK K 121 rfl) (wK K 122 rfl) (wK K 3 rfl) (wK K 123 rfl) (by decide) (na := 1) rfl (by decide +kernel) rfl (stk := [(.int c0)]) rfl (by decide +kernel) (V := 0) (lb rfl) (lb rfl) (lb rfl) (lb rfl) (lb rfl)
        refine oLift st152 ?_
        rw [e152] at W152 C152
        show OG _ _ _ _ _ _ _ _ _ _ _ (mkF m 135 #[sR a, sI vl, sR b, sI (Int32.ofNat U), sI 4, sI 1, sU, sU, sU] [(.int r152)])
        rcases Q152 with ⟨rfl, hw152⟩ | ⟨rfl, hw152⟩
        · refine oIfT W152 (cd := .ne) (o := 6) (by decide +kernel) (XT.i0_ne_t (by decide)) (pc' := 141) (by decide) (by decide) ?_
          refine oGo W152 [.iconst (-1), .istore 6] (by decide +kernel) (ls' := #[sR a, sI vl, sR b, sI (Int32.ofNat U), sI 4, sI 1, sI (-1), sU, sU]) (st' := []) rfl rfl (pc' := 144) rfl ?_
          refine oGo W152 [.iload 4] (by decide +kernel) (ls' := #[sR a, sI vl, sR b, sI (Int32.ofNat U), sI 4, sI 1, sI (-1), sU, sU]) (st' := [(.int 4)]) rfl rfl (pc' := 146) rfl ?_
          refine oIfF W152 (cd := .le) (o := 15) (by decide +kernel) (XT.i0_le_f (by decide)) (pc' := 149) rfl ?_
          refine oGo W152 [.aload_n 0, .iconst 0] (by decide +kernel) (ls' := #[sR a, sI vl, sR b, sI (Int32.ofNat U), sI 4, sI 1, sI (-1), sU, sU]) (st' := [(.int 0), (.ref a)]) rfl rfl (pc' := 151) rfl ?_
          refine oGet W152 A (v := (.int c0)) (by decide) rfl (Or.inl ⟨rfl, rfl⟩) (by decide +kernel) ?_
          obtain ⟨v153, T153, L153, h153, vm153, W153, ⟨r153, rfl, e153, Q153⟩, C153, st153⟩ := oCallS W152 (idx := 28) (pc := 152) (ls := #[sR a, sI vl, sR b, sI (Int32.ofNat U), sI 4, sI 1, sI (-1), sU, sU]) (st := []) (argsL := [(.int c0)]) (c_ws K) (fun x hx => nomatch hx) (wK K 121 rfl) (wK K 122 rfl) (wK K 3 rfl) (wK K 123 rfl) (by decide) (na := 1) rfl (by decide +kernel) rfl (stk := [(.int c0)]) rfl (by decide +kernel) (V := 0) (lb rfl) (lb rfl) (lb rfl) (lb rfl) (lb rfl)
          refine oLift st153 ?_
          rw [e153] at W153 C153
          show OG _ _ _ _ _ _ _ _ _ _ _ (mkF m 155 #[sR a, sI vl, sR b, sI (Int32.ofNat U), sI 4, sI 1, sI (-1), sU, sU] [(.int r153)])
          rcases Q153 with ⟨rfl, hq153⟩ | ⟨rfl, hq153⟩
          rotate_left
          · exact absurd hw152 hq153
          refine oIfT W153 (cd := .ne) (o := 6) (by decide +kernel) (XT.i0_ne_t (by decide)) (pc' := 161) (by decide) (by decide) ?_
          refine oGo W153 [.iload 4, .iconst 1] (by decide +kernel) (ls' := #[sR a, sI vl, sR b, sI (Int32.ofNat U), sI 4, sI 1, sI (-1), sU, sU]) (st' := [(.int 1), (.int 4)]) rfl rfl (pc' := 164) rfl ?_
          refine oIcF W153 (cd := .le) (o := 15) (by decide +kernel) (XT.ii_le_f (by decide)) (pc' := 167) rfl ?_
          refine oGo W153 [.aload_n 0, .iconst 1] (by decide +kernel) (ls' := #[sR a, sI vl, sR b, sI (Int32.ofNat U), sI 4, sI 1, sI (-1), sU, sU]) (st' := [(.int 1), (.ref a)]) rfl rfl (pc' := 169) rfl ?_
          refine oGet W153 A (v := (.int c1)) (by decide) rfl (Or.inl ⟨rfl, rfl⟩) (by decide +kernel) ?_
          obtain ⟨v154, T154, L154, h154, vm154, W154, ⟨r154, rfl, e154, Q154⟩, C154, st154⟩ := oCallS W153 (idx := 28) (pc := 170) (ls := #[sR a, sI vl, sR b, sI (Int32.ofNat U), sI 4, sI 1, sI (-1), sU, sU]) (st := []) (argsL := [(.int c1)]) (c_ws K) (fun x hx => nomatch hx) (wK K 121 rfl) (wK K 122 rfl) (wK K 3 rfl) (wK K 123 rfl) (by decide) (na := 1) rfl (by decide +kernel) rfl (stk := [(.int c1)]) rfl (by decide +kernel) (V := 0) (lb rfl) (lb rfl) (lb rfl) (lb rfl) (lb rfl)
          refine oLift st154 ?_
          rw [e154] at W154 C154
          show OG _ _ _ _ _ _ _ _ _ _ _ (mkF m 173 #[sR a, sI vl, sR b, sI (Int32.ofNat U), sI 4, sI 1, sI (-1), sU, sU] [(.int r154)])
          rcases Q154 with ⟨rfl, hq154⟩ | ⟨rfl, hq154⟩
          · exact absurd hq154 hw142
          refine oIfF W154 (cd := .ne) (o := 6) (by decide +kernel) (XT.i0_ne_f (by decide)) (pc' := 176) rfl ?_
          refine oGo W154 [.iconst 1, .istore 6] (by decide +kernel) (ls' := #[sR a, sI vl, sR b, sI (Int32.ofNat U), sI 4, sI 1, sI 1, sU, sU]) (st' := []) rfl rfl (pc' := 179) rfl ?_
          refine oGo W154 [.iload 4, .iconst 2] (by decide +kernel) (ls' := #[sR a, sI vl, sR b, sI (Int32.ofNat U), sI 4, sI 1, sI 1, sU, sU]) (st' := [(.int 2), (.int 4)]) rfl rfl (pc' := 182) rfl ?_
          refine oIcF W154 (cd := .le) (o := 15) (by decide +kernel) (XT.ii_le_f (by decide)) (pc' := 185) rfl ?_
          refine oGo W154 [.aload_n 0, .iconst 2] (by decide +kernel) (ls' := #[sR a, sI vl, sR b, sI (Int32.ofNat U), sI 4, sI 1, sI 1, sU, sU]) (st' := [(.int 2), (.ref a)]) rfl rfl (pc' := 187) rfl ?_
          refine oGet W154 A (v := (.int c2)) (by decide) rfl (Or.inl ⟨rfl, rfl⟩) (by decide +kernel) ?_
          obtain ⟨v155, T155, L155, h155, vm155, W155, ⟨r155, rfl, e155, Q155⟩, C155, st155⟩ := oCallS W154 (idx := 28) (pc := 188) (ls := #[sR a, sI vl, sR b, sI (Int32.ofNat U), sI 4, sI 1, sI 1, sU, sU]) (st := []) (argsL := [(.int c2)]) (c_ws K) (fun x hx => nomatch hx) (wK K 121 rfl) (wK K 122 rfl) (wK K 3 rfl) (wK K 123 rfl) (by decide) (na := 1) rfl (by decide +kernel) rfl (stk := [(.int c2)]) rfl (by decide +kernel) (V := 0) (lb rfl) (lb rfl) (lb rfl) (lb rfl) (lb rfl)
          refine oLift st155 ?_
          rw [e155] at W155 C155
          show OG _ _ _ _ _ _ _ _ _ _ _ (mkF m 191 #[sR a, sI vl, sR b, sI (Int32.ofNat U), sI 4, sI 1, sI 1, sU, sU] [(.int r155)])
          rcases Q155 with ⟨rfl, hq155⟩ | ⟨rfl, hq155⟩
          rotate_left
          · exact absurd hw141 hq155
          refine oIfT W155 (cd := .ne) (o := 6) (by decide +kernel) (XT.i0_ne_t (by decide)) (pc' := 197) (by decide) (by decide) ?_
          refine oGo W155 [.iload 4, .iconst 3] (by decide +kernel) (ls' := #[sR a, sI vl, sR b, sI (Int32.ofNat U), sI 4, sI 1, sI 1, sU, sU]) (st' := [(.int 3), (.int 4)]) rfl rfl (pc' := 200) rfl ?_
          refine oIcF W155 (cd := .le) (o := 15) (by decide +kernel) (XT.ii_le_f (by decide)) (pc' := 203) rfl ?_
          refine oGo W155 [.aload_n 0, .iconst 3] (by decide +kernel) (ls' := #[sR a, sI vl, sR b, sI (Int32.ofNat U), sI 4, sI 1, sI 1, sU, sU]) (st' := [(.int 3), (.ref a)]) rfl rfl (pc' := 205) rfl ?_
          refine oGet W155 A (v := (.int c3)) (by decide) rfl (Or.inl ⟨rfl, rfl⟩) (by decide +kernel) ?_
          obtain ⟨v156, T156, L156, h156, vm156, W156, ⟨r156, rfl, e156, Q156⟩, C156, st156⟩ := oCallS W155 (idx := 28) (pc := 206) (ls := #[sR a, sI vl, sR b, sI (Int32.ofNat U), sI 4, sI 1, sI 1, sU, sU]) (st := []) (argsL := [(.int c3)]) (c_ws K) (fun x hx => nomatch hx) (wK K 121 rfl) (wK K 122 rfl) (wK K 3 rfl) (wK K 123 rfl) (by decide) (na := 1) rfl (by decide +kernel) rfl (stk := [(.int c3)]) rfl (by decide +kernel) (V := 0) (lb rfl) (lb rfl) (lb rfl) (lb rfl) (lb rfl)
          refine oLift st156 ?_
          rw [e156] at W156 C156
          show OG _ _ _ _ _ _ _ _ _ _ _ (mkF m 209 #[sR a, sI vl, sR b, sI (Int32.ofNat U), sI 4, sI 1, sI 1, sU, sU] [(.int r156)])
          rcases Q156 with ⟨rfl, hq156⟩ | ⟨rfl, hq156⟩
          · exact absurd hq156 hw101
          refine oIfF W156 (cd := .ne) (o := 6) (by decide +kernel) (XT.i0_ne_f (by decide)) (pc' := 212) rfl ?_
          refine oGo W156 [.iconst 3, .istore 6] (by decide +kernel) (ls' := #[sR a, sI vl, sR b, sI (Int32.ofNat U), sI 4, sI 1, sI 3, sU, sU]) (st' := []) rfl rfl (pc' := 215) rfl ?_
          exact c_exp_c1_4 K hV hU W156 A B (by rw [he]; simp [strp, lw, rst, hw152, hw142, hw141, hw101])
        · refine oIfF W152 (cd := .ne) (o := 6) (by decide +kernel) (XT.i0_ne_f (by decide)) (pc' := 138) rfl ?_
          refine oGo W152 [.iconst 0, .istore 5] (by decide +kernel) (ls' := #[sR a, sI vl, sR b, sI (Int32.ofNat U), sI 4, sI 0, sU, sU, sU]) (st' := []) rfl rfl (pc' := 141) rfl ?_
          refine oGo W152 [.iconst (-1), .istore 6] (by decide +kernel) (ls' := #[sR a, sI vl, sR b, sI (Int32.ofNat U), sI 4, sI 0, sI (-1), sU, sU]) (st' := []) rfl rfl (pc' := 144) rfl ?_
          refine oGo W152 [.iload 4] (by decide +kernel) (ls' := #[sR a, sI vl, sR b, sI (Int32.ofNat U), sI 4, sI 0, sI (-1), sU, sU]) (st' := [(.int 4)]) rfl rfl (pc' := 146) rfl ?_
          refine oIfF W152 (cd := .le) (o := 15) (by decide +kernel) (XT.i0_le_f (by decide)) (pc' := 149) rfl ?_
          refine oGo W152 [.aload_n 0, .iconst 0] (by decide +kernel) (ls' := #[sR a, sI vl, sR b, sI (Int32.ofNat U), sI 4, sI 0, sI (-1), sU, sU]) (st' := [(.int 0), (.ref a)]) rfl rfl (pc' := 151) rfl ?_
          refine oGet W152 A (v := (.int c0)) (by decide) rfl (Or.inl ⟨rfl, rfl⟩) (by decide +kernel) ?_
          obtain ⟨v157, T157, L157, h157, vm157, W157, ⟨r157, rfl, e157, Q157⟩, C157, st157⟩ := oCallS W152 (idx := 28) (pc := 152) (ls := #[sR a, sI vl, sR b, sI (Int32.ofNat U), sI 4, sI 0, sI (-1), sU, sU]) (st := []) (argsL := [(.int c0)]) (c_ws K) (fun x hx => nomatch hx) (wK K 121 rfl) (wK K 122 rfl) (wK K 3 rfl) (wK K 123 rfl) (by decide) (na := 1) rfl (by decide +kernel) rfl (stk := [(.int c0)]) rfl (by decide +kernel) (V := 0) (lb rfl) (lb rfl) (lb rfl) (lb rfl) (lb rfl)
          refine oLift st157 ?_
          rw [e157] at W157 C157
          show OG _ _ _ _ _ _ _ _ _ _ _ (mkF m 155 #[sR a, sI vl, sR b, sI (Int32.ofNat U), sI 4, sI 0, sI (-1), sU, sU] [(.int r157)])
          rcases Q157 with ⟨rfl, hq157⟩ | ⟨rfl, hq157⟩
          · exact absurd hq157 hw152
          refine oIfF W157 (cd := .ne) (o := 6) (by decide +kernel) (XT.i0_ne_f (by decide)) (pc' := 158) rfl ?_
          refine oGo W157 [.iconst 0, .istore 6] (by decide +kernel) (ls' := #[sR a, sI vl, sR b, sI (Int32.ofNat U), sI 4, sI 0, sI 0, sU, sU]) (st' := []) rfl rfl (pc' := 161) rfl ?_
          refine oGo W157 [.iload 4, .iconst 1] (by decide +kernel) (ls' := #[sR a, sI vl, sR b, sI (Int32.ofNat U), sI 4, sI 0, sI 0, sU, sU]) (st' := [(.int 1), (.int 4)]) rfl rfl (pc' := 164) rfl ?_
          refine oIcF W157 (cd := .le) (o := 15) (by decide +kernel) (XT.ii_le_f (by decide)) (pc' := 167) rfl ?_
          refine oGo W157 [.aload_n 0, .iconst 1] (by decide +kernel) (ls' := #[sR a, sI vl, sR b, sI (Int32.ofNat U), sI 4, sI 0, sI 0, sU, sU]) (st' := [(.int 1), (.ref a)]) rfl rfl (pc' := 169) rfl ?_
          refine oGet W157 A (v := (.int c1)) (by decide) rfl (Or.inl ⟨rfl, rfl⟩) (by decide +kernel) ?_
          obtain ⟨v158, T158, L158, h158, vm158, W158, ⟨r158, rfl, e158, Q158⟩, C158, st158⟩ := oCallS W157 (idx := 28) (pc := 170) (ls := #[sR a, sI vl, sR b, sI (Int32.ofNat U), sI 4, sI 0, sI 0, sU, sU]) (st := []) (argsL := [(.int c1)]) (c_ws K) (fun x hx => nomatch hx) (wK K 121 rfl) (wK K 122 rfl) (wK K 3 rfl) (wK K 123 rfl) (by decide) (na := 1) rfl (by decide +kernel) rfl (stk := [(.int c1)]) rfl (by decide +kernel) (V := 0) (lb rfl) (lb rfl) (lb rfl) (lb rfl) (lb rfl)
          refine oLift st158 ?_
          rw [e158] at W158 C158
          show OG _ _ _ _ _ _ _ _ _ _ _ (mkF m 173 #[sR a, sI vl, sR b, sI (Int32.ofNat U), sI 4, sI 0, sI 0, sU, sU] [(.int r158)])
          rcases Q158 with ⟨rfl, hq158⟩ | ⟨rfl, hq158⟩
          · exact absurd hq158 hw142
          refine oIfF W158 (cd := .ne) (o := 6) (by decide +kernel) (XT.i0_ne_f (by decide)) (pc' := 176) rfl ?_
          refine oGo W158 [.iconst 1, .istore 6] (by decide +kernel) (ls' := #[sR a, sI vl, sR b, sI (Int32.ofNat U), sI 4, sI 0, sI 1, sU, sU]) (st' := []) rfl rfl (pc' := 179) rfl ?_
          refine oGo W158 [.iload 4, .iconst 2] (by decide +kernel) (ls' := #[sR a, sI vl, sR b, sI (Int32.ofNat U), sI 4, sI 0, sI 1, sU, sU]) (st' := [(.int 2), (.int 4)]) rfl rfl (pc' := 182) rfl ?_
          refine oIcF W158 (cd := .le) (o := 15) (by decide +kernel) (XT.ii_le_f (by decide)) (pc' := 185) rfl ?_
          refine oGo W158 [.aload_n 0, .iconst 2] (by decide +kernel) (ls' := #[sR a, sI vl, sR b, sI (Int32.ofNat U), sI 4, sI 0, sI 1, sU, sU]) (st' := [(.int 2), (.ref a)]) rfl rfl (pc' := 187) rfl ?_
          refine oGet W158 A (v := (.int c2)) (by decide) rfl (Or.inl ⟨rfl, rfl⟩) (by decide +kernel) ?_
          obtain ⟨v159, T159, L159, h159, vm159, W159, ⟨r159, rfl, e159, Q159⟩, C159, st159⟩ := oCallS W158 (idx := 28) (pc := 188) (ls := #[sR a, sI vl, sR b, sI (Int32.ofNat U), sI 4, sI 0, sI 1, sU, sU]) (st := []) (argsL := [(.int c2)]) (c_ws K) (fun x hx => nomatch hx) (wK K 121 rfl) (wK K 122 rfl) (wK K 3 rfl) (wK K 123 rfl) (by decide) (na := 1) rfl (by decide +kernel) rfl (stk := [(.int c2)]) rfl (by decide +kernel) (V := 0) (lb rfl) (lb rfl) (lb rfl) (lb rfl) (lb rfl)
          refine oLift st159 ?_
          rw [e159] at W159 C159
          show OG _ _ _ _ _ _ _ _ _ _ _ (mkF m 191 #[sR a, sI vl, sR b, sI (Int32.ofNat U), sI 4, sI 0, sI 1, sU, sU] [(.int r159)])
          rcases Q159 with ⟨rfl, hq159⟩ | ⟨rfl, hq159⟩
          rotate_left
          · exact absurd hw141 hq159
          refine oIfT W159 (cd := .ne) (o := 6) (by decide +kernel) (XT.i0_ne_t (by decide)) (pc' := 197) (by decide) (by decide) ?_
          refine oGo W159 [.iload 4, .iconst 3] (by decide +kernel) (ls' := #[sR a, sI vl, sR b, sI (Int32.ofNat U), sI 4, sI 0, sI 1, sU, sU]) (st' := [(.int 3), (.int 4)]) rfl rfl (pc' := 200) rfl ?_
          refine oIcF W159 (cd := .le) (o := 15) (by decide +kernel) (XT.ii_le_f (by decide)) (pc' := 203) rfl ?_
          refine oGo W159 [.aload_n 0, .iconst 3] (by decide +kernel) (ls' := #[sR a, sI vl, sR b, sI (Int32.ofNat U), sI 4, sI 0, sI 1, sU, sU]) (st' := [(.int 3), (.ref a)]) rfl rfl (pc' := 205) rfl ?_
          refine oGet W159 A (v := (.int c3)) (by decide) rfl (Or.inl ⟨rfl, rfl⟩) (by decide +kernel) ?_
          obtain ⟨v160, T160, L160, h160, vm160, W160, ⟨r160, rfl, e160, Q160⟩, C160, st160⟩ := oCallS W159 (idx := 28) (pc := 206) (ls := #[sR a, sI vl, sR b, sI (Int32.ofNat U), sI 4, sI 0, sI 1, sU, sU]) (st := []) (argsL := [(.int c3)]) (c_ws K) (fun x hx => nomatch hx) (wK K 121 rfl) (wK K 122 rfl) (wK K 3 rfl) (wK K 123 rfl) (by decide) (na := 1) rfl (by decide +kernel) rfl (stk := [(.int c3)]) rfl (by decide +kernel) (V := 0) (lb rfl) (lb rfl) (lb rfl) (lb rfl) (lb rfl)
          refine oLift st160 ?_
          rw [e160] at W160 C160
          show OG _ _ _ _ _ _ _ _ _ _ _ (mkF m 209 #[sR a, sI vl, sR b, sI (Int32.ofNat U), sI 4, sI 0, sI 1, sU, sU] [(.int r160)])
          rcases Q160 with ⟨rfl, hq160⟩ | ⟨rfl, hq160⟩
          · exact absurd hq160 hw101
          refine oIfF W160 (cd := .ne) (o := 6) (by decide +kernel) (XT.i0_ne_f (by decide)) (pc' := 212) rfl ?_
          refine oGo W160 [.iconst 3, .istore 6] (by decide +kernel) (ls' := #[sR a, sI vl, sR b, sI (Int32.ofNat U), sI 4, sI 0, sI 3, sU, sU]) (st' := []) rfl rfl (pc' := 215) rfl ?_
          exact c_exp_c0_4 K hV hU W160 A B (by rw [he]; simp [strp, lw, rst, hw152, hw142, hw141, hw101])
    · refine oIfF W141 (cd := .ne) (o := 6) (by decide +kernel) (XT.i0_ne_f (by decide)) (pc' := 103) rfl ?_
      refine oGo W141 [.iconst 2, .istore 5] (by decide +kernel) (ls' := #[sR a, sI vl, sR b, sI (Int32.ofNat U), sI 4, sI 2, sU, sU, sU]) (st' := []) rfl rfl (pc' := 106) rfl ?_
      refine oGo W141 [.iload 4, .iconst 1] (by decide +kernel) (ls' := #[sR a, sI vl, sR b, sI (Int32.ofNat U), sI 4, sI 2, sU, sU, sU]) (st' := [(.int 1), (.int 4)]) rfl rfl (pc' := 109) rfl ?_
      refine oIcF W141 (cd := .le) (o := 15) (by decide +kernel) (XT.ii_le_f (by decide)) (pc' := 112) rfl ?_
      refine oGo W141 [.aload_n 0, .iconst 1] (by decide +kernel) (ls' := #[sR a, sI vl, sR b, sI (Int32.ofNat U), sI 4, sI 2, sU, sU, sU]) (st' := [(.int 1), (.ref a)]) rfl rfl (pc' := 114) rfl ?_
      refine oGet W141 A (v := (.int c1)) (by decide) rfl (Or.inl ⟨rfl, rfl⟩) (by decide +kernel) ?_
      obtain ⟨v161, T161, L161, h161, vm161, W161, ⟨r161, rfl, e161, Q161⟩, C161, st161⟩ := oCallS W141 (idx := 28) (pc := 115) (ls := #[sR a, sI vl, sR b, sI (Int32.ofNat U), sI 4, sI 2, sU, sU, sU]) (st := []) (argsL := [(.int c1)]) (c_ws K) (fun x hx => nomatch hx) (wK K 121 rfl) (wK K 122 rfl) (wK K 3 rfl) (wK K 123 rfl) (by decide) (na := 1) rfl (by decide +kernel) rfl (stk := [(.int c1)]) rfl (by decide +kernel) (V := 0) (lb rfl) (lb rfl) (lb rfl) (lb rfl) (lb rfl)
      refine oLift st161 ?_
      rw [e161] at W161 C161
      show OG _ _ _ _ _ _ _ _ _ _ _ (mkF m 118 #[sR a, sI vl, sR b, sI (Int32.ofNat U), sI 4, sI 2, sU, sU, sU] [(.int r161)])
      rcases Q161 with ⟨rfl, hw161⟩ | ⟨rfl, hw161⟩
      · refine oIfT W161 (cd := .ne) (o := 6) (by decide +kernel) (XT.i0_ne_t (by decide)) (pc' := 124) (by decide) (by decide) ?_
        refine oGo W161 [.iload 4] (by decide +kernel) (ls' := #[sR a, sI vl, sR b, sI (Int32.ofNat U), sI 4, sI 2, sU, sU, sU]) (st' := [(.int 4)]) rfl rfl (pc' := 126) rfl ?_
        refine oIfF W161 (cd := .le) (o := 15) (by decide +kernel) (XT.i0_le_f (by decide)) (pc' := 129) rfl ?_
        refine oGo W161 [.aload_n 0, .iconst 0] (by decide +kernel) (ls' := #[sR a, sI vl, sR b, sI (Int32.ofNat U), sI 4, sI 2, sU, sU, sU]) (st' := [(.int 0), (.ref a)]) rfl rfl (pc' := 131) rfl ?_
        refine oGet W161 A (v := (.int c0)) (by decide) rfl (Or.inl ⟨rfl, rfl⟩) (by decide +kernel) ?_
        obtain ⟨v162, T162, L162, h162, vm162, W162, ⟨r162, rfl, e162, Q162⟩, C162, st162⟩ := oCallS W161 (idx := 28) (pc := 132) (ls := #[sR a, sI vl, sR b, sI (Int32.ofNat U), sI 4, sI 2, sU, sU, sU]) (st := []) (argsL := [(.int c0)]) (c_ws K) (fun x hx => nomatch hx) (wK K 121 rfl) (wK K 122 rfl) (wK K 3 rfl) (wK K 123 rfl) (by decide) (na := 1) rfl (by decide +kernel) rfl (stk := [(.int c0)]) rfl (by decide +kernel) (V := 0) (lb rfl) (lb rfl) (lb rfl) (lb rfl) (lb rfl)
        refine oLift st162 ?_
        rw [e162] at W162 C162
        show OG _ _ _ _ _ _ _ _ _ _ _ (mkF m 135 #[sR a, sI vl, sR b, sI (Int32.ofNat U), sI 4, sI 2, sU, sU, sU] [(.int r162)])
        rcases Q162 with ⟨rfl, hw162⟩ | ⟨rfl, hw162⟩
        · refine oIfT W162 (cd := .ne) (o := 6) (by decide +kernel) (XT.i0_ne_t (by decide)) (pc' := 141) (by decide) (by decide) ?_
          refine oGo W162 [.iconst (-1), .istore 6] (by decide +kernel) (ls' := #[sR a, sI vl, sR b, sI (Int32.ofNat U), sI 4, sI 2, sI (-1), sU, sU]) (st' := []) rfl rfl (pc' := 144) rfl ?_
          refine oGo W162 [.iload 4] (by decide +kernel) (ls' := #[sR a, sI vl, sR b, sI (Int32.ofNat U), sI 4, sI 2, sI (-1), sU, sU]) (st' := [(.int 4)]) rfl rfl (pc' := 146) rfl ?_
          refine oIfF W162 (cd := .le) (o := 15) (by decide +kernel) (XT.i0_le_f (by decide)) (pc' := 149) rfl ?_
          refine oGo W162 [.aload_n 0, .iconst 0] (by decide +kernel) (ls' := #[sR a, sI vl, sR b, sI (Int32.ofNat U), sI 4, sI 2, sI (-1), sU, sU]) (st' := [(.int 0), (.ref a)]) rfl rfl (pc' := 151) rfl ?_
          refine oGet W162 A (v := (.int c0)) (by decide) rfl (Or.inl ⟨rfl, rfl⟩) (by decide +kernel) ?_
          obtain ⟨v163, T163, L163, h163, vm163, W163, ⟨r163, rfl, e163, Q163⟩, C163, st163⟩ := oCallS W162 (idx := 28) (pc := 152) (ls := #[sR a, sI vl, sR b, sI (Int32.ofNat U), sI 4, sI 2, sI (-1), sU, sU]) (st := []) (argsL := [(.int c0)]) (c_ws K) (fun x hx => nomatch hx) (wK K 121 rfl) (wK K 122 rfl) (wK K 3 rfl) (wK K 123 rfl) (by decide) (na := 1) rfl (by decide +kernel) rfl (stk := [(.int c0)]) rfl (by decide +kernel) (V := 0) (lb rfl) (lb rfl) (lb rfl) (lb rfl) (lb rfl)
          refine oLift st163 ?_
          rw [e163] at W163 C163
          show OG _ _ _ _ _ _ _ _ _ _ _ (mkF m 155 #[sR a, sI vl, sR b, sI (Int32.ofNat U), sI 4, sI 2, sI (-1), sU, sU] [(.int r163)])
          rcases Q163 with ⟨rfl, hq163⟩ | ⟨rfl, hq163⟩
          rotate_left
          · exact absurd hw162 hq163
          refine oIfT W163 (cd := .ne) (o := 6) (by decide +kernel) (XT.i0_ne_t (by decide)) (pc' := 161) (by decide) (by decide) ?_
          refine oGo W163 [.iload 4, .iconst 1] (by decide +kernel) (ls' := #[sR a, sI vl, sR b, sI (Int32.ofNat U), sI 4, sI 2, sI (-1), sU, sU]) (st' := [(.int 1), (.int 4)]) rfl rfl (pc' := 164) rfl ?_
          refine oIcF W163 (cd := .le) (o := 15) (by decide +kernel) (XT.ii_le_f (by decide)) (pc' := 167) rfl ?_
          refine oGo W163 [.aload_n 0, .iconst 1] (by decide +kernel) (ls' := #[sR a, sI vl, sR b, sI (Int32.ofNat U), sI 4, sI 2, sI (-1), sU, sU]) (st' := [(.int 1), (.ref a)]) rfl rfl (pc' := 169) rfl ?_
          refine oGet W163 A (v := (.int c1)) (by decide) rfl (Or.inl ⟨rfl, rfl⟩) (by decide +kernel) ?_
          obtain ⟨v164, T164, L164, h164, vm164, W164, ⟨r164, rfl, e164, Q164⟩, C164, st164⟩ := oCallS W163 (idx := 28) (pc := 170) (ls := #[sR a, sI vl, sR b, sI (Int32.ofNat U), sI 4, sI 2, sI (-1), sU, sU]) (st := []) (argsL := [(.int c1)]) (c_ws K) (fun x hx => nomatch hx) (wK K 121 rfl) (wK K 122 rfl) (wK K 3 rfl) (wK K 123 rfl) (by decide) (na := 1) rfl (by decide +kernel) rfl (stk := [(.int c1)]) rfl (by decide +kernel) (V := 0) (lb rfl) (lb rfl) (lb rfl) (lb rfl) (lb rfl)
          refine oLift st164 ?_
          rw [e164] at W164 C164
          show OG _ _ _ _ _ _ _ _ _ _ _ (mkF m 173 #[sR a, sI vl, sR b, sI (Int32.ofNat U), sI 4, sI 2, sI (-1), sU, sU] [(.int r164)])
          rcases Q164 with ⟨rfl, hq164⟩ | ⟨rfl, hq164⟩
          rotate_left
          · exact absurd hw161 hq164
          refine oIfT W164 (cd := .ne) (o := 6) (by decide +kernel) (XT.i0_ne_t (by decide)) (pc' := 179) (by decide) (by decide) ?_
          refine oGo W164 [.iload 4, .iconst 2] (by decide +kernel) (ls' := #[sR a, sI vl, sR b, sI (Int32.ofNat U), sI 4, sI 2, sI (-1), sU, sU]) (st' := [(.int 2), (.int 4)]) rfl rfl (pc' := 182) rfl ?_
          refine oIcF W164 (cd := .le) (o := 15) (by decide +kernel) (XT.ii_le_f (by decide)) (pc' := 185) rfl ?_
          refine oGo W164 [.aload_n 0, .iconst 2] (by decide +kernel) (ls' := #[sR a, sI vl, sR b, sI (Int32.ofNat U), sI 4, sI 2, sI (-1), sU, sU]) (st' := [(.int 2), (.ref a)]) rfl rfl (pc' := 187) rfl ?_
          refine oGet W164 A (v := (.int c2)) (by decide) rfl (Or.inl ⟨rfl, rfl⟩) (by decide +kernel) ?_
          obtain ⟨v165, T165, L165, h165, vm165, W165, ⟨r165, rfl, e165, Q165⟩, C165, st165⟩ := oCallS W164 (idx := 28) (pc := 188) (ls := #[sR a, sI vl, sR b, sI (Int32.ofNat U), sI 4, sI 2, sI (-1), sU, sU]) (st := []) (argsL := [(.int c2)]) (c_ws K) (fun x hx => nomatch hx) (wK K 121 rfl) (wK K 122 rfl) (wK K 3 rfl) (wK K 123 rfl) (by decide) (na := 1) rfl (by decide +kernel) rfl (stk := [(.int c2)]) rfl (by decide +kernel) (V := 0) (lb rfl) (lb rfl) (lb rfl) (lb rfl) (lb rfl)
          refine oLift st165 ?_
          rw [e165] at W165 C165
          show OG _ _ _ _ _ _ _ _ _ _ _ (mkF m 191 #[sR a, sI vl, sR b, sI (Int32.ofNat U), sI 4, sI 2, sI (-1), sU, sU] [(.int r165)])
          rcases Q165 with ⟨rfl, hq165⟩ | ⟨rfl, hq165⟩
          · exact absurd hq165 hw141
          refine oIfF W165 (cd := .ne) (o := 6) (by decide +kernel) (XT.i0_ne_f (by decide)) (pc' := 194) rfl ?_
          refine oGo W165 [.iconst 2, .istore 6] (by decide +kernel) (ls' := #[sR a, sI vl, sR b, sI (Int32.ofNat U), sI 4, sI 2, sI 2, sU, sU]) (st' := []) rfl rfl (pc' := 197) rfl ?_
          refine oGo W165 [.iload 4, .iconst 3] (by decide +kernel) (ls' := #[sR a, sI vl, sR b, sI (Int32.ofNat U), sI 4, sI 2, sI 2, sU, sU]) (st' := [(.int 3), (.int 4)]) rfl rfl (pc' := 200) rfl ?_
          refine oIcF W165 (cd := .le) (o := 15) (by decide +kernel) (XT.ii_le_f (by decide)) (pc' := 203) rfl ?_
          refine oGo W165 [.aload_n 0, .iconst 3] (by decide +kernel) (ls' := #[sR a, sI vl, sR b, sI (Int32.ofNat U), sI 4, sI 2, sI 2, sU, sU]) (st' := [(.int 3), (.ref a)]) rfl rfl (pc' := 205) rfl ?_
          refine oGet W165 A (v := (.int c3)) (by decide) rfl (Or.inl ⟨rfl, rfl⟩) (by decide +kernel) ?_
          obtain ⟨v166, T166, L166, h166, vm166, W166, ⟨r166, rfl, e166, Q166⟩, C166, st166⟩ := oCallS W165 (idx := 28) (pc := 206) (ls := #[sR a, sI vl, sR b, sI (Int32.ofNat U), sI 4, sI 2, sI 2, sU, sU]) (st := []) (argsL := [(.int c3)]) (c_ws K) (fun x hx => nomatch hx) (wK K 121 rfl) (wK K 122 rfl) (wK K 3 rfl) (wK K 123 rfl) (by decide) (na := 1) rfl (by decide +kernel) rfl (stk := [(.int c3)]) rfl (by decide +kernel) (V := 0) (lb rfl) (lb rfl) (lb rfl) (lb rfl) (lb rfl)
          refine oLift st166 ?_
          rw [e166] at W166 C166
          show OG _ _ _ _ _ _ _ _ _ _ _ (mkF m 209 #[sR a, sI vl, sR b, sI (Int32.ofNat U), sI 4, sI 2, sI 2, sU, sU] [(.int r166)])
          rcases Q166 with ⟨rfl, hq166⟩ | ⟨rfl, hq166⟩
          · exact absurd hq166 hw101
          refine oIfF W166 (cd := .ne) (o := 6) (by decide +kernel) (XT.i0_ne_f (by decide)) (pc' := 212) rfl ?_
          refine oGo W166 [.iconst 3, .istore 6] (by decide +kernel) (ls' := #[sR a, sI vl, sR b, sI (Int32.ofNat U), sI 4, sI 2, sI 3, sU, sU]) (st' := []) rfl rfl (pc' := 215) rfl ?_
          exact c_exp_c2_4 K hV hU W166 A B (by rw [he]; simp [strp, lw, rst, hw162, hw161, hw141, hw101])
        · refine oIfF W162 (cd := .ne) (o := 6) (by decide +kernel) (XT.i0_ne_f (by decide)) (pc' := 138) rfl ?_
          refine oGo W162 [.iconst 0, .istore 5] (by decide +kernel) (ls' := #[sR a, sI vl, sR b, sI (Int32.ofNat U), sI 4, sI 0, sU, sU, sU]) (st' := []) rfl rfl (pc' := 141) rfl ?_
          refine oGo W162 [.iconst (-1), .istore 6] (by decide +kernel) (ls' := #[sR a, sI vl, sR b, sI (Int32.ofNat U), sI 4, sI 0, sI (-1), sU, sU]) (st' := []) rfl rfl (pc' := 144) rfl ?_
          refine oGo W162 [.iload 4] (by decide +kernel) (ls' := #[sR a, sI vl, sR b, sI (Int32.ofNat U), sI 4, sI 0, sI (-1), sU, sU]) (st' := [(.int 4)]) rfl rfl (pc' := 146) rfl ?_
          refine oIfF W162 (cd := .le) (o := 15) (by decide +kernel) (XT.i0_le_f (by decide)) (pc' := 149) rfl ?_
          refine oGo W162 [.aload_n 0, .iconst 0] (by decide +kernel) (ls' := #[sR a, sI vl, sR b, sI (Int32.ofNat U), sI 4, sI 0, sI (-1), sU, sU]) (st' := [(.int 0), (.ref a)]) rfl rfl (pc' := 151) rfl ?_
          refine oGet W162 A (v := (.int c0)) (by decide) rfl (Or.inl ⟨rfl, rfl⟩) (by decide +kernel) ?_
          obtain ⟨v167, T167, L167, h167, vm167, W167, ⟨r167, rfl, e167, Q167⟩, C167, st167⟩ := oCallS W162 (idx := 28) (pc := 152) (ls := #[sR a, sI vl, sR b, sI (Int32.ofNat U), sI 4, sI 0, sI (-1), sU, sU]) (st := []) (argsL := [(.int c0)]) (c_ws K) (fun x hx => nomatch hx) (wK K 121 rfl) (wK K 122 rfl) (wK K 3 rfl) (wK K 123 rfl) (by decide) (na := 1) rfl (by decide +kernel) rfl (stk := [(.int c0)]) rfl (by decide +kernel) (V := 0) (lb rfl) (lb rfl) (lb rfl) (lb rfl) (lb rfl)
          refine oLift st167 ?_
          rw [e167] at W167 C167
          show OG _ _ _ _ _ _ _ _ _ _ _ (mkF m 155 #[sR a, sI vl, sR b, sI (Int32.ofNat U), sI 4, sI 0, sI (-1), sU, sU] [(.int r167)])
          rcases Q167 with ⟨rfl, hq167⟩ | ⟨rfl, hq167⟩
          · exact absurd hq167 hw162
          refine oIfF W167 (cd := .ne) (o := 6) (by decide +kernel) (XT.i0_ne_f (by decide)) (pc' := 158) rfl ?_
          refine oGo W167 [.iconst 0, .istore 6] (by decide +kernel) (ls' := #[sR a, sI vl, sR b, sI (Int32.ofNat U), sI 4, sI 0, sI 0, sU, sU]) (st' := []) rfl rfl (pc' := 161) rfl ?_
          refine oGo W167 [.iload 4, .iconst 1] (by decide +kernel) (ls' := #[sR a, sI vl, sR b, sI (Int32.ofNat U), sI 4, sI 0, sI 0, sU, sU]) (st' := [(.int 1), (.int 4)]) rfl rfl (pc' := 164) rfl ?_
          refine oIcF W167 (cd := .le) (o := 15) (by decide +kernel) (XT.ii_le_f (by decide)) (pc' := 167) rfl ?_
          refine oGo W167 [.aload_n 0, .iconst 1] (by decide +kernel) (ls' := #[sR a, sI vl, sR b, sI (Int32.ofNat U), sI 4, sI 0, sI 0, sU, sU]) (st' := [(.int 1), (.ref a)]) rfl rfl (pc' := 169) rfl ?_
          refine oGet W167 A (v := (.int c1)) (by decide) rfl (Or.inl ⟨rfl, rfl⟩) (by decide +kernel) ?_
          obtain ⟨v168, T168, L168, h168, vm168, W168, ⟨r168, rfl, e168, Q168⟩, C168, st168⟩ := oCallS W167 (idx := 28) (pc := 170) (ls := #[sR a, sI vl, sR b, sI (Int32.ofNat U), sI 4, sI 0, sI 0, sU, sU]) (st := []) (argsL := [(.int c1)]) (c_ws K) (fun x hx => nomatch hx) (wK K 121 rfl) (wK K 122 rfl) (wK K 3 rfl) (wK K 123 rfl) (by decide) (na := 1) rfl (by decide +kernel) rfl (stk := [(.int c1)]) rfl (by decide +kernel) (V := 0) (lb rfl) (lb rfl) (lb rfl) (lb rfl) (lb rfl)
          refine oLift st168 ?_
          rw [e168] at W168 C168
          show OG _ _ _ _ _ _ _ _ _ _ _ (mkF m 173 #[sR a, sI vl, sR b, sI (Int32.ofNat U), sI 4, sI 0, sI 0, sU, sU] [(.int r168)])
          rcases Q168 with ⟨rfl, hq168⟩ | ⟨rfl, hq168⟩
          rotate_left
          · exact absurd hw161 hq168
          refine oIfT W168 (cd := .ne) (o := 6) (by decide +kernel) (XT.i0_ne_t (by decide)) (pc' := 179) (by decide) (by decide) ?_
          refine oGo W168 [.iload 4, .iconst 2] (by decide +kernel) (ls' := #[sR a, sI vl, sR b, sI (Int32.ofNat U), sI 4, sI 0, sI 0, sU, sU]) (st' := [(.int 2), (.int 4)]) rfl rfl (pc' := 182) rfl ?_
          refine oIcF W168 (cd := .le) (o := 15) (by decide +kernel) (XT.ii_le_f (by decide)) (pc' := 185) rfl ?_
          refine oGo W168 [.aload_n 0, .iconst 2] (by decide +kernel) (ls' := #[sR a, sI vl, sR b, sI (Int32.ofNat U), sI 4, sI 0, sI 0, sU, sU]) (st' := [(.int 2), (.ref a)]) rfl rfl (pc' := 187) rfl ?_
          refine oGet W168 A (v := (.int c2)) (by decide) rfl (Or.inl ⟨rfl, rfl⟩) (by decide +kernel) ?_
          obtain ⟨v169, T169, L169, h169, vm169, W169, ⟨r169, rfl, e169, Q169⟩, C169, st169⟩ := oCallS W168 (idx := 28) (pc := 188) (ls := #[sR a, sI vl, sR b, sI (Int32.ofNat U), sI 4, sI 0, sI 0, sU, sU]) (st := []) (argsL := [(.int c2)]) (c_ws K) (fun x hx => nomatch hx) (wK K 121 rfl) (wK K 122 rfl) (wK K 3 rfl) (wK K 123 rfl) (by decide) (na := 1) rfl (by decide +kernel) rfl (stk := [(.int c2)]) rfl (by decide +kernel) (V := 0) (lb rfl) (lb rfl) (lb rfl) (lb rfl) (lb rfl)
          refine oLift st169 ?_
          rw [e169] at W169 C169
          show OG _ _ _ _ _ _ _ _ _ _ _ (mkF m 191 #[sR a, sI vl, sR b, sI (Int32.ofNat U), sI 4, sI 0, sI 0, sU, sU] [(.int r169)])
          rcases Q169 with ⟨rfl, hq169⟩ | ⟨rfl, hq169⟩
          · exact absurd hq169 hw141
          refine oIfF W169 (cd := .ne) (o := 6) (by decide +kernel) (XT.i0_ne_f (by decide)) (pc' := 194) rfl ?_
          refine oGo W169 [.iconst 2, .istore 6] (by decide +kernel) (ls' := #[sR a, sI vl, sR b, sI (Int32.ofNat U), sI 4, sI 0, sI 2, sU, sU]) (st' := []) rfl rfl (pc' := 197) rfl ?_
          refine oGo W169 [.iload 4, .iconst 3] (by decide +kernel) (ls' := #[sR a, sI vl, sR b, sI (Int32.ofNat U), sI 4, sI 0, sI 2, sU, sU]) (st' := [(.int 3), (.int 4)]) rfl rfl (pc' := 200) rfl ?_
          refine oIcF W169 (cd := .le) (o := 15) (by decide +kernel) (XT.ii_le_f (by decide)) (pc' := 203) rfl ?_
          refine oGo W169 [.aload_n 0, .iconst 3] (by decide +kernel) (ls' := #[sR a, sI vl, sR b, sI (Int32.ofNat U), sI 4, sI 0, sI 2, sU, sU]) (st' := [(.int 3), (.ref a)]) rfl rfl (pc' := 205) rfl ?_
          refine oGet W169 A (v := (.int c3)) (by decide) rfl (Or.inl ⟨rfl, rfl⟩) (by decide +kernel) ?_
          obtain ⟨v170, T170, L170, h170, vm170, W170, ⟨r170, rfl, e170, Q170⟩, C170, st170⟩ := oCallS W169 (idx := 28) (pc := 206) (ls := #[sR a, sI vl, sR b, sI (Int32.ofNat U), sI 4, sI 0, sI 2, sU, sU]) (st := []) (argsL := [(.int c3)]) (c_ws K) (fun x hx => nomatch hx) (wK K 121 rfl) (wK K 122 rfl) (wK K 3 rfl) (wK K 123 rfl) (by decide) (na := 1) rfl (by decide +kernel) rfl (stk := [(.int c3)]) rfl (by decide +kernel) (V := 0) (lb rfl) (lb rfl) (lb rfl) (lb rfl) (lb rfl)
          refine oLift st170 ?_
          rw [e170] at W170 C170
          show OG _ _ _ _ _ _ _ _ _ _ _ (mkF m 209 #[sR a, sI vl, sR b, sI (Int32.ofNat U), sI 4, sI 0, sI 2, sU, sU] [(.int r170)])
          rcases Q170 with ⟨rfl, hq170⟩ | ⟨rfl, hq170⟩
          · exact absurd hq170 hw101
          refine oIfF W170 (cd := .ne) (o := 6) (by decide +kernel) (XT.i0_ne_f (by decide)) (pc' := 212) rfl ?_
          refine oGo W170 [.iconst 3, .istore 6] (by decide +kernel) (ls' := #[sR a, sI vl, sR b, sI (Int32.ofNat U), sI 4, sI 0, sI 3, sU, sU]) (st' := []) rfl rfl (pc' := 215) rfl ?_
          exact c_exp_c0_4 K hV hU W170 A B (by rw [he]; simp [strp, lw, rst, hw162, hw161, hw141, hw101])
      · refine oIfF W161 (cd := .ne) (o := 6) (by decide +kernel) (XT.i0_ne_f (by decide)) (pc' := 121) rfl ?_
        refine oGo W161 [.iconst 1, .istore 5] (by decide +kernel) (ls' := #[sR a, sI vl, sR b, sI (Int32.ofNat U), sI 4, sI 1, sU, sU, sU]) (st' := []) rfl rfl (pc' := 124) rfl ?_
        refine oGo W161 [.iload 4] (by decide +kernel) (ls' := #[sR a, sI vl, sR b, sI (Int32.ofNat U), sI 4, sI 1, sU, sU, sU]) (st' := [(.int 4)]) rfl rfl (pc' := 126) rfl ?_
        refine oIfF W161 (cd := .le) (o := 15) (by decide +kernel) (XT.i0_le_f (by decide)) (pc' := 129) rfl ?_
        refine oGo W161 [.aload_n 0, .iconst 0] (by decide +kernel) (ls' := #[sR a, sI vl, sR b, sI (Int32.ofNat U), sI 4, sI 1, sU, sU, sU]) (st' := [(.int 0), (.ref a)]) rfl rfl (pc' := 131) rfl ?_
        refine oGet W161 A (v := (.int c0)) (by decide) rfl (Or.inl ⟨rfl, rfl⟩) (by decide +kernel) ?_
        obtain ⟨v171, T171, L171, h171, vm171, W171, ⟨r171, rfl, e171, Q171⟩, C171, st171⟩ := oCallS W161 (idx := 28) (pc := 132) (ls := #[sR a, sI vl, sR b, sI (Int32.ofNat U), sI 4, sI 1, sU, sU, sU]) (st := []) (argsL := [(.int c0)]) (c_ws K) (fun x hx => nomatch hx) (wK K 121 rfl) (wK K 122 rfl) (wK K 3 rfl) (wK K 123 rfl) (by decide) (na := 1) rfl (by decide +kernel) rfl (stk := [(.int c0)]) rfl (by decide +kernel) (V := 0) (lb rfl) (lb rfl) (lb rfl) (lb rfl) (lb rfl)
        refine oLift st171 ?_
        rw [e171] at W171 C171
        show OG _ _ _ _ _ _ _ _ _ _ _ (mkF m 135 #[sR a, sI vl, sR b, sI (Int32.ofNat U), sI 4, sI 1, sU, sU, sU] [(.int r171)])
        rcases Q171 with ⟨rfl, hw171⟩ | ⟨rfl, hw171⟩
        · refine oIfT W171 (cd := .ne) (o := 6) (by decide +kernel) (XT.i0_ne_t (by decide)) (pc' := 141) (by decide) (by decide) ?_
          refine oGo W171 [.iconst (-1), .istore 6] (by decide +kernel) (ls' := #[sR a, sI vl, sR b, sI (Int32.ofNat U), sI 4, sI 1, sI (-1), sU, sU]) (st' := []) rfl rfl (pc' := 144) rfl ?_
          refine oGo W171 [.iload 4] (by decide +kernel) (ls' := #[sR a, sI vl, sR b, sI (Int32.ofNat U), sI 4, sI 1, sI (-1), sU, sU]) (st' := [(.int 4)]) rfl rfl (pc' := 146) rfl ?_
          refine oIfF W171 (cd := .le) (o := 15) (by decide +kernel) (XT.i0_le_f (by decide)) (pc' := 149) rfl ?_
          refine oGo W171 [.aload_n 0, .iconst 0] (by decide +kernel) (ls' := #[sR a, sI vl, sR b, sI (Int32.ofNat U), sI 4, sI 1, sI (-1), sU, sU]) (st' := [(.int 0), (.ref a)]) rfl rfl (pc' := 151) rfl ?_
          refine oGet W171 A (v := (.int c0)) (by decide) rfl (Or.inl ⟨rfl, rfl⟩) (by decide +kernel) ?_
          obtain ⟨v172, T172, L172, h172, vm172, W172, ⟨r172, rfl, e172, Q172⟩, C172, st172⟩ := oCallS W171 (idx := 28) (pc := 152) (ls := #[sR a, sI vl, sR b, sI (Int32.ofNat U), sI 4, sI 1, sI (-1), sU, sU]) (st := []) (argsL := [(.int c0)]) (c_ws K) (fun x hx => nomatch hx) (wK K 121 rfl) (wK K 122 rfl) (wK K 3 rfl) (wK K 123 rfl) (by decide) (na := 1) rfl (by decide +kernel) rfl (stk := [(.int c0)]) rfl (by decide +kernel) (V := 0) (lb rfl) (lb rfl) (lb rfl) (lb rfl) (lb rfl)
          refine oLift st172 ?_
          rw [e172] at W172 C172
          show OG _ _ _ _ _ _ _ _ _ _ _ (mkF m 155 #[sR a, sI vl, sR b, sI (Int32.ofNat U), sI 4, sI 1, sI (-1), sU, sU] [(.int r172)])
          rcases Q172 with ⟨rfl, hq172⟩ | ⟨rfl, hq172⟩
          rotate_left
          · exact absurd hw171 hq172
          refine oIfT W172 (cd := .ne) (o := 6) (by decide +kernel) (XT.i0_ne_t (by decide)) (pc' := 161) (by decide) (by decide) ?_
          refine oGo W172 [.iload 4, .iconst 1] (by decide +kernel) (ls' := #[sR a, sI vl, sR b, sI (Int32.ofNat U), sI 4, sI 1, sI (-1), sU, sU]) (st' := [(.int 1), (.int 4)]) rfl rfl (pc' := 164) rfl ?_
          refine oIcF W172 (cd := .le) (o := 15) (by decide +kernel) (XT.ii_le_f (by decide)) (pc' := 167) rfl ?_
          refine oGo W172 [.aload_n 0, .iconst 1] (by decide +kernel) (ls' := #[sR a, sI vl, sR b, sI (Int32.ofNat U), sI 4, sI 1, sI (-1), sU, sU]) (st' := [(.int 1), (.ref a)]) rfl rfl (pc' := 169) rfl ?_
          refine oGet W172 A (v := (.int c1)) (by decide) rfl (Or.inl ⟨rfl, rfl⟩) (by decide +kernel) ?_
          obtain ⟨v173, T173, L173, h173, vm173, W173, ⟨r173, rfl, e173, Q173⟩, C173, st173⟩ := oCallS W172 (idx := 28) (pc := 170) (ls := #[sR a, sI vl, sR b, sI (Int32.ofNat U), sI 4, sI 1, sI (-1), sU, sU]) (st := []) (argsL := [(.int c1)]) (c_ws K) (fun x hx => nomatch hx) (wK K 121 rfl) (wK K 122 rfl) (wK K 3 rfl) (wK K 123 rfl) (by decide) (na := 1) rfl (by decide +kernel) rfl (stk := [(.int c1)]) rfl (by decide +kernel) (V := 0) (lb rfl) (lb rfl) (lb rfl) (lb rfl) (lb rfl)
          refine oLift st173 ?_
          rw [e173] at W173 C173
          show OG _ _ _ _ _ _ _ _ _ _ _ (mkF m 173 #[sR a, sI vl, sR b, sI (Int32.ofNat U), sI 4, sI 1, sI (-1), sU, sU] [(.int r173)])
          rcases Q173 with ⟨rfl, hq173⟩ | ⟨rfl, hq173⟩
          · exact absurd hq173 hw161
          refine oIfF W173 (cd := .ne) (o := 6) (by decide +kernel) (XT.i0_ne_f (by decide)) (pc' := 176) rfl ?_
          refine oGo W173 [.iconst 1, .istore 6] (by decide +kernel) (ls' := #[sR a, sI vl, sR b, sI (Int32.ofNat U), sI 4, sI 1, sI 1, sU, sU]) (st' := []) rfl rfl (pc' := 179) rfl ?_
          refine oGo W173 [.iload 4, .iconst 2] (by decide +kernel) (ls' := #[sR a, sI vl, sR b, sI (Int32.ofNat U), sI 4, sI 1, sI 1, sU, sU]) (st' := [(.int 2), (.int 4)]) rfl rfl (pc' := 182) rfl ?_
          refine oIcF W173 (cd := .le) (o := 15) (by decide +kernel) (XT.ii_le_f (by decide)) (pc' := 185) rfl ?_
          refine oGo W173 [.aload_n 0, .iconst 2] (by decide +kernel) (ls' := #[sR a, sI vl, sR b, sI (Int32.ofNat U), sI 4, sI 1, sI 1, sU, sU]) (st' := [(.int 2), (.ref a)]) rfl rfl (pc' := 187) rfl ?_
          refine oGet W173 A (v := (.int c2)) (by decide) rfl (Or.inl ⟨rfl, rfl⟩) (by decide +kernel) ?_
          obtain ⟨v174, T174, L174, h174, vm174, W174, ⟨r174, rfl, e174, Q174⟩, C174, st174⟩ := oCallS W173 (idx := 28) (pc := 188) (ls := #[sR a, sI vl, sR b, sI (Int32.ofNat U), sI 4, sI 1, sI 1, sU, sU]) (st := []) (argsL := [(.int c2)]) (c_ws K) (fun x hx => nomatch hx) (wK K 121 rfl) (wK K 122 rfl) (wK K 3 rfl) (wK K 123 rfl) (by decide) (na := 1) rfl (by decide +kernel) rfl (stk := [(.int c2)]) rfl (by decide +kernel) (V := 0) (lb rfl) (lb rfl) (lb rfl) (lb rfl) (lb rfl)
          refine oLift st174 ?_
          rw [e174] at W174 C174
          show OG _ _ _ _ _ _ _ _ _ _ _ (mkF m 191 #[sR a, sI vl, sR b, sI (Int32.ofNat U), sI 4, sI 1, sI 1, sU, sU] [(.int r174)])
          rcases Q174 with ⟨rfl, hq174⟩ | ⟨rfl, hq174⟩
          · exact absurd hq174 hw141
          refine oIfF W174 (cd := .ne) (o := 6) (by decide +kernel) (XT.i0_ne_f (by decide)) (pc' := 194) rfl ?_
          refine oGo W174 [.iconst 2, .istore 6] (by decide +kernel) (ls' := #[sR a, sI vl, sR b, sI (Int32.ofNat U), sI 4, sI 1, sI 2, sU, sU]) (st' := []) rfl rfl (pc' := 197) rfl ?_
          refine oGo W174 [.iload 4, .iconst 3] (by decide +kernel) (ls' := #[sR a, sI vl, sR b, sI (Int32.ofNat U), sI 4, sI 1, sI 2, sU, sU]) (st' := [(.int 3), (.int 4)]) rfl rfl (pc' := 200) rfl ?_
          refine oIcF W174 (cd := .le) (o := 15) (by decide +kernel) (XT.ii_le_f (by decide)) (pc' := 203) rfl ?_
          refine oGo W174 [.aload_n 0, .iconst 3] (by decide +kernel) (ls' := #[sR a, sI vl, sR b, sI (Int32.ofNat U), sI 4, sI 1, sI 2, sU, sU]) (st' := [(.int 3), (.ref a)]) rfl rfl (pc' := 205) rfl ?_
          refine oGet W174 A (v := (.int c3)) (by decide) rfl (Or.inl ⟨rfl, rfl⟩) (by decide +kernel) ?_
          obtain ⟨v175, T175, L175, h175, vm175, W175, ⟨r175, rfl, e175, Q175⟩, C175, st175⟩ := oCallS W174 (idx := 28) (pc := 206) (ls := #[sR a, sI vl, sR b, sI (Int32.ofNat U), sI 4, sI 1, sI 2, sU, sU]) (st := []) (argsL := [(.int c3)]) (c_ws K) (fun x hx => nomatch hx) (wK K 121 rfl) (wK K 122 rfl) (wK K 3 rfl) (wK K 123 rfl) (by decide) (na := 1) rfl (by decide +kernel) rfl (stk := [(.int c3)]) rfl (by decide +kernel) (V := 0) (lb rfl) (lb rfl) (lb rfl) (lb rfl) (lb rfl)
          refine oLift st175 ?_
          rw [e175] at W175 C175
          show OG _ _ _ _ _ _ _ _ _ _ _ (mkF m 209 #[sR a, sI vl, sR b, sI (Int32.ofNat U), sI 4, sI 1, sI 2, sU, sU] [(.int r175)])
          rcases Q175 with ⟨rfl, hq175⟩ | ⟨rfl, hq175⟩
          · exact absurd hq175 hw101
          refine oIfF W175 (cd := .ne) (o := 6) (by decide +kernel) (XT.i0_ne_f (by decide)) (pc' := 212) rfl ?_
          refine oGo W175 [.iconst 3, .istore 6] (by decide +kernel) (ls' := #[sR a, sI vl, sR b, sI (Int32.ofNat U), sI 4, sI 1, sI 3, sU, sU]) (st' := []) rfl rfl (pc' := 215) rfl ?_
          exact c_exp_c1_4 K hV hU W175 A B (by rw [he]; simp [strp, lw, rst, hw171, hw161, hw141, hw101])
        · refine oIfF W171 (cd := .ne) (o := 6) (by decide +kernel) (XT.i0_ne_f (by decide)) (pc' := 138) rfl ?_
          refine oGo W171 [.iconst 0, .istore 5] (by decide +kernel) (ls' := #[sR a, sI vl, sR b, sI (Int32.ofNat U), sI 4, sI 0, sU, sU, sU]) (st' := []) rfl rfl (pc' := 141) rfl ?_
          refine oGo W171 [.iconst (-1), .istore 6] (by decide +kernel) (ls' := #[sR a, sI vl, sR b, sI (Int32.ofNat U), sI 4, sI 0, sI (-1), sU, sU]) (st' := []) rfl rfl (pc' := 144) rfl ?_
          refine oGo W171 [.iload 4] (by decide +kernel) (ls' := #[sR a, sI vl, sR b, sI (Int32.ofNat U), sI 4, sI 0, sI (-1), sU, sU]) (st' := [(.int 4)]) rfl rfl (pc' := 146) rfl ?_
          refine oIfF W171 (cd := .le) (o := 15) (by decide +kernel) (XT.i0_le_f (by decide)) (pc' := 149) rfl ?_
          refine oGo W171 [.aload_n 0, .iconst 0] (by decide +kernel) (ls' := #[sR a, sI vl, sR b, sI (Int32.ofNat U), sI 4, sI 0, sI (-1), sU, sU]) (st' := [(.int 0), (.ref a)]) rfl rfl (pc' := 151) rfl ?_
          refine oGet W171 A (v := (.int c0)) (by decide) rfl (Or.inl ⟨rfl, rfl⟩) (by decide +kernel) ?_
          obtain ⟨v176, T176, L176, h176, vm176, W176, ⟨r176, rfl, e176, Q176⟩, C176, st176⟩ := oCallS W171 (idx := 28) (pc := 152) (ls := #[sR a, sI vl, sR b, sI (Int32.ofNat U), sI 4, sI 0, sI (-1), sU, sU]) (st := []) (argsL := [(.int c0)]) (c_ws K) (fun x hx => nomatch hx) (wK K 121 rfl) (wK K 122 rfl) (wK K 3 rfl) (wK K 123 rfl) (by decide) (na := 1) rfl (by decide +kernel) rfl (stk := [(.int c0)]) rfl (by decide +kernel) (V := 0) (lb rfl) (lb rfl) (lb rfl) (lb rfl) (lb rfl)
          refine oLift st176 ?_
          rw [e176] at W176 C176
          show OG _ _ _ _ _ _ _ _ _ _ _ (mkF m 155 #[sR a, sI vl, sR b, sI (Int32.ofNat U), sI 4, sI 0, sI (-1), sU, sU] [(.int r176)])
          rcases Q176 with ⟨rfl, hq176⟩ | ⟨rfl, hq176⟩
          · exact absurd hq176 hw171
          refine oIfF W176 (cd := .ne) (o := 6) (by decide +kernel) (XT.i0_ne_f (by decide)) (pc' := 158) rfl ?_
          refine oGo W176 [.iconst 0, .istore 6] (by decide +kernel) (ls' := #[sR a, sI vl, sR b, sI (Int32.ofNat U), sI 4, sI 0, sI 0, sU, sU]) (st' := []) rfl rfl (pc' := 161) rfl ?_
          refine oGo W176 [.iload 4, .iconst 1] (by decide +kernel) (ls' := #[sR a, sI vl, sR b, sI (Int32.ofNat U), sI 4, sI 0, sI 0, sU, sU]) (st' := [(.int 1), (.int 4)]) rfl rfl (pc' := 164) rfl ?_
          refine oIcF W176 (cd := .le) (o := 15) (by decide +kernel) (XT.ii_le_f (by decide)) (pc' := 167) rfl ?_
          refine oGo W176 [.aload_n 0, .iconst 1] (by decide +kernel) (ls' := #[sR a, sI vl, sR b, sI (Int32.ofNat U), sI 4, sI 0, sI 0, sU, sU]) (st' := [(.int 1), (.ref a)]) rfl rfl (pc' := 169) rfl ?_
          refine oGet W176 A (v := (.int c1)) (by decide) rfl (Or.inl ⟨rfl, rfl⟩) (by decide +kernel) ?_
          obtain ⟨v177, T177, L177, h177, vm177, W177, ⟨r177, rfl, e177, Q177⟩, C177, st177⟩ := oCallS W176 (idx := 28) (pc := 170) (ls := #[sR a, sI vl, sR b, sI (Int32.ofNat U), sI 4, sI 0, sI 0, sU, sU]) (st := []) (argsL := [(.int c1)]) (c_ws K) (fun x hx => nomatch hx) (wK K 121 rfl) (wK K 122 rfl) (wK K 3 rfl) (wK K 123 rfl) (by decide) (na := 1) rfl (by decide +kernel) rfl (stk := [(.int c1)]) rfl (by decide +kernel) (V := 0) (lb rfl) (lb rfl) (lb rfl) (lb rfl) (lb rfl)
          refine oLift st177 ?_
          rw [e177] at W177 C177
          show OG _ _ _ _ _ _ _ _ _ _ _ (mkF m 173 #[sR a, sI vl, sR b, sI (Int32.ofNat U), sI 4, sI 0, sI 0, sU, sU] [(.int r177)])
          rcases Q177 with ⟨rfl, hq177⟩ | ⟨rfl, hq177⟩
          · exact absurd hq177 hw161
          refine oIfF W177 (cd := .ne) (o := 6) (by decide +kernel) (XT.i0_ne_f (by decide)) (pc' := 176) rfl ?_
          refine oGo W177 [.iconst 1, .istore 6] (by decide +kernel) (ls' := #[sR a, sI vl, sR b, sI (Int32.ofNat U), sI 4, sI 0, sI 1, sU, sU]) (st' := []) rfl rfl (pc' := 179) rfl ?_
          refine oGo W177 [.iload 4, .iconst 2] (by decide +kernel) (ls' := #[sR a, sI vl, sR b, sI (Int32.ofNat U), sI 4, sI 0, sI 1, sU, sU]) (st' := [(.int 2), (.int 4)]) rfl rfl (pc' := 182) rfl ?_
          refine oIcF W177 (cd := .le) (o := 15) (by decide +kernel) (XT.ii_le_f (by decide)) (pc' := 185) rfl ?_
          refine oGo W177 [.aload_n 0, .iconst 2] (by decide +kernel) (ls' := #[sR a, sI vl, sR b, sI (Int32.ofNat U), sI 4, sI 0, sI 1, sU, sU]) (st' := [(.int 2), (.ref a)]) rfl rfl (pc' := 187) rfl ?_
          refine oGet W177 A (v := (.int c2)) (by decide) rfl (Or.inl ⟨rfl, rfl⟩) (by decide +kernel) ?_
          obtain ⟨v178, T178, L178, h178, vm178, W178, ⟨r178, rfl, e178, Q178⟩, C178, st178⟩ := oCallS W177 (idx := 28) (pc := 188) (ls := #[sR a, sI vl, sR b, sI (Int32.ofNat U), sI 4, sI 0, sI 1, sU, sU]) (st := []) (argsL := [(.int c2)]) (c_ws K) (fun x hx => nomatch hx) (wK K 121 rfl) (wK K 122 rfl) (wK K 3 rfl) (wK K 123 rfl) (by decide) (na := 1) rfl (by decide +kernel) rfl (stk := [(.int c2)]) rfl (by decide +kernel) (V := 0) (lb rfl) (lb rfl) (lb rfl) (lb rfl) (lb rfl)
          refine oLift st178 ?_
          rw [e178] at W178 C178
          show OG _ _ _ _ _ _ _ _ _ _ _ (mkF m 191 #[sR a, sI vl, sR b, sI (Int32.ofNat U), sI 4, sI 0, sI 1, sU, sU] [(.int r178)])
          rcases Q178 with ⟨rfl, hq178⟩ | ⟨rfl, hq178⟩
          · exact absurd hq178 hw141
          refine oIfF W178 (cd := .ne) (o := 6) (by decide +kernel) (XT.i0_ne_f (by decide)) (pc' := 194) rfl ?_
          refine oGo W178 [.iconst 2, .istore 6] (by decide +kernel) (ls' := #[sR a, sI vl, sR b, sI (Int32.ofNat U), sI 4, sI 0, sI 2, sU, sU]) (st' := []) rfl rfl (pc' := 197) rfl ?_
          refine oGo W178 [.iload 4, .iconst 3] (by decide +kernel) (ls' := #[sR a, sI vl, sR b, sI (Int32.ofNat U), sI 4, sI 0, sI 2, sU, sU]) (st' := [(.int 3), (.int 4)]) rfl rfl (pc' := 200) rfl ?_
          refine oIcF W178 (cd := .le) (o := 15) (by decide +kernel) (XT.ii_le_f (by decide)) (pc' := 203) rfl ?_
          refine oGo W178 [.aload_n 0, .iconst 3] (by decide +kernel) (ls' := #[sR a, sI vl, sR b, sI (Int32.ofNat U), sI 4, sI 0, sI 2, sU, sU]) (st' := [(.int 3), (.ref a)]) rfl rfl (pc' := 205) rfl ?_
          refine oGet W178 A (v := (.int c3)) (by decide) rfl (Or.inl ⟨rfl, rfl⟩) (by decide +kernel) ?_
          obtain ⟨v179, T179, L179, h179, vm179, W179, ⟨r179, rfl, e179, Q179⟩, C179, st179⟩ := oCallS W178 (idx := 28) (pc := 206) (ls := #[sR a, sI vl, sR b, sI (Int32.ofNat U), sI 4, sI 0, sI 2, sU, sU]) (st := []) (argsL := [(.int c3)]) (c_ws K) (fun x hx => nomatch hx) (wK K 121 rfl) (wK K 122 rfl) (wK K 3 rfl) (wK K 123 rfl) (by decide) (na := 1) rfl (by decide +kernel) rfl (stk := [(.int c3)]) rfl (by decide +kernel) (V := 0) (lb rfl) (lb rfl) (lb rfl) (lb rfl) (lb rfl)
          refine oLift st179 ?_
          rw [e179] at W179 C179
          show OG _ _ _ _ _ _ _ _ _ _ _ (mkF m 209 #[sR a, sI vl, sR b, sI (Int32.ofNat U), sI 4, sI 0, sI 2, sU, sU] [(.int r179)])
          rcases Q179 with ⟨rfl, hq179⟩ | ⟨rfl, hq179⟩
          · exact absurd hq179 hw101
          refine oIfF W179 (cd := .ne) (o := 6) (by decide +kernel) (XT.i0_ne_f (by decide)) (pc' := 212) rfl ?_
          refine oGo W179 [.iconst 3, .istore 6] (by decide +kernel) (ls' := #[sR a, sI vl, sR b, sI (Int32.ofNat U), sI 4, sI 0, sI 3, sU, sU]) (st' := []) rfl rfl (pc' := 215) rfl ?_
          exact c_exp_c0_4 K hV hU W179 A B (by rw [he]; simp [strp, lw, rst, hw171, hw161, hw141, hw101])

set_option maxRecDepth 65536 in
set_option maxHeartbeats 40000000 in
theorem c_exp {l : Launch} {Z : State} {a0 : Array Value} {nb : Bool} (K : Ctx Z a0) {a b : Addr} {ka kb : ClassId} {c0 c1 c2 c3 d0 d1 d2 d3 : Int32} {V U : Nat} {h0 : Heap} (hV : V ≤ 4) (hU : U ≤ 4) (A : OA Z h0 a ka .char [.int c0, .int c1, .int c2, .int c3]) (B : OA Z h0 b kb .char [.int d0, .int d1, .int d2, .int d3]) :
    OC l Z EL nb [] (⟨"com/example/gentle_hub/gentlehub/server/MediaTypesNamesPinLaw", "expected", "([CI[CI)Z"⟩ : MethodName) method_6_code 9 (some .boolean) rm_c_exp #[(.ref a), (.int (Int32.ofNat V)), (.ref b), (.int (Int32.ofNat U))] h0 [] (fun v _ h => ∃ r, v = some (.int r) ∧ h = h0 ∧ ((r = 1 ∧ Nm (([c0, c1, c2, c3] : List Int32).take V) (([d0, d1, d2, d3] : List Int32).take U)) ∨ (r = 0 ∧ ¬ (Nm (([c0, c1, c2, c3] : List Int32).take V) (([d0, d1, d2, d3] : List Int32).take U))))) := by
  have hw := K.1
  have hS : ∀ a ∈ Bundle.stringAtoms, a.before a0 Z = true := K.2.2.1
  have hv : V = 0 ∨ V = 1 ∨ V = 2 ∨ V = 3 ∨ V = 4 := by omega
  refine oEnter (by decide +kernel) K.2.1.2.1 ?_
  intro _p _e _s m _below _meth _c T0 W0 S0
  refine oEq (g' := mkF m 0 #[.val (.ref a), .val (.int (Int32.ofNat V)), .val (.ref b), .val (.int (Int32.ofNat U)), .unset, .unset, .unset, .unset, .unset] []) (by first | (simp [entryFrame, mkF, argsToLocals, Value.category]; done) | rfl) ?_
  rcases hv with rfl | rfl | rfl | rfl | rfl
  · show OG _ _ _ _ _ _ _ _ _ _ _ (mkF m 0 #[sR a, sI 0, sR b, sI (Int32.ofNat U), sU, sU, sU, sU, sU] [])
    refine oGo W0 [.iload_n 1, .istore 4, .iload_n 1, .iconst 3] (by decide +kernel) (ls' := #[sR a, sI 0, sR b, sI (Int32.ofNat U), sI 0, sU, sU, sU, sU]) (st' := [(.int 3), (.int 0)]) rfl rfl (pc' := 5) rfl ?_
    refine oIcT W0 (cd := .le) (o := 14) (by decide +kernel) (XT.ii_le_t (by decide)) (pc' := 19) (by decide) (by decide) ?_
    refine oGo W0 [.iload_n 1, .iconst 2] (by decide +kernel) (ls' := #[sR a, sI 0, sR b, sI (Int32.ofNat U), sI 0, sU, sU, sU, sU]) (st' := [(.int 2), (.int 0)]) rfl rfl (pc' := 21) rfl ?_
    refine oIcT W0 (cd := .le) (o := 14) (by decide +kernel) (XT.ii_le_t (by decide)) (pc' := 35) (by decide) (by decide) ?_
    refine oGo W0 [.iload_n 1, .iconst 1] (by decide +kernel) (ls' := #[sR a, sI 0, sR b, sI (Int32.ofNat U), sI 0, sU, sU, sU, sU]) (st' := [(.int 1), (.int 0)]) rfl rfl (pc' := 37) rfl ?_
    refine oIcT W0 (cd := .le) (o := 14) (by decide +kernel) (XT.ii_le_t (by decide)) (pc' := 51) (by decide) (by decide) ?_
    refine oGo W0 [.iload_n 1] (by decide +kernel) (ls' := #[sR a, sI 0, sR b, sI (Int32.ofNat U), sI 0, sU, sU, sU, sU]) (st' := [(.int 0)]) rfl rfl (pc' := 52) rfl ?_
    refine oIfT W0 (cd := .le) (o := 14) (by decide +kernel) (XT.i0_le_t (by decide)) (pc' := 66) (by decide) (by decide) ?_
    exact c_exp_b0 K (V := 0) hV hU W0 A B (by simp [ess])
  · show OG _ _ _ _ _ _ _ _ _ _ _ (mkF m 0 #[sR a, sI 1, sR b, sI (Int32.ofNat U), sU, sU, sU, sU, sU] [])
    refine oGo W0 [.iload_n 1, .istore 4, .iload_n 1, .iconst 3] (by decide +kernel) (ls' := #[sR a, sI 1, sR b, sI (Int32.ofNat U), sI 1, sU, sU, sU, sU]) (st' := [(.int 3), (.int 1)]) rfl rfl (pc' := 5) rfl ?_
    refine oIcT W0 (cd := .le) (o := 14) (by decide +kernel) (XT.ii_le_t (by decide)) (pc' := 19) (by decide) (by decide) ?_
    refine oGo W0 [.iload_n 1, .iconst 2] (by decide +kernel) (ls' := #[sR a, sI 1, sR b, sI (Int32.ofNat U), sI 1, sU, sU, sU, sU]) (st' := [(.int 2), (.int 1)]) rfl rfl (pc' := 21) rfl ?_
    refine oIcT W0 (cd := .le) (o := 14) (by decide +kernel) (XT.ii_le_t (by decide)) (pc' := 35) (by decide) (by decide) ?_
    refine oGo W0 [.iload_n 1, .iconst 1] (by decide +kernel) (ls' := #[sR a, sI 1, sR b, sI (Int32.ofNat U), sI 1, sU, sU, sU, sU]) (st' := [(.int 1), (.int 1)]) rfl rfl (pc' := 37) rfl ?_
    refine oIcT W0 (cd := .le) (o := 14) (by decide +kernel) (XT.ii_le_t (by decide)) (pc' := 51) (by decide) (by decide) ?_
    refine oGo W0 [.iload_n 1] (by decide +kernel) (ls' := #[sR a, sI 1, sR b, sI (Int32.ofNat U), sI 1, sU, sU, sU, sU]) (st' := [(.int 1)]) rfl rfl (pc' := 52) rfl ?_
    refine oIfF W0 (cd := .le) (o := 14) (by decide +kernel) (XT.i0_le_f (by decide)) (pc' := 55) rfl ?_
    refine oGo W0 [.aload_n 0, .iconst 0] (by decide +kernel) (ls' := #[sR a, sI 1, sR b, sI (Int32.ofNat U), sI 1, sU, sU, sU, sU]) (st' := [(.int 0), (.ref a)]) rfl rfl (pc' := 57) rfl ?_
    refine oGet W0 A (v := (.int c0)) (by decide) rfl (Or.inl ⟨rfl, rfl⟩) (by decide +kernel) ?_
    refine oGo W0 [.bipush 59] (by decide +kernel) (ls' := #[sR a, sI 1, sR b, sI (Int32.ofNat U), sI 1, sU, sU, sU, sU]) (st' := [(.int 59), (.int c0)]) rfl rfl (pc' := 60) rfl ?_
    by_cases hc1 : c0 = (59 : Int32)
    · refine oIcF W0 (cd := .ne) (o := 6) (by decide +kernel) (XT.ii_ne_f hc1) (pc' := 63) rfl ?_
      refine oGo W0 [.iconst 0, .istore 4] (by decide +kernel) (ls' := #[sR a, sI 1, sR b, sI (Int32.ofNat U), sI 0, sU, sU, sU, sU]) (st' := []) rfl rfl (pc' := 66) rfl ?_
      exact c_exp_b0 K (V := 1) hV hU W0 A B (by simp [ess, hc1])
    refine oIcT W0 (cd := .ne) (o := 6) (by decide +kernel) (XT.ii_ne_t hc1) (pc' := 66) (by decide) (by decide) ?_
    exact c_exp_b1 K (V := 1) hV hU W0 A B (by simp [ess, hc1])
  · show OG _ _ _ _ _ _ _ _ _ _ _ (mkF m 0 #[sR a, sI 2, sR b, sI (Int32.ofNat U), sU, sU, sU, sU, sU] [])
    refine oGo W0 [.iload_n 1, .istore 4, .iload_n 1, .iconst 3] (by decide +kernel) (ls' := #[sR a, sI 2, sR b, sI (Int32.ofNat U), sI 2, sU, sU, sU, sU]) (st' := [(.int 3), (.int 2)]) rfl rfl (pc' := 5) rfl ?_
    refine oIcT W0 (cd := .le) (o := 14) (by decide +kernel) (XT.ii_le_t (by decide)) (pc' := 19) (by decide) (by decide) ?_
    refine oGo W0 [.iload_n 1, .iconst 2] (by decide +kernel) (ls' := #[sR a, sI 2, sR b, sI (Int32.ofNat U), sI 2, sU, sU, sU, sU]) (st' := [(.int 2), (.int 2)]) rfl rfl (pc' := 21) rfl ?_
    refine oIcT W0 (cd := .le) (o := 14) (by decide +kernel) (XT.ii_le_t (by decide)) (pc' := 35) (by decide) (by decide) ?_
    refine oGo W0 [.iload_n 1, .iconst 1] (by decide +kernel) (ls' := #[sR a, sI 2, sR b, sI (Int32.ofNat U), sI 2, sU, sU, sU, sU]) (st' := [(.int 1), (.int 2)]) rfl rfl (pc' := 37) rfl ?_
    refine oIcF W0 (cd := .le) (o := 14) (by decide +kernel) (XT.ii_le_f (by decide)) (pc' := 40) rfl ?_
    refine oGo W0 [.aload_n 0, .iconst 1] (by decide +kernel) (ls' := #[sR a, sI 2, sR b, sI (Int32.ofNat U), sI 2, sU, sU, sU, sU]) (st' := [(.int 1), (.ref a)]) rfl rfl (pc' := 42) rfl ?_
    refine oGet W0 A (v := (.int c1)) (by decide) rfl (Or.inl ⟨rfl, rfl⟩) (by decide +kernel) ?_
    refine oGo W0 [.bipush 59] (by decide +kernel) (ls' := #[sR a, sI 2, sR b, sI (Int32.ofNat U), sI 2, sU, sU, sU, sU]) (st' := [(.int 59), (.int c1)]) rfl rfl (pc' := 45) rfl ?_
    by_cases hc2 : c1 = (59 : Int32)
    · refine oIcF W0 (cd := .ne) (o := 6) (by decide +kernel) (XT.ii_ne_f hc2) (pc' := 48) rfl ?_
      refine oGo W0 [.iconst 1, .istore 4] (by decide +kernel) (ls' := #[sR a, sI 2, sR b, sI (Int32.ofNat U), sI 1, sU, sU, sU, sU]) (st' := []) rfl rfl (pc' := 51) rfl ?_
      refine oGo W0 [.iload_n 1] (by decide +kernel) (ls' := #[sR a, sI 2, sR b, sI (Int32.ofNat U), sI 1, sU, sU, sU, sU]) (st' := [(.int 2)]) rfl rfl (pc' := 52) rfl ?_
      refine oIfF W0 (cd := .le) (o := 14) (by decide +kernel) (XT.i0_le_f (by decide)) (pc' := 55) rfl ?_
      refine oGo W0 [.aload_n 0, .iconst 0] (by decide +kernel) (ls' := #[sR a, sI 2, sR b, sI (Int32.ofNat U), sI 1, sU, sU, sU, sU]) (st' := [(.int 0), (.ref a)]) rfl rfl (pc' := 57) rfl ?_
      refine oGet W0 A (v := (.int c0)) (by decide) rfl (Or.inl ⟨rfl, rfl⟩) (by decide +kernel) ?_
      refine oGo W0 [.bipush 59] (by decide +kernel) (ls' := #[sR a, sI 2, sR b, sI (Int32.ofNat U), sI 1, sU, sU, sU, sU]) (st' := [(.int 59), (.int c0)]) rfl rfl (pc' := 60) rfl ?_
      by_cases hc3 : c0 = (59 : Int32)
      · refine oIcF W0 (cd := .ne) (o := 6) (by decide +kernel) (XT.ii_ne_f hc3) (pc' := 63) rfl ?_
        refine oGo W0 [.iconst 0, .istore 4] (by decide +kernel) (ls' := #[sR a, sI 2, sR b, sI (Int32.ofNat U), sI 0, sU, sU, sU, sU]) (st' := []) rfl rfl (pc' := 66) rfl ?_
        exact c_exp_b0 K (V := 2) hV hU W0 A B (by simp [ess, hc2, hc3])
      refine oIcT W0 (cd := .ne) (o := 6) (by decide +kernel) (XT.ii_ne_t hc3) (pc' := 66) (by decide) (by decide) ?_
      exact c_exp_b1 K (V := 2) hV hU W0 A B (by simp [ess, hc2, hc3])
    refine oIcT W0 (cd := .ne) (o := 6) (by decide +kernel) (XT.ii_ne_t hc2) (pc' := 51) (by decide) (by decide) ?_
    refine oGo W0 [.iload_n 1] (by decide +kernel) (ls' := #[sR a, sI 2, sR b, sI (Int32.ofNat U), sI 2, sU, sU, sU, sU]) (st' := [(.int 2)]) rfl rfl (pc' := 52) rfl ?_
    refine oIfF W0 (cd := .le) (o := 14) (by decide +kernel) (XT.i0_le_f (by decide)) (pc' := 55) rfl ?_
    refine oGo W0 [.aload_n 0, .iconst 0] (by decide +kernel) (ls' := #[sR a, sI 2, sR b, sI (Int32.ofNat U), sI 2, sU, sU, sU, sU]) (st' := [(.int 0), (.ref a)]) rfl rfl (pc' := 57) rfl ?_
    refine oGet W0 A (v := (.int c0)) (by decide) rfl (Or.inl ⟨rfl, rfl⟩) (by decide +kernel) ?_
    refine oGo W0 [.bipush 59] (by decide +kernel) (ls' := #[sR a, sI 2, sR b, sI (Int32.ofNat U), sI 2, sU, sU, sU, sU]) (st' := [(.int 59), (.int c0)]) rfl rfl (pc' := 60) rfl ?_
    by_cases hc4 : c0 = (59 : Int32)
    · refine oIcF W0 (cd := .ne) (o := 6) (by decide +kernel) (XT.ii_ne_f hc4) (pc' := 63) rfl ?_
      refine oGo W0 [.iconst 0, .istore 4] (by decide +kernel) (ls' := #[sR a, sI 2, sR b, sI (Int32.ofNat U), sI 0, sU, sU, sU, sU]) (st' := []) rfl rfl (pc' := 66) rfl ?_
      exact c_exp_b0 K (V := 2) hV hU W0 A B (by simp [ess, hc2, hc4])
    refine oIcT W0 (cd := .ne) (o := 6) (by decide +kernel) (XT.ii_ne_t hc4) (pc' := 66) (by decide) (by decide) ?_
    exact c_exp_b2 K (V := 2) hV hU W0 A B (by simp [ess, hc2, hc4])
  · show OG _ _ _ _ _ _ _ _ _ _ _ (mkF m 0 #[sR a, sI 3, sR b, sI (Int32.ofNat U), sU, sU, sU, sU, sU] [])
    refine oGo W0 [.iload_n 1, .istore 4, .iload_n 1, .iconst 3] (by decide +kernel) (ls' := #[sR a, sI 3, sR b, sI (Int32.ofNat U), sI 3, sU, sU, sU, sU]) (st' := [(.int 3), (.int 3)]) rfl rfl (pc' := 5) rfl ?_
    refine oIcT W0 (cd := .le) (o := 14) (by decide +kernel) (XT.ii_le_t (by decide)) (pc' := 19) (by decide) (by decide) ?_
    refine oGo W0 [.iload_n 1, .iconst 2] (by decide +kernel) (ls' := #[sR a, sI 3, sR b, sI (Int32.ofNat U), sI 3, sU, sU, sU, sU]) (st' := [(.int 2), (.int 3)]) rfl rfl (pc' := 21) rfl ?_
    refine oIcF W0 (cd := .le) (o := 14) (by decide +kernel) (XT.ii_le_f (by decide)) (pc' := 24) rfl ?_
    refine oGo W0 [.aload_n 0, .iconst 2] (by decide +kernel) (ls' := #[sR a, sI 3, sR b, sI (Int32.ofNat U), sI 3, sU, sU, sU, sU]) (st' := [(.int 2), (.ref a)]) rfl rfl (pc' := 26) rfl ?_
    refine oGet W0 A (v := (.int c2)) (by decide) rfl (Or.inl ⟨rfl, rfl⟩) (by decide +kernel) ?_
    refine oGo W0 [.bipush 59] (by decide +kernel) (ls' := #[sR a, sI 3, sR b, sI (Int32.ofNat U), sI 3, sU, sU, sU, sU]) (st' := [(.int 59), (.int c2)]) rfl rfl (pc' := 29) rfl ?_
    by_cases hc5 : c2 = (59 : Int32)
    · refine oIcF W0 (cd := .ne) (o := 6) (by decide +kernel) (XT.ii_ne_f hc5) (pc' := 32) rfl ?_
      refine oGo W0 [.iconst 2, .istore 4] (by decide +kernel) (ls' := #[sR a, sI 3, sR b, sI (Int32.ofNat U), sI 2, sU, sU, sU, sU]) (st' := []) rfl rfl (pc' := 35) rfl ?_
      refine oGo W0 [.iload_n 1, .iconst 1] (by decide +kernel) (ls' := #[sR a, sI 3, sR b, sI (Int32.ofNat U), sI 2, sU, sU, sU, sU]) (st' := [(.int 1), (.int 3)]) rfl rfl (pc' := 37) rfl ?_
      refine oIcF W0 (cd := .le) (o := 14) (by decide +kernel) (XT.ii_le_f (by decide)) (pc' := 40) rfl ?_
      refine oGo W0 [.aload_n 0, .iconst 1] (by decide +kernel) (ls' := #[sR a, sI 3, sR b, sI (Int32.ofNat U), sI 2, sU, sU, sU, sU]) (st' := [(.int 1), (.ref a)]) rfl rfl (pc' := 42) rfl ?_
      refine oGet W0 A (v := (.int c1)) (by decide) rfl (Or.inl ⟨rfl, rfl⟩) (by decide +kernel) ?_
      refine oGo W0 [.bipush 59] (by decide +kernel) (ls' := #[sR a, sI 3, sR b, sI (Int32.ofNat U), sI 2, sU, sU, sU, sU]) (st' := [(.int 59), (.int c1)]) rfl rfl (pc' := 45) rfl ?_
      by_cases hc6 : c1 = (59 : Int32)
      · refine oIcF W0 (cd := .ne) (o := 6) (by decide +kernel) (XT.ii_ne_f hc6) (pc' := 48) rfl ?_
        refine oGo W0 [.iconst 1, .istore 4] (by decide +kernel) (ls' := #[sR a, sI 3, sR b, sI (Int32.ofNat U), sI 1, sU, sU, sU, sU]) (st' := []) rfl rfl (pc' := 51) rfl ?_
        refine oGo W0 [.iload_n 1] (by decide +kernel) (ls' := #[sR a, sI 3, sR b, sI (Int32.ofNat U), sI 1, sU, sU, sU, sU]) (st' := [(.int 3)]) rfl rfl (pc' := 52) rfl ?_
        refine oIfF W0 (cd := .le) (o := 14) (by decide +kernel) (XT.i0_le_f (by decide)) (pc' := 55) rfl ?_
        refine oGo W0 [.aload_n 0, .iconst 0] (by decide +kernel) (ls' := #[sR a, sI 3, sR b, sI (Int32.ofNat U), sI 1, sU, sU, sU, sU]) (st' := [(.int 0), (.ref a)]) rfl rfl (pc' := 57) rfl ?_
        refine oGet W0 A (v := (.int c0)) (by decide) rfl (Or.inl ⟨rfl, rfl⟩) (by decide +kernel) ?_
        refine oGo W0 [.bipush 59] (by decide +kernel) (ls' := #[sR a, sI 3, sR b, sI (Int32.ofNat U), sI 1, sU, sU, sU, sU]) (st' := [(.int 59), (.int c0)]) rfl rfl (pc' := 60) rfl ?_
        by_cases hc7 : c0 = (59 : Int32)
        · refine oIcF W0 (cd := .ne) (o := 6) (by decide +kernel) (XT.ii_ne_f hc7) (pc' := 63) rfl ?_
          refine oGo W0 [.iconst 0, .istore 4] (by decide +kernel) (ls' := #[sR a, sI 3, sR b, sI (Int32.ofNat U), sI 0, sU, sU, sU, sU]) (st' := []) rfl rfl (pc' := 66) rfl ?_
          exact c_exp_b0 K (V := 3) hV hU W0 A B (by simp [ess, hc5, hc6, hc7])
        refine oIcT W0 (cd := .ne) (o := 6) (by decide +kernel) (XT.ii_ne_t hc7) (pc' := 66) (by decide) (by decide) ?_
        exact c_exp_b1 K (V := 3) hV hU W0 A B (by simp [ess, hc5, hc6, hc7])
      refine oIcT W0 (cd := .ne) (o := 6) (by decide +kernel) (XT.ii_ne_t hc6) (pc' := 51) (by decide) (by decide) ?_
      refine oGo W0 [.iload_n 1] (by decide +kernel) (ls' := #[sR a, sI 3, sR b, sI (Int32.ofNat U), sI 2, sU, sU, sU, sU]) (st' := [(.int 3)]) rfl rfl (pc' := 52) rfl ?_
      refine oIfF W0 (cd := .le) (o := 14) (by decide +kernel) (XT.i0_le_f (by decide)) (pc' := 55) rfl ?_
      refine oGo W0 [.aload_n 0, .iconst 0] (by decide +kernel) (ls' := #[sR a, sI 3, sR b, sI (Int32.ofNat U), sI 2, sU, sU, sU, sU]) (st' := [(.int 0), (.ref a)]) rfl rfl (pc' := 57) rfl ?_
      refine oGet W0 A (v := (.int c0)) (by decide) rfl (Or.inl ⟨rfl, rfl⟩) (by decide +kernel) ?_
      refine oGo W0 [.bipush 59] (by decide +kernel) (ls' := #[sR a, sI 3, sR b, sI (Int32.ofNat U), sI 2, sU, sU, sU, sU]) (st' := [(.int 59), (.int c0)]) rfl rfl (pc' := 60) rfl ?_
      by_cases hc8 : c0 = (59 : Int32)
      · refine oIcF W0 (cd := .ne) (o := 6) (by decide +kernel) (XT.ii_ne_f hc8) (pc' := 63) rfl ?_
        refine oGo W0 [.iconst 0, .istore 4] (by decide +kernel) (ls' := #[sR a, sI 3, sR b, sI (Int32.ofNat U), sI 0, sU, sU, sU, sU]) (st' := []) rfl rfl (pc' := 66) rfl ?_
        exact c_exp_b0 K (V := 3) hV hU W0 A B (by simp [ess, hc5, hc6, hc8])
      refine oIcT W0 (cd := .ne) (o := 6) (by decide +kernel) (XT.ii_ne_t hc8) (pc' := 66) (by decide) (by decide) ?_
      exact c_exp_b2 K (V := 3) hV hU W0 A B (by simp [ess, hc5, hc6, hc8])
    refine oIcT W0 (cd := .ne) (o := 6) (by decide +kernel) (XT.ii_ne_t hc5) (pc' := 35) (by decide) (by decide) ?_
    refine oGo W0 [.iload_n 1, .iconst 1] (by decide +kernel) (ls' := #[sR a, sI 3, sR b, sI (Int32.ofNat U), sI 3, sU, sU, sU, sU]) (st' := [(.int 1), (.int 3)]) rfl rfl (pc' := 37) rfl ?_
    refine oIcF W0 (cd := .le) (o := 14) (by decide +kernel) (XT.ii_le_f (by decide)) (pc' := 40) rfl ?_
    refine oGo W0 [.aload_n 0, .iconst 1] (by decide +kernel) (ls' := #[sR a, sI 3, sR b, sI (Int32.ofNat U), sI 3, sU, sU, sU, sU]) (st' := [(.int 1), (.ref a)]) rfl rfl (pc' := 42) rfl ?_
    refine oGet W0 A (v := (.int c1)) (by decide) rfl (Or.inl ⟨rfl, rfl⟩) (by decide +kernel) ?_
    refine oGo W0 [.bipush 59] (by decide +kernel) (ls' := #[sR a, sI 3, sR b, sI (Int32.ofNat U), sI 3, sU, sU, sU, sU]) (st' := [(.int 59), (.int c1)]) rfl rfl (pc' := 45) rfl ?_
    by_cases hc9 : c1 = (59 : Int32)
    · refine oIcF W0 (cd := .ne) (o := 6) (by decide +kernel) (XT.ii_ne_f hc9) (pc' := 48) rfl ?_
      refine oGo W0 [.iconst 1, .istore 4] (by decide +kernel) (ls' := #[sR a, sI 3, sR b, sI (Int32.ofNat U), sI 1, sU, sU, sU, sU]) (st' := []) rfl rfl (pc' := 51) rfl ?_
      refine oGo W0 [.iload_n 1] (by decide +kernel) (ls' := #[sR a, sI 3, sR b, sI (Int32.ofNat U), sI 1, sU, sU, sU, sU]) (st' := [(.int 3)]) rfl rfl (pc' := 52) rfl ?_
      refine oIfF W0 (cd := .le) (o := 14) (by decide +kernel) (XT.i0_le_f (by decide)) (pc' := 55) rfl ?_
      refine oGo W0 [.aload_n 0, .iconst 0] (by decide +kernel) (ls' := #[sR a, sI 3, sR b, sI (Int32.ofNat U), sI 1, sU, sU, sU, sU]) (st' := [(.int 0), (.ref a)]) rfl rfl (pc' := 57) rfl ?_
      refine oGet W0 A (v := (.int c0)) (by decide) rfl (Or.inl ⟨rfl, rfl⟩) (by decide +kernel) ?_
      refine oGo W0 [.bipush 59] (by decide +kernel) (ls' := #[sR a, sI 3, sR b, sI (Int32.ofNat U), sI 1, sU, sU, sU, sU]) (st' := [(.int 59), (.int c0)]) rfl rfl (pc' := 60) rfl ?_
      by_cases hc10 : c0 = (59 : Int32)
      · refine oIcF W0 (cd := .ne) (o := 6) (by decide +kernel) (XT.ii_ne_f hc10) (pc' := 63) rfl ?_
        refine oGo W0 [.iconst 0, .istore 4] (by decide +kernel) (ls' := #[sR a, sI 3, sR b, sI (Int32.ofNat U), sI 0, sU, sU, sU, sU]) (st' := []) rfl rfl (pc' := 66) rfl ?_
        exact c_exp_b0 K (V := 3) hV hU W0 A B (by simp [ess, hc5, hc9, hc10])
      refine oIcT W0 (cd := .ne) (o := 6) (by decide +kernel) (XT.ii_ne_t hc10) (pc' := 66) (by decide) (by decide) ?_
      exact c_exp_b1 K (V := 3) hV hU W0 A B (by simp [ess, hc5, hc9, hc10])
    refine oIcT W0 (cd := .ne) (o := 6) (by decide +kernel) (XT.ii_ne_t hc9) (pc' := 51) (by decide) (by decide) ?_
    refine oGo W0 [.iload_n 1] (by decide +kernel) (ls' := #[sR a, sI 3, sR b, sI (Int32.ofNat U), sI 3, sU, sU, sU, sU]) (st' := [(.int 3)]) rfl rfl (pc' := 52) rfl ?_
    refine oIfF W0 (cd := .le) (o := 14) (by decide +kernel) (XT.i0_le_f (by decide)) (pc' := 55) rfl ?_
    refine oGo W0 [.aload_n 0, .iconst 0] (by decide +kernel) (ls' := #[sR a, sI 3, sR b, sI (Int32.ofNat U), sI 3, sU, sU, sU, sU]) (st' := [(.int 0), (.ref a)]) rfl rfl (pc' := 57) rfl ?_
    refine oGet W0 A (v := (.int c0)) (by decide) rfl (Or.inl ⟨rfl, rfl⟩) (by decide +kernel) ?_
    refine oGo W0 [.bipush 59] (by decide +kernel) (ls' := #[sR a, sI 3, sR b, sI (Int32.ofNat U), sI 3, sU, sU, sU, sU]) (st' := [(.int 59), (.int c0)]) rfl rfl (pc' := 60) rfl ?_
    by_cases hc11 : c0 = (59 : Int32)
    · refine oIcF W0 (cd := .ne) (o := 6) (by decide +kernel) (XT.ii_ne_f hc11) (pc' := 63) rfl ?_
      refine oGo W0 [.iconst 0, .istore 4] (by decide +kernel) (ls' := #[sR a, sI 3, sR b, sI (Int32.ofNat U), sI 0, sU, sU, sU, sU]) (st' := []) rfl rfl (pc' := 66) rfl ?_
      exact c_exp_b0 K (V := 3) hV hU W0 A B (by simp [ess, hc5, hc9, hc11])
    refine oIcT W0 (cd := .ne) (o := 6) (by decide +kernel) (XT.ii_ne_t hc11) (pc' := 66) (by decide) (by decide) ?_
    exact c_exp_b3 K (V := 3) hV hU W0 A B (by simp [ess, hc5, hc9, hc11])
  · show OG _ _ _ _ _ _ _ _ _ _ _ (mkF m 0 #[sR a, sI 4, sR b, sI (Int32.ofNat U), sU, sU, sU, sU, sU] [])
    refine oGo W0 [.iload_n 1, .istore 4, .iload_n 1, .iconst 3] (by decide +kernel) (ls' := #[sR a, sI 4, sR b, sI (Int32.ofNat U), sI 4, sU, sU, sU, sU]) (st' := [(.int 3), (.int 4)]) rfl rfl (pc' := 5) rfl ?_
    refine oIcF W0 (cd := .le) (o := 14) (by decide +kernel) (XT.ii_le_f (by decide)) (pc' := 8) rfl ?_
    refine oGo W0 [.aload_n 0, .iconst 3] (by decide +kernel) (ls' := #[sR a, sI 4, sR b, sI (Int32.ofNat U), sI 4, sU, sU, sU, sU]) (st' := [(.int 3), (.ref a)]) rfl rfl (pc' := 10) rfl ?_
    refine oGet W0 A (v := (.int c3)) (by decide) rfl (Or.inl ⟨rfl, rfl⟩) (by decide +kernel) ?_
    refine oGo W0 [.bipush 59] (by decide +kernel) (ls' := #[sR a, sI 4, sR b, sI (Int32.ofNat U), sI 4, sU, sU, sU, sU]) (st' := [(.int 59), (.int c3)]) rfl rfl (pc' := 13) rfl ?_
    by_cases hc12 : c3 = (59 : Int32)
    · refine oIcF W0 (cd := .ne) (o := 6) (by decide +kernel) (XT.ii_ne_f hc12) (pc' := 16) rfl ?_
      refine oGo W0 [.iconst 3, .istore 4] (by decide +kernel) (ls' := #[sR a, sI 4, sR b, sI (Int32.ofNat U), sI 3, sU, sU, sU, sU]) (st' := []) rfl rfl (pc' := 19) rfl ?_
      refine oGo W0 [.iload_n 1, .iconst 2] (by decide +kernel) (ls' := #[sR a, sI 4, sR b, sI (Int32.ofNat U), sI 3, sU, sU, sU, sU]) (st' := [(.int 2), (.int 4)]) rfl rfl (pc' := 21) rfl ?_
      refine oIcF W0 (cd := .le) (o := 14) (by decide +kernel) (XT.ii_le_f (by decide)) (pc' := 24) rfl ?_
      refine oGo W0 [.aload_n 0, .iconst 2] (by decide +kernel) (ls' := #[sR a, sI 4, sR b, sI (Int32.ofNat U), sI 3, sU, sU, sU, sU]) (st' := [(.int 2), (.ref a)]) rfl rfl (pc' := 26) rfl ?_
      refine oGet W0 A (v := (.int c2)) (by decide) rfl (Or.inl ⟨rfl, rfl⟩) (by decide +kernel) ?_
      refine oGo W0 [.bipush 59] (by decide +kernel) (ls' := #[sR a, sI 4, sR b, sI (Int32.ofNat U), sI 3, sU, sU, sU, sU]) (st' := [(.int 59), (.int c2)]) rfl rfl (pc' := 29) rfl ?_
      by_cases hc13 : c2 = (59 : Int32)
      · refine oIcF W0 (cd := .ne) (o := 6) (by decide +kernel) (XT.ii_ne_f hc13) (pc' := 32) rfl ?_
        refine oGo W0 [.iconst 2, .istore 4] (by decide +kernel) (ls' := #[sR a, sI 4, sR b, sI (Int32.ofNat U), sI 2, sU, sU, sU, sU]) (st' := []) rfl rfl (pc' := 35) rfl ?_
        refine oGo W0 [.iload_n 1, .iconst 1] (by decide +kernel) (ls' := #[sR a, sI 4, sR b, sI (Int32.ofNat U), sI 2, sU, sU, sU, sU]) (st' := [(.int 1), (.int 4)]) rfl rfl (pc' := 37) rfl ?_
        refine oIcF W0 (cd := .le) (o := 14) (by decide +kernel) (XT.ii_le_f (by decide)) (pc' := 40) rfl ?_
        refine oGo W0 [.aload_n 0, .iconst 1] (by decide +kernel) (ls' := #[sR a, sI 4, sR b, sI (Int32.ofNat U), sI 2, sU, sU, sU, sU]) (st' := [(.int 1), (.ref a)]) rfl rfl (pc' := 42) rfl ?_
        refine oGet W0 A (v := (.int c1)) (by decide) rfl (Or.inl ⟨rfl, rfl⟩) (by decide +kernel) ?_
        refine oGo W0 [.bipush 59] (by decide +kernel) (ls' := #[sR a, sI 4, sR b, sI (Int32.ofNat U), sI 2, sU, sU, sU, sU]) (st' := [(.int 59), (.int c1)]) rfl rfl (pc' := 45) rfl ?_
        by_cases hc14 : c1 = (59 : Int32)
        · refine oIcF W0 (cd := .ne) (o := 6) (by decide +kernel) (XT.ii_ne_f hc14) (pc' := 48) rfl ?_
          refine oGo W0 [.iconst 1, .istore 4] (by decide +kernel) (ls' := #[sR a, sI 4, sR b, sI (Int32.ofNat U), sI 1, sU, sU, sU, sU]) (st' := []) rfl rfl (pc' := 51) rfl ?_
          refine oGo W0 [.iload_n 1] (by decide +kernel) (ls' := #[sR a, sI 4, sR b, sI (Int32.ofNat U), sI 1, sU, sU, sU, sU]) (st' := [(.int 4)]) rfl rfl (pc' := 52) rfl ?_
          refine oIfF W0 (cd := .le) (o := 14) (by decide +kernel) (XT.i0_le_f (by decide)) (pc' := 55) rfl ?_
          refine oGo W0 [.aload_n 0, .iconst 0] (by decide +kernel) (ls' := #[sR a, sI 4, sR b, sI (Int32.ofNat U), sI 1, sU, sU, sU, sU]) (st' := [(.int 0), (.ref a)]) rfl rfl (pc' := 57) rfl ?_
          refine oGet W0 A (v := (.int c0)) (by decide) rfl (Or.inl ⟨rfl, rfl⟩) (by decide +kernel) ?_
          refine oGo W0 [.bipush 59] (by decide +kernel) (ls' := #[sR a, sI 4, sR b, sI (Int32.ofNat U), sI 1, sU, sU, sU, sU]) (st' := [(.int 59), (.int c0)]) rfl rfl (pc' := 60) rfl ?_
          by_cases hc15 : c0 = (59 : Int32)
          · refine oIcF W0 (cd := .ne) (o := 6) (by decide +kernel) (XT.ii_ne_f hc15) (pc' := 63) rfl ?_
            refine oGo W0 [.iconst 0, .istore 4] (by decide +kernel) (ls' := #[sR a, sI 4, sR b, sI (Int32.ofNat U), sI 0, sU, sU, sU, sU]) (st' := []) rfl rfl (pc' := 66) rfl ?_
            exact c_exp_b0 K (V := 4) hV hU W0 A B (by simp [ess, hc12, hc13, hc14, hc15])
          refine oIcT W0 (cd := .ne) (o := 6) (by decide +kernel) (XT.ii_ne_t hc15) (pc' := 66) (by decide) (by decide) ?_
          exact c_exp_b1 K (V := 4) hV hU W0 A B (by simp [ess, hc12, hc13, hc14, hc15])
        refine oIcT W0 (cd := .ne) (o := 6) (by decide +kernel) (XT.ii_ne_t hc14) (pc' := 51) (by decide) (by decide) ?_
        refine oGo W0 [.iload_n 1] (by decide +kernel) (ls' := #[sR a, sI 4, sR b, sI (Int32.ofNat U), sI 2, sU, sU, sU, sU]) (st' := [(.int 4)]) rfl rfl (pc' := 52) rfl ?_
        refine oIfF W0 (cd := .le) (o := 14) (by decide +kernel) (XT.i0_le_f (by decide)) (pc' := 55) rfl ?_
        refine oGo W0 [.aload_n 0, .iconst 0] (by decide +kernel) (ls' := #[sR a, sI 4, sR b, sI (Int32.ofNat U), sI 2, sU, sU, sU, sU]) (st' := [(.int 0), (.ref a)]) rfl rfl (pc' := 57) rfl ?_
        refine oGet W0 A (v := (.int c0)) (by decide) rfl (Or.inl ⟨rfl, rfl⟩) (by decide +kernel) ?_
        refine oGo W0 [.bipush 59] (by decide +kernel) (ls' := #[sR a, sI 4, sR b, sI (Int32.ofNat U), sI 2, sU, sU, sU, sU]) (st' := [(.int 59), (.int c0)]) rfl rfl (pc' := 60) rfl ?_
        by_cases hc16 : c0 = (59 : Int32)
        · refine oIcF W0 (cd := .ne) (o := 6) (by decide +kernel) (XT.ii_ne_f hc16) (pc' := 63) rfl ?_
          refine oGo W0 [.iconst 0, .istore 4] (by decide +kernel) (ls' := #[sR a, sI 4, sR b, sI (Int32.ofNat U), sI 0, sU, sU, sU, sU]) (st' := []) rfl rfl (pc' := 66) rfl ?_
          exact c_exp_b0 K (V := 4) hV hU W0 A B (by simp [ess, hc12, hc13, hc14, hc16])
        refine oIcT W0 (cd := .ne) (o := 6) (by decide +kernel) (XT.ii_ne_t hc16) (pc' := 66) (by decide) (by decide) ?_
        exact c_exp_b2 K (V := 4) hV hU W0 A B (by simp [ess, hc12, hc13, hc14, hc16])
      refine oIcT W0 (cd := .ne) (o := 6) (by decide +kernel) (XT.ii_ne_t hc13) (pc' := 35) (by decide) (by decide) ?_
      refine oGo W0 [.iload_n 1, .iconst 1] (by decide +kernel) (ls' := #[sR a, sI 4, sR b, sI (Int32.ofNat U), sI 3, sU, sU, sU, sU]) (st' := [(.int 1), (.int 4)]) rfl rfl (pc' := 37) rfl ?_
      refine oIcF W0 (cd := .le) (o := 14) (by decide +kernel) (XT.ii_le_f (by decide)) (pc' := 40) rfl ?_
      refine oGo W0 [.aload_n 0, .iconst 1] (by decide +kernel) (ls' := #[sR a, sI 4, sR b, sI (Int32.ofNat U), sI 3, sU, sU, sU, sU]) (st' := [(.int 1), (.ref a)]) rfl rfl (pc' := 42) rfl ?_
      refine oGet W0 A (v := (.int c1)) (by decide) rfl (Or.inl ⟨rfl, rfl⟩) (by decide +kernel) ?_
      refine oGo W0 [.bipush 59] (by decide +kernel) (ls' := #[sR a, sI 4, sR b, sI (Int32.ofNat U), sI 3, sU, sU, sU, sU]) (st' := [(.int 59), (.int c1)]) rfl rfl (pc' := 45) rfl ?_
      by_cases hc17 : c1 = (59 : Int32)
      · refine oIcF W0 (cd := .ne) (o := 6) (by decide +kernel) (XT.ii_ne_f hc17) (pc' := 48) rfl ?_
        refine oGo W0 [.iconst 1, .istore 4] (by decide +kernel) (ls' := #[sR a, sI 4, sR b, sI (Int32.ofNat U), sI 1, sU, sU, sU, sU]) (st' := []) rfl rfl (pc' := 51) rfl ?_
        refine oGo W0 [.iload_n 1] (by decide +kernel) (ls' := #[sR a, sI 4, sR b, sI (Int32.ofNat U), sI 1, sU, sU, sU, sU]) (st' := [(.int 4)]) rfl rfl (pc' := 52) rfl ?_
        refine oIfF W0 (cd := .le) (o := 14) (by decide +kernel) (XT.i0_le_f (by decide)) (pc' := 55) rfl ?_
        refine oGo W0 [.aload_n 0, .iconst 0] (by decide +kernel) (ls' := #[sR a, sI 4, sR b, sI (Int32.ofNat U), sI 1, sU, sU, sU, sU]) (st' := [(.int 0), (.ref a)]) rfl rfl (pc' := 57) rfl ?_
        refine oGet W0 A (v := (.int c0)) (by decide) rfl (Or.inl ⟨rfl, rfl⟩) (by decide +kernel) ?_
        refine oGo W0 [.bipush 59] (by decide +kernel) (ls' := #[sR a, sI 4, sR b, sI (Int32.ofNat U), sI 1, sU, sU, sU, sU]) (st' := [(.int 59), (.int c0)]) rfl rfl (pc' := 60) rfl ?_
        by_cases hc18 : c0 = (59 : Int32)
        · refine oIcF W0 (cd := .ne) (o := 6) (by decide +kernel) (XT.ii_ne_f hc18) (pc' := 63) rfl ?_
          refine oGo W0 [.iconst 0, .istore 4] (by decide +kernel) (ls' := #[sR a, sI 4, sR b, sI (Int32.ofNat U), sI 0, sU, sU, sU, sU]) (st' := []) rfl rfl (pc' := 66) rfl ?_
          exact c_exp_b0 K (V := 4) hV hU W0 A B (by simp [ess, hc12, hc13, hc17, hc18])
        refine oIcT W0 (cd := .ne) (o := 6) (by decide +kernel) (XT.ii_ne_t hc18) (pc' := 66) (by decide) (by decide) ?_
        exact c_exp_b1 K (V := 4) hV hU W0 A B (by simp [ess, hc12, hc13, hc17, hc18])
      refine oIcT W0 (cd := .ne) (o := 6) (by decide +kernel) (XT.ii_ne_t hc17) (pc' := 51) (by decide) (by decide) ?_
      refine oGo W0 [.iload_n 1] (by decide +kernel) (ls' := #[sR a, sI 4, sR b, sI (Int32.ofNat U), sI 3, sU, sU, sU, sU]) (st' := [(.int 4)]) rfl rfl (pc' := 52) rfl ?_
      refine oIfF W0 (cd := .le) (o := 14) (by decide +kernel) (XT.i0_le_f (by decide)) (pc' := 55) rfl ?_
      refine oGo W0 [.aload_n 0, .iconst 0] (by decide +kernel) (ls' := #[sR a, sI 4, sR b, sI (Int32.ofNat U), sI 3, sU, sU, sU, sU]) (st' := [(.int 0), (.ref a)]) rfl rfl (pc' := 57) rfl ?_
      refine oGet W0 A (v := (.int c0)) (by decide) rfl (Or.inl ⟨rfl, rfl⟩) (by decide +kernel) ?_
      refine oGo W0 [.bipush 59] (by decide +kernel) (ls' := #[sR a, sI 4, sR b, sI (Int32.ofNat U), sI 3, sU, sU, sU, sU]) (st' := [(.int 59), (.int c0)]) rfl rfl (pc' := 60) rfl ?_
      by_cases hc19 : c0 = (59 : Int32)
      · refine oIcF W0 (cd := .ne) (o := 6) (by decide +kernel) (XT.ii_ne_f hc19) (pc' := 63) rfl ?_
        refine oGo W0 [.iconst 0, .istore 4] (by decide +kernel) (ls' := #[sR a, sI 4, sR b, sI (Int32.ofNat U), sI 0, sU, sU, sU, sU]) (st' := []) rfl rfl (pc' := 66) rfl ?_
        exact c_exp_b0 K (V := 4) hV hU W0 A B (by simp [ess, hc12, hc13, hc17, hc19])
      refine oIcT W0 (cd := .ne) (o := 6) (by decide +kernel) (XT.ii_ne_t hc19) (pc' := 66) (by decide) (by decide) ?_
      exact c_exp_b3 K (V := 4) hV hU W0 A B (by simp [ess, hc12, hc13, hc17, hc19])
    refine oIcT W0 (cd := .ne) (o := 6) (by decide +kernel) (XT.ii_ne_t hc12) (pc' := 19) (by decide) (by decide) ?_
    refine oGo W0 [.iload_n 1, .iconst 2] (by decide +kernel) (ls' := #[sR a, sI 4, sR b, sI (Int32.ofNat U), sI 4, sU, sU, sU, sU]) (st' := [(.int 2), (.int 4)]) rfl rfl (pc' := 21) rfl ?_
    refine oIcF W0 (cd := .le) (o := 14) (by decide +kernel) (XT.ii_le_f (by decide)) (pc' := 24) rfl ?_
    refine oGo W0 [.aload_n 0, .iconst 2] (by decide +kernel) (ls' := #[sR a, sI 4, sR b, sI (Int32.ofNat U), sI 4, sU, sU, sU, sU]) (st' := [(.int 2), (.ref a)]) rfl rfl (pc' := 26) rfl ?_
    refine oGet W0 A (v := (.int c2)) (by decide) rfl (Or.inl ⟨rfl, rfl⟩) (by decide +kernel) ?_
    refine oGo W0 [.bipush 59] (by decide +kernel) (ls' := #[sR a, sI 4, sR b, sI (Int32.ofNat U), sI 4, sU, sU, sU, sU]) (st' := [(.int 59), (.int c2)]) rfl rfl (pc' := 29) rfl ?_
    by_cases hc20 : c2 = (59 : Int32)
    · refine oIcF W0 (cd := .ne) (o := 6) (by decide +kernel) (XT.ii_ne_f hc20) (pc' := 32) rfl ?_
      refine oGo W0 [.iconst 2, .istore 4] (by decide +kernel) (ls' := #[sR a, sI 4, sR b, sI (Int32.ofNat U), sI 2, sU, sU, sU, sU]) (st' := []) rfl rfl (pc' := 35) rfl ?_
      refine oGo W0 [.iload_n 1, .iconst 1] (by decide +kernel) (ls' := #[sR a, sI 4, sR b, sI (Int32.ofNat U), sI 2, sU, sU, sU, sU]) (st' := [(.int 1), (.int 4)]) rfl rfl (pc' := 37) rfl ?_
      refine oIcF W0 (cd := .le) (o := 14) (by decide +kernel) (XT.ii_le_f (by decide)) (pc' := 40) rfl ?_
      refine oGo W0 [.aload_n 0, .iconst 1] (by decide +kernel) (ls' := #[sR a, sI 4, sR b, sI (Int32.ofNat U), sI 2, sU, sU, sU, sU]) (st' := [(.int 1), (.ref a)]) rfl rfl (pc' := 42) rfl ?_
      refine oGet W0 A (v := (.int c1)) (by decide) rfl (Or.inl ⟨rfl, rfl⟩) (by decide +kernel) ?_
      refine oGo W0 [.bipush 59] (by decide +kernel) (ls' := #[sR a, sI 4, sR b, sI (Int32.ofNat U), sI 2, sU, sU, sU, sU]) (st' := [(.int 59), (.int c1)]) rfl rfl (pc' := 45) rfl ?_
      by_cases hc21 : c1 = (59 : Int32)
      · refine oIcF W0 (cd := .ne) (o := 6) (by decide +kernel) (XT.ii_ne_f hc21) (pc' := 48) rfl ?_
        refine oGo W0 [.iconst 1, .istore 4] (by decide +kernel) (ls' := #[sR a, sI 4, sR b, sI (Int32.ofNat U), sI 1, sU, sU, sU, sU]) (st' := []) rfl rfl (pc' := 51) rfl ?_
        refine oGo W0 [.iload_n 1] (by decide +kernel) (ls' := #[sR a, sI 4, sR b, sI (Int32.ofNat U), sI 1, sU, sU, sU, sU]) (st' := [(.int 4)]) rfl rfl (pc' := 52) rfl ?_
        refine oIfF W0 (cd := .le) (o := 14) (by decide +kernel) (XT.i0_le_f (by decide)) (pc' := 55) rfl ?_
        refine oGo W0 [.aload_n 0, .iconst 0] (by decide +kernel) (ls' := #[sR a, sI 4, sR b, sI (Int32.ofNat U), sI 1, sU, sU, sU, sU]) (st' := [(.int 0), (.ref a)]) rfl rfl (pc' := 57) rfl ?_
        refine oGet W0 A (v := (.int c0)) (by decide) rfl (Or.inl ⟨rfl, rfl⟩) (by decide +kernel) ?_
        refine oGo W0 [.bipush 59] (by decide +kernel) (ls' := #[sR a, sI 4, sR b, sI (Int32.ofNat U), sI 1, sU, sU, sU, sU]) (st' := [(.int 59), (.int c0)]) rfl rfl (pc' := 60) rfl ?_
        by_cases hc22 : c0 = (59 : Int32)
        · refine oIcF W0 (cd := .ne) (o := 6) (by decide +kernel) (XT.ii_ne_f hc22) (pc' := 63) rfl ?_
          refine oGo W0 [.iconst 0, .istore 4] (by decide +kernel) (ls' := #[sR a, sI 4, sR b, sI (Int32.ofNat U), sI 0, sU, sU, sU, sU]) (st' := []) rfl rfl (pc' := 66) rfl ?_
          exact c_exp_b0 K (V := 4) hV hU W0 A B (by simp [ess, hc12, hc20, hc21, hc22])
        refine oIcT W0 (cd := .ne) (o := 6) (by decide +kernel) (XT.ii_ne_t hc22) (pc' := 66) (by decide) (by decide) ?_
        exact c_exp_b1 K (V := 4) hV hU W0 A B (by simp [ess, hc12, hc20, hc21, hc22])
      refine oIcT W0 (cd := .ne) (o := 6) (by decide +kernel) (XT.ii_ne_t hc21) (pc' := 51) (by decide) (by decide) ?_
      refine oGo W0 [.iload_n 1] (by decide +kernel) (ls' := #[sR a, sI 4, sR b, sI (Int32.ofNat U), sI 2, sU, sU, sU, sU]) (st' := [(.int 4)]) rfl rfl (pc' := 52) rfl ?_
      refine oIfF W0 (cd := .le) (o := 14) (by decide +kernel) (XT.i0_le_f (by decide)) (pc' := 55) rfl ?_
      refine oGo W0 [.aload_n 0, .iconst 0] (by decide +kernel) (ls' := #[sR a, sI 4, sR b, sI (Int32.ofNat U), sI 2, sU, sU, sU, sU]) (st' := [(.int 0), (.ref a)]) rfl rfl (pc' := 57) rfl ?_
      refine oGet W0 A (v := (.int c0)) (by decide) rfl (Or.inl ⟨rfl, rfl⟩) (by decide +kernel) ?_
      refine oGo W0 [.bipush 59] (by decide +kernel) (ls' := #[sR a, sI 4, sR b, sI (Int32.ofNat U), sI 2, sU, sU, sU, sU]) (st' := [(.int 59), (.int c0)]) rfl rfl (pc' := 60) rfl ?_
      by_cases hc23 : c0 = (59 : Int32)
      · refine oIcF W0 (cd := .ne) (o := 6) (by decide +kernel) (XT.ii_ne_f hc23) (pc' := 63) rfl ?_
        refine oGo W0 [.iconst 0, .istore 4] (by decide +kernel) (ls' := #[sR a, sI 4, sR b, sI (Int32.ofNat U), sI 0, sU, sU, sU, sU]) (st' := []) rfl rfl (pc' := 66) rfl ?_
        exact c_exp_b0 K (V := 4) hV hU W0 A B (by simp [ess, hc12, hc20, hc21, hc23])
      refine oIcT W0 (cd := .ne) (o := 6) (by decide +kernel) (XT.ii_ne_t hc23) (pc' := 66) (by decide) (by decide) ?_
      exact c_exp_b2 K (V := 4) hV hU W0 A B (by simp [ess, hc12, hc20, hc21, hc23])
    refine oIcT W0 (cd := .ne) (o := 6) (by decide +kernel) (XT.ii_ne_t hc20) (pc' := 35) (by decide) (by decide) ?_
    refine oGo W0 [.iload_n 1, .iconst 1] (by decide +kernel) (ls' := #[sR a, sI 4, sR b, sI (Int32.ofNat U), sI 4, sU, sU, sU, sU]) (st' := [(.int 1), (.int 4)]) rfl rfl (pc' := 37) rfl ?_
    refine oIcF W0 (cd := .le) (o := 14) (by decide +kernel) (XT.ii_le_f (by decide)) (pc' := 40) rfl ?_
    refine oGo W0 [.aload_n 0, .iconst 1] (by decide +kernel) (ls' := #[sR a, sI 4, sR b, sI (Int32.ofNat U), sI 4, sU, sU, sU, sU]) (st' := [(.int 1), (.ref a)]) rfl rfl (pc' := 42) rfl ?_
    refine oGet W0 A (v := (.int c1)) (by decide) rfl (Or.inl ⟨rfl, rfl⟩) (by decide +kernel) ?_
    refine oGo W0 [.bipush 59] (by decide +kernel) (ls' := #[sR a, sI 4, sR b, sI (Int32.ofNat U), sI 4, sU, sU, sU, sU]) (st' := [(.int 59), (.int c1)]) rfl rfl (pc' := 45) rfl ?_
    by_cases hc24 : c1 = (59 : Int32)
    · refine oIcF W0 (cd := .ne) (o := 6) (by decide +kernel) (XT.ii_ne_f hc24) (pc' := 48) rfl ?_
      refine oGo W0 [.iconst 1, .istore 4] (by decide +kernel) (ls' := #[sR a, sI 4, sR b, sI (Int32.ofNat U), sI 1, sU, sU, sU, sU]) (st' := []) rfl rfl (pc' := 51) rfl ?_
      refine oGo W0 [.iload_n 1] (by decide +kernel) (ls' := #[sR a, sI 4, sR b, sI (Int32.ofNat U), sI 1, sU, sU, sU, sU]) (st' := [(.int 4)]) rfl rfl (pc' := 52) rfl ?_
      refine oIfF W0 (cd := .le) (o := 14) (by decide +kernel) (XT.i0_le_f (by decide)) (pc' := 55) rfl ?_
      refine oGo W0 [.aload_n 0, .iconst 0] (by decide +kernel) (ls' := #[sR a, sI 4, sR b, sI (Int32.ofNat U), sI 1, sU, sU, sU, sU]) (st' := [(.int 0), (.ref a)]) rfl rfl (pc' := 57) rfl ?_
      refine oGet W0 A (v := (.int c0)) (by decide) rfl (Or.inl ⟨rfl, rfl⟩) (by decide +kernel) ?_
      refine oGo W0 [.bipush 59] (by decide +kernel) (ls' := #[sR a, sI 4, sR b, sI (Int32.ofNat U), sI 1, sU, sU, sU, sU]) (st' := [(.int 59), (.int c0)]) rfl rfl (pc' := 60) rfl ?_
      by_cases hc25 : c0 = (59 : Int32)
      · refine oIcF W0 (cd := .ne) (o := 6) (by decide +kernel) (XT.ii_ne_f hc25) (pc' := 63) rfl ?_
        refine oGo W0 [.iconst 0, .istore 4] (by decide +kernel) (ls' := #[sR a, sI 4, sR b, sI (Int32.ofNat U), sI 0, sU, sU, sU, sU]) (st' := []) rfl rfl (pc' := 66) rfl ?_
        exact c_exp_b0 K (V := 4) hV hU W0 A B (by simp [ess, hc12, hc20, hc24, hc25])
      refine oIcT W0 (cd := .ne) (o := 6) (by decide +kernel) (XT.ii_ne_t hc25) (pc' := 66) (by decide) (by decide) ?_
      exact c_exp_b1 K (V := 4) hV hU W0 A B (by simp [ess, hc12, hc20, hc24, hc25])
    refine oIcT W0 (cd := .ne) (o := 6) (by decide +kernel) (XT.ii_ne_t hc24) (pc' := 51) (by decide) (by decide) ?_
    refine oGo W0 [.iload_n 1] (by decide +kernel) (ls' := #[sR a, sI 4, sR b, sI (Int32.ofNat U), sI 4, sU, sU, sU, sU]) (st' := [(.int 4)]) rfl rfl (pc' := 52) rfl ?_
    refine oIfF W0 (cd := .le) (o := 14) (by decide +kernel) (XT.i0_le_f (by decide)) (pc' := 55) rfl ?_
    refine oGo W0 [.aload_n 0, .iconst 0] (by decide +kernel) (ls' := #[sR a, sI 4, sR b, sI (Int32.ofNat U), sI 4, sU, sU, sU, sU]) (st' := [(.int 0), (.ref a)]) rfl rfl (pc' := 57) rfl ?_
    refine oGet W0 A (v := (.int c0)) (by decide) rfl (Or.inl ⟨rfl, rfl⟩) (by decide +kernel) ?_
    refine oGo W0 [.bipush 59] (by decide +kernel) (ls' := #[sR a, sI 4, sR b, sI (Int32.ofNat U), sI 4, sU, sU, sU, sU]) (st' := [(.int 59), (.int c0)]) rfl rfl (pc' := 60) rfl ?_
    by_cases hc26 : c0 = (59 : Int32)
    · refine oIcF W0 (cd := .ne) (o := 6) (by decide +kernel) (XT.ii_ne_f hc26) (pc' := 63) rfl ?_
      refine oGo W0 [.iconst 0, .istore 4] (by decide +kernel) (ls' := #[sR a, sI 4, sR b, sI (Int32.ofNat U), sI 0, sU, sU, sU, sU]) (st' := []) rfl rfl (pc' := 66) rfl ?_
      exact c_exp_b0 K (V := 4) hV hU W0 A B (by simp [ess, hc12, hc20, hc24, hc26])
    refine oIcT W0 (cd := .ne) (o := 6) (by decide +kernel) (XT.ii_ne_t hc26) (pc' := 66) (by decide) (by decide) ?_
    exact c_exp_b4 K (V := 4) hV hU W0 A B (by simp [ess, hc12, hc20, hc24, hc26])
set_option maxRecDepth 65536 in
set_option maxHeartbeats 40000000 in
theorem c_law {l : Launch} {Z : State} {a0 : Array Value} (K : Ctx Z a0) (i0 i1 i2 : Int32) (h0 : Heap) :
    OC l Z EL false tables_1 x code maxLocals ret room_1 #[(.int i0), (.int i1), (.int i2)] h0 [] (fun v _ h => v = some (.int 1)) := by
  have hw := K.1
  have hS : ∀ a ∈ Bundle.stringAtoms, a.before a0 Z = true := K.2.2.1
  obtain ⟨V, hV, eV⟩ := m5 (y := i2 &&& (255 : Int32)) (c_and i2 255 (by decide)).1
  obtain ⟨U, hU, eU⟩ := m5 (y := XT.ushr i2 (8 : Int32) &&& (255 : Int32)) (c_and _ 255 (by decide)).1
  refine oEnter (by decide +kernel) K.2.1.2.1 ?_
  intro _p _e _s m _below _meth _c T0 W0 S0
  refine oEq (g' := mkF m 0 #[.val (.int i0), .val (.int i1), .val (.int i2), .unset, .unset, .unset, .unset, .unset, .unset, .unset] []) (by first | (simp [entryFrame, mkF, argsToLocals, Value.category, maxLocals]; done) | rfl) ?_
  refine oGo W0 [.iload_n 2, .sipush 255, .iand, .iconst 5, .irem, .istore_n 3, .iload_n 2, .bipush 8, .iushr, .sipush 255, .iand, .iconst 5, .irem, .istore 4, .iconst 4] (by decide +kernel) (ls' := #[sI i0, sI i1, sI i2, sI ((i2 &&& (255 : Int32)) % (5 : Int32)), sI (((XT.ushr i2 (8 : Int32)) &&& (255 : Int32)) % (5 : Int32)), sU, sU, sU, sU, sU]) (st' := [(.int 4)]) rfl rfl (pc' := 21) rfl ?_
  rw [eV, eU]
  obtain ⟨T1, h1, a, k1, W1, g1, E1, A1, S1, C1, st1⟩ := oNewA W0 (aty := .char) (pc := 21) (ls := #[sI i0, sI i1, sI i2, sI (Int32.ofNat V), sI (Int32.ofNat U), sU, sU, sU, sU, sU]) (st := []) (wK K 0 rfl) (by decide +kernel) (n := (4 : Int32)) (by decide) (cap := 4) (lb rfl) (lb rfl) (lb rfl) (lb rfl)
  refine oLift st1 ?_
  have A1 : OA Z h1 a k1 .char [.int 0, .int 0, .int 0, .int 0] := A1
  refine oGo W1 [.astore 5, .aload 5, .iconst 0, .iload_n 0, .sipush 255, .iand, .i2c] (by decide +kernel) (ls' := #[sI i0, sI i1, sI i2, sI (Int32.ofNat V), sI (Int32.ofNat U), sR a, sU, sU, sU, sU]) (st' := [(.int ((i0 &&& (255 : Int32)).toUInt32.toUInt16.toUInt32.toInt32)), (.int 0), (.ref a)]) rfl rfl (pc' := 34) rfl ?_
  obtain ⟨T2, h2, W2, Wr2, A2, C2, st2⟩ := oPut W1 A1 (j := (0 : Int32)) (x := ((i0 &&& (255 : Int32)).toUInt32.toUInt16.toUInt32.toInt32)) (x' := (i0 &&& (255 : Int32))) (pc := 34) (ls := #[sI i0, sI i1, sI i2, sI (Int32.ofNat V), sI (Int32.ofNat U), sR a, sU, sU, sU, sU]) (st := []) (by decide) (i := 0) (by decide) (by simp) (Nat.le_trans W0.ext.1 g1) (A1.safe W1.warm.alike (by decide)) (ins := .castore) (Or.inl ⟨rfl, rfl, (by rw [i2c_255]; exact own_nar255 _)⟩) (by decide +kernel)
  refine oLift st2 ?_
  have A2 : OA Z h2 a k1 .char [.int (i0 &&& (255 : Int32)), .int 0, .int 0, .int 0] := A2
  refine oGo W2 [.aload 5, .iconst 1, .iload_n 0, .bipush 8, .iushr, .sipush 255, .iand, .i2c] (by decide +kernel) (ls' := #[sI i0, sI i1, sI i2, sI (Int32.ofNat V), sI (Int32.ofNat U), sR a, sU, sU, sU, sU]) (st' := [(.int (((XT.ushr i0 (8 : Int32)) &&& (255 : Int32)).toUInt32.toUInt16.toUInt32.toInt32)), (.int 1), (.ref a)]) rfl rfl (pc' := 47) rfl ?_
  obtain ⟨T3, h3, W3, Wr3, A3, C3, st3⟩ := oPut W2 A2 (j := (1 : Int32)) (x := (((XT.ushr i0 (8 : Int32)) &&& (255 : Int32)).toUInt32.toUInt16.toUInt32.toInt32)) (x' := ((XT.ushr i0 (8 : Int32)) &&& (255 : Int32))) (pc := 47) (ls := #[sI i0, sI i1, sI i2, sI (Int32.ofNat V), sI (Int32.ofNat U), sR a, sU, sU, sU, sU]) (st := []) (by decide) (i := 1) (by decide) (by simp) (Nat.le_trans W0.ext.1 g1) (A2.safe W2.warm.alike (by decide)) (ins := .castore) (Or.inl ⟨rfl, rfl, (by rw [i2c_255]; exact own_nar255 _)⟩) (by decide +kernel)
  refine oLift st3 ?_
  have A3 : OA Z h3 a k1 .char [.int (i0 &&& (255 : Int32)), .int ((XT.ushr i0 (8 : Int32)) &&& (255 : Int32)), .int 0, .int 0] := A3
  refine oGo W3 [.aload 5, .iconst 2, .iload_n 0, .bipush 16, .iushr, .sipush 255, .iand, .i2c] (by decide +kernel) (ls' := #[sI i0, sI i1, sI i2, sI (Int32.ofNat V), sI (Int32.ofNat U), sR a, sU, sU, sU, sU]) (st' := [(.int (((XT.ushr i0 (16 : Int32)) &&& (255 : Int32)).toUInt32.toUInt16.toUInt32.toInt32)), (.int 2), (.ref a)]) rfl rfl (pc' := 60) rfl ?_
  obtain ⟨T4, h4, W4, Wr4, A4, C4, st4⟩ := oPut W3 A3 (j := (2 : Int32)) (x := (((XT.ushr i0 (16 : Int32)) &&& (255 : Int32)).toUInt32.toUInt16.toUInt32.toInt32)) (x' := ((XT.ushr i0 (16 : Int32)) &&& (255 : Int32))) (pc := 60) (ls := #[sI i0, sI i1, sI i2, sI (Int32.ofNat V), sI (Int32.ofNat U), sR a, sU, sU, sU, sU]) (st := []) (by decide) (i := 2) (by decide) (by simp) (Nat.le_trans W0.ext.1 g1) (A3.safe W3.warm.alike (by decide)) (ins := .castore) (Or.inl ⟨rfl, rfl, (by rw [i2c_255]; exact own_nar255 _)⟩) (by decide +kernel)
  refine oLift st4 ?_
  have A4 : OA Z h4 a k1 .char [.int (i0 &&& (255 : Int32)), .int ((XT.ushr i0 (8 : Int32)) &&& (255 : Int32)), .int ((XT.ushr i0 (16 : Int32)) &&& (255 : Int32)), .int 0] := A4
  refine oGo W4 [.aload 5, .iconst 3, .iload_n 0, .bipush 24, .iushr, .sipush 255, .iand, .i2c] (by decide +kernel) (ls' := #[sI i0, sI i1, sI i2, sI (Int32.ofNat V), sI (Int32.ofNat U), sR a, sU, sU, sU, sU]) (st' := [(.int (((XT.ushr i0 (24 : Int32)) &&& (255 : Int32)).toUInt32.toUInt16.toUInt32.toInt32)), (.int 3), (.ref a)]) rfl rfl (pc' := 73) rfl ?_
  obtain ⟨T5, h5, W5, Wr5, A5, C5, st5⟩ := oPut W4 A4 (j := (3 : Int32)) (x := (((XT.ushr i0 (24 : Int32)) &&& (255 : Int32)).toUInt32.toUInt16.toUInt32.toInt32)) (x' := ((XT.ushr i0 (24 : Int32)) &&& (255 : Int32))) (pc := 73) (ls := #[sI i0, sI i1, sI i2, sI (Int32.ofNat V), sI (Int32.ofNat U), sR a, sU, sU, sU, sU]) (st := []) (by decide) (i := 3) (by decide) (by simp) (Nat.le_trans W0.ext.1 g1) (A4.safe W4.warm.alike (by decide)) (ins := .castore) (Or.inl ⟨rfl, rfl, (by rw [i2c_255]; exact own_nar255 _)⟩) (by decide +kernel)
  refine oLift st5 ?_
  have A5 : OA Z h5 a k1 .char [.int (i0 &&& (255 : Int32)), .int ((XT.ushr i0 (8 : Int32)) &&& (255 : Int32)), .int ((XT.ushr i0 (16 : Int32)) &&& (255 : Int32)), .int ((XT.ushr i0 (24 : Int32)) &&& (255 : Int32))] := A5
  refine oGo W5 [.iconst 4] (by decide +kernel) (ls' := #[sI i0, sI i1, sI i2, sI (Int32.ofNat V), sI (Int32.ofNat U), sR a, sU, sU, sU, sU]) (st' := [(.int 4)]) rfl rfl (pc' := 75) rfl ?_
  obtain ⟨T6, h6, b, k6, W6, g6, E6, A6, S6, C6, st6⟩ := oNewA W5 (aty := .char) (pc := 75) (ls := #[sI i0, sI i1, sI i2, sI (Int32.ofNat V), sI (Int32.ofNat U), sR a, sU, sU, sU, sU]) (st := []) (wK K 0 rfl) (by decide +kernel) (n := (4 : Int32)) (by decide) (cap := 4) (lb rfl) (lb rfl) (lb rfl) (lb rfl)
  refine oLift st6 ?_
  have A6 : OA Z h6 b k6 .char [.int 0, .int 0, .int 0, .int 0] := A6
  refine oGo W6 [.astore 6, .aload 6, .iconst 0, .iload_n 1, .sipush 255, .iand, .i2c] (by decide +kernel) (ls' := #[sI i0, sI i1, sI i2, sI (Int32.ofNat V), sI (Int32.ofNat U), sR a, sR b, sU, sU, sU]) (st' := [(.int ((i1 &&& (255 : Int32)).toUInt32.toUInt16.toUInt32.toInt32)), (.int 0), (.ref b)]) rfl rfl (pc' := 88) rfl ?_
  obtain ⟨T7, h7, W7, Wr7, A7, C7, st7⟩ := oPut W6 A6 (j := (0 : Int32)) (x := ((i1 &&& (255 : Int32)).toUInt32.toUInt16.toUInt32.toInt32)) (x' := (i1 &&& (255 : Int32))) (pc := 88) (ls := #[sI i0, sI i1, sI i2, sI (Int32.ofNat V), sI (Int32.ofNat U), sR a, sR b, sU, sU, sU]) (st := []) (by decide) (i := 0) (by decide) (by simp) (Nat.le_trans W5.ext.1 g6) (A6.safe W6.warm.alike (by decide)) (ins := .castore) (Or.inl ⟨rfl, rfl, (by rw [i2c_255]; exact own_nar255 _)⟩) (by decide +kernel)
  refine oLift st7 ?_
  have A7 : OA Z h7 b k6 .char [.int (i1 &&& (255 : Int32)), .int 0, .int 0, .int 0] := A7
  refine oGo W7 [.aload 6, .iconst 1, .iload_n 1, .bipush 8, .iushr, .sipush 255, .iand, .i2c] (by decide +kernel) (ls' := #[sI i0, sI i1, sI i2, sI (Int32.ofNat V), sI (Int32.ofNat U), sR a, sR b, sU, sU, sU]) (st' := [(.int (((XT.ushr i1 (8 : Int32)) &&& (255 : Int32)).toUInt32.toUInt16.toUInt32.toInt32)), (.int 1), (.ref b)]) rfl rfl (pc' := 101) rfl ?_
  obtain ⟨T8, h8, W8, Wr8, A8, C8, st8⟩ := oPut W7 A7 (j := (1 : Int32)) (x := (((XT.ushr i1 (8 : Int32)) &&& (255 : Int32)).toUInt32.toUInt16.toUInt32.toInt32)) (x' := ((XT.ushr i1 (8 : Int32)) &&& (255 : Int32))) (pc := 101) (ls := #[sI i0, sI i1, sI i2, sI (Int32.ofNat V), sI (Int32.ofNat U), sR a, sR b, sU, sU, sU]) (st := []) (by decide) (i := 1) (by decide) (by simp) (Nat.le_trans W5.ext.1 g6) (A7.safe W7.warm.alike (by decide)) (ins := .castore) (Or.inl ⟨rfl, rfl, (by rw [i2c_255]; exact own_nar255 _)⟩) (by decide +kernel)
  refine oLift st8 ?_
  have A8 : OA Z h8 b k6 .char [.int (i1 &&& (255 : Int32)), .int ((XT.ushr i1 (8 : Int32)) &&& (255 : Int32)), .int 0, .int 0] := A8
  refine oGo W8 [.aload 6, .iconst 2, .iload_n 1, .bipush 16, .iushr, .sipush 255, .iand, .i2c] (by decide +kernel) (ls' := #[sI i0, sI i1, sI i2, sI (Int32.ofNat V), sI (Int32.ofNat U), sR a, sR b, sU, sU, sU]) (st' := [(.int (((XT.ushr i1 (16 : Int32)) &&& (255 : Int32)).toUInt32.toUInt16.toUInt32.toInt32)), (.int 2), (.ref b)]) rfl rfl (pc' := 114) rfl ?_
  obtain ⟨T9, h9, W9, Wr9, A9, C9, st9⟩ := oPut W8 A8 (j := (2 : Int32)) (x := (((XT.ushr i1 (16 : Int32)) &&& (255 : Int32)).toUInt32.toUInt16.toUInt32.toInt32)) (x' := ((XT.ushr i1 (16 : Int32)) &&& (255 : Int32))) (pc := 114) (ls := #[sI i0, sI i1, sI i2, sI (Int32.ofNat V), sI (Int32.ofNat U), sR a, sR b, sU, sU, sU]) (st := []) (by decide) (i := 2) (by decide) (by simp) (Nat.le_trans W5.ext.1 g6) (A8.safe W8.warm.alike (by decide)) (ins := .castore) (Or.inl ⟨rfl, rfl, (by rw [i2c_255]; exact own_nar255 _)⟩) (by decide +kernel)
  refine oLift st9 ?_
  have A9 : OA Z h9 b k6 .char [.int (i1 &&& (255 : Int32)), .int ((XT.ushr i1 (8 : Int32)) &&& (255 : Int32)), .int ((XT.ushr i1 (16 : Int32)) &&& (255 : Int32)), .int 0] := A9
  refine oGo W9 [.aload 6, .iconst 3, .iload_n 1, .bipush 24, .iushr, .sipush 255, .iand, .i2c] (by decide +kernel) (ls' := #[sI i0, sI i1, sI i2, sI (Int32.ofNat V), sI (Int32.ofNat U), sR a, sR b, sU, sU, sU]) (st' := [(.int (((XT.ushr i1 (24 : Int32)) &&& (255 : Int32)).toUInt32.toUInt16.toUInt32.toInt32)), (.int 3), (.ref b)]) rfl rfl (pc' := 127) rfl ?_
  obtain ⟨T10, h10, W10, Wr10, A10, C10, st10⟩ := oPut W9 A9 (j := (3 : Int32)) (x := (((XT.ushr i1 (24 : Int32)) &&& (255 : Int32)).toUInt32.toUInt16.toUInt32.toInt32)) (x' := ((XT.ushr i1 (24 : Int32)) &&& (255 : Int32))) (pc := 127) (ls := #[sI i0, sI i1, sI i2, sI (Int32.ofNat V), sI (Int32.ofNat U), sR a, sR b, sU, sU, sU]) (st := []) (by decide) (i := 3) (by decide) (by simp) (Nat.le_trans W5.ext.1 g6) (A9.safe W9.warm.alike (by decide)) (ins := .castore) (Or.inl ⟨rfl, rfl, (by rw [i2c_255]; exact own_nar255 _)⟩) (by decide +kernel)
  refine oLift st10 ?_
  have A10 : OA Z h10 b k6 .char [.int (i1 &&& (255 : Int32)), .int ((XT.ushr i1 (8 : Int32)) &&& (255 : Int32)), .int ((XT.ushr i1 (16 : Int32)) &&& (255 : Int32)), .int ((XT.ushr i1 (24 : Int32)) &&& (255 : Int32))] := A10
  refine oGo W10 [.aload 5, .iload_n 3] (by decide +kernel) (ls' := #[sI i0, sI i1, sI i2, sI (Int32.ofNat V), sI (Int32.ofNat U), sR a, sR b, sU, sU, sU]) (st' := [(.int (Int32.ofNat V)), (.ref a)]) rfl rfl (pc' := 131) rfl ?_
  obtain ⟨v11, T11, L11, h11, vm11, W11, ⟨x, rfl, F11, E11⟩, C11, st11⟩ := oCallS W10 (idx := 7) (pc := 131) (ls := #[sI i0, sI i1, sI i2, sI (Int32.ofNat V), sI (Int32.ofNat U), sR a, sR b, sU, sU, sU]) (st := []) (argsL := [(.ref a), (.int (Int32.ofNat V))]) (c_mk K hV (A5.ext (exW (exW (exW (exW E6 Wr7 g6) Wr8 g6) Wr9 g6) Wr10 g6)) (m255 _) (m255 _) (m255 _) (m255 _)) (fun x hx => nomatch hx) (wK K 1 rfl) (wK K 2 rfl) (wK K 3 rfl) (wK K 4 rfl) (by decide) (na := 2) rfl (by decide +kernel) rfl (stk := [(.int (Int32.ofNat V)), (.ref a)]) rfl (by decide +kernel) (V := 0) (lb rfl) (lb rfl) (lb rfl) (lb rfl) (lb rfl)
  refine oLift st11 ?_
  show OG _ _ _ _ _ _ _ _ _ _ _ (mkF m 134 #[sI i0, sI i1, sI i2, sI (Int32.ofNat V), sI (Int32.ofNat U), sR a, sR b, sU, sU, sU] [(.ref x)])
  refine oGo W11 [.astore 7, .aload 6, .iload 4] (by decide +kernel) (ls' := #[sI i0, sI i1, sI i2, sI (Int32.ofNat V), sI (Int32.ofNat U), sR a, sR b, sR x, sU, sU]) (st' := [(.int (Int32.ofNat U)), (.ref b)]) rfl rfl (pc' := 140) rfl ?_
  obtain ⟨v12, T12, L12, h12, vm12, W12, ⟨y, rfl, F12, E12⟩, C12, st12⟩ := oCallS W11 (idx := 7) (pc := 140) (ls := #[sI i0, sI i1, sI i2, sI (Int32.ofNat V), sI (Int32.ofNat U), sR a, sR b, sR x, sU, sU]) (st := []) (argsL := [(.ref b), (.int (Int32.ofNat U))]) (c_mk K hU (A10.ext E11) (m255 _) (m255 _) (m255 _) (m255 _)) (fun x hx => nomatch hx) (wK K 1 rfl) (wK K 2 rfl) (wK K 3 rfl) (wK K 4 rfl) (by decide) (na := 2) rfl (by decide +kernel) rfl (stk := [(.int (Int32.ofNat U)), (.ref b)]) rfl (by decide +kernel) (V := 0) (lb rfl) (lb rfl) (lb rfl) (lb rfl) (lb rfl)
  refine oLift st12 ?_
  show OG _ _ _ _ _ _ _ _ _ _ _ (mkF m 143 #[sI i0, sI i1, sI i2, sI (Int32.ofNat V), sI (Int32.ofNat U), sR a, sR b, sR x, sU, sU] [(.ref y)])
  refine oGo W12 [.astore 8, .aload 7, .aload 8] (by decide +kernel) (ls' := #[sI i0, sI i1, sI i2, sI (Int32.ofNat V), sI (Int32.ofNat U), sR a, sR b, sR x, sR y, sU]) (st' := [(.ref y), (.ref x)]) rfl rfl (pc' := 149) rfl ?_
  obtain ⟨v13, T13, L13, h13, vm13, W13, ⟨r13, rfl, E13, Q13⟩, C13, st13⟩ := oCallS W12 (idx := 13) (pc := 149) (ls := #[sI i0, sI i1, sI i2, sI (Int32.ofNat V), sI (Int32.ofNat U), sR a, sR b, sR x, sR y, sU]) (st := []) (argsL := [(.ref x), (.ref y)]) (c_nam K (F11.ext E12) F12 (by rw [List.length_take]; exact Nat.le_trans (Nat.min_le_left _ _) hV) (by rw [List.length_take]; exact Nat.le_trans (Nat.min_le_left _ _) hU)) (fun x hx => nomatch hx) (wK K 37 rfl) (wK K 38 rfl) (wK K 39 rfl) (wK K 40 rfl) (by decide) (na := 2) rfl (by decide +kernel) rfl (stk := [(.ref y), (.ref x)]) rfl (by decide +kernel) (V := 0) (lb rfl) (lb rfl) (lb rfl) (lb rfl) (lb rfl)
  refine oLift st13 ?_
  show OG _ _ _ _ _ _ _ _ _ _ _ (mkF m 152 #[sI i0, sI i1, sI i2, sI (Int32.ofNat V), sI (Int32.ofNat U), sR a, sR b, sR x, sR y, sU] [(.int r13)])
  refine oGo W13 [.istore 9, .iload 9, .aload 5, .iload_n 3, .aload 6, .iload 4] (by decide +kernel) (ls' := #[sI i0, sI i1, sI i2, sI (Int32.ofNat V), sI (Int32.ofNat U), sR a, sR b, sR x, sR y, sI r13]) (st' := [(.int (Int32.ofNat U)), (.ref b), (.int (Int32.ofNat V)), (.ref a), (.int r13)]) rfl rfl (pc' := 163) rfl ?_
  obtain ⟨v14, T14, L14, h14, vm14, W14, ⟨r14, rfl, e14, Q14⟩, C14, st14⟩ := oCallS W13 (idx := 19) (pc := 163) (ls := #[sI i0, sI i1, sI i2, sI (Int32.ofNat V), sI (Int32.ofNat U), sR a, sR b, sR x, sR y, sI r13]) (st := [(.int r13)]) (argsL := [(.ref a), (.int (Int32.ofNat V)), (.ref b), (.int (Int32.ofNat U))]) (c_exp K hV hU ((((A5.ext (exW (exW (exW (exW E6 Wr7 g6) Wr8 g6) Wr9 g6) Wr10 g6)).ext E11).ext E12).ext E13) (((A10.ext E11).ext E12).ext E13)) (fun x hx => nomatch hx) (wK K 118 rfl) (wK K 119 rfl) (wK K 3 rfl) (wK K 120 rfl) (by decide) (na := 4) rfl (by decide +kernel) rfl (stk := [(.int (Int32.ofNat U)), (.ref b), (.int (Int32.ofNat V)), (.ref a), (.int r13)]) rfl (by decide +kernel) (V := 1) (lb rfl) (lb rfl) (lb rfl) (lb rfl) (lb rfl)
  refine oLift st14 ?_
  rw [e14] at W14 C14
  show OG _ _ _ _ _ _ _ _ _ _ _ (mkF m 166 #[sI i0, sI i1, sI i2, sI (Int32.ofNat V), sI (Int32.ofNat U), sR a, sR b, sR x, sR y, sI r13] [(.int r14), (.int r13)])
  have hrr : r13 = r14 := by rcases Q13 with ⟨rfl, z1⟩ | ⟨rfl, z1⟩ <;> rcases Q14 with ⟨rfl, z2⟩ | ⟨rfl, z2⟩ <;> first | rfl | exact absurd z1 z2 | exact absurd z2 z1
  refine oIcF W14 (cd := .ne) (o := 7) (by decide +kernel) (XT.ii_ne_f hrr) (pc' := 169) rfl ?_
  refine oGo W14 [.iconst 1, .goto 4] (by decide +kernel) (ls' := #[sI i0, sI i1, sI i2, sI (Int32.ofNat V), sI (Int32.ofNat U), sR a, sR b, sR x, sR y, sI r13]) (st' := [(.int 1)]) rfl rfl (pc' := 174) rfl ?_
  exact oRetN (by simp) W14 rfl (by decide +kernel) (lb rfl) (lb rfl) (fun vm' hv => rfl)
set_option maxRecDepth 65536 in
set_option maxHeartbeats 40000000 in
theorem comes_1 {Post : Tables → Env → Array Value → State → Outcome → State → Prop} (hpost : ∀ tb e args s v u, (limb_1_1.after args s (.returned v) u = true ∧ limb_1_2.after args s (.returned v) u = true ∧ True) → ReturnedEndW s (.returned v) u (Jvm.fieldLocs frame_1_writes args s ++ Jvm.arrayLocs frame_1_arrays args s ++ Jvm.staticLocs frame_1_statics s) 40 2240 → Post tb e args s (.returned v) u) :
    ArmFor flags0 classFile x code maxLocals ret World_1 tables_1 room_1 Calls_1 rest_1 Pre_1 Post := by
  intro l hfl _ _ p e ha hc hk s m args below hf hA hF happ hP
  obtain ⟨hcalls, hrest, hpre⟩ := hP
  obtain ⟨-, -, -, hnamed, -, -, -, hat⟩ := (Spec.applies_iff hf).mp happ
  obtain ⟨hg, hn⟩ := and_e (Cond.before_iff.mp (show (Jvm.Cond.and given_1 narrow_1).before args s = true from hpre))
  obtain ⟨hcnt, t0⟩ := and_e hg
  obtain ⟨g0, t1⟩ := and_e t0
  obtain ⟨g1, t2⟩ := and_e t1
  obtain ⟨w0, w1, w2, rfl⟩ : ∃ w0 w1 w2 : Value, args = #[w0, w1, w2] := by
    have hs : args.size = 3 := by simpa [Cond.value, given_1] using hcnt
    obtain ⟨L⟩ := args
    match L, hs with
    | [w0, w1, w2], _ => exact ⟨w0, w1, w2, rfl⟩
  have hw := fun d (hd : d ∈ tables_1) => atoms_spec (ws := Jvm.Cond.code x code maxLocals ret :: tables_1) hat d (List.mem_cons_of_mem _ hd)
  obtain ⟨hsets, hown0⟩ := atoms_of _ (rest_1_c_eq ▸ (show rest_1_c.before _ s = true from hrest))
  obtain ⟨i0, e0⟩ := is_v g0
  obtain rfl : w0 = (.int i0) := Option.some.inj e0
  obtain ⟨i1, e1⟩ := is_v g1
  obtain rfl : w1 = (.int i1) := Option.some.inj e1
  obtain ⟨i2, e2⟩ := is_v t2
  obtain rfl : w2 = (.int i2) := Option.some.inj e2
  have n5 := not_v (Cond.before_iff.mp (hsets _ (List.mem_of_getElem? (i := 2) rfl)))
  obtain ⟨z, ez⟩ := is_v (Cond.before_iff.mp (hsets _ (List.mem_of_getElem? (i := 1) rfl)))
  have Sz : Sta s s.heap "java/lang/String" "COMPACT_STRINGS" "Z" (.int z) := Sta.start ez (Or.inl (hsets _ (List.mem_of_getElem? (i := 0) rfl)))
  have cz : ¬ (z = (0 : Int32)) := gotF (Cond.eq_ints ez (Term.int_eval (0))) n5
  have hfit : Fit s := fun {y c} hc i hi => by
    obtain ⟨ha, rfl⟩ := Array.getElem?_eq_some_iff.mp hc
    have q := List.all_eq_true.mp ((Array.all_eq_true_iff_forall_mem.mp hF) _ (Array.getElem_mem ha)) i (List.mem_range.mpr hi)
    simpa [Array.getElem?_eq_getElem hi] using q
  obtain ⟨fs, efs, rfs⟩ := own_isref (Cond.before_iff.mp (hsets _ (List.mem_of_getElem? (i := 8) rfl)))
  have hSx : Sx s := ⟨fs, Sta.start efs (Or.inl (hsets _ (List.mem_of_getElem? (i := 7) rfl))), rfs⟩
  obtain ⟨ui, eui⟩ := exa_v (Cond.before_iff.mp (hsets _ (List.mem_of_getElem? (i := 11) rfl)))
  obtain ⟨va, eva⟩ := exa_v (Cond.before_iff.mp (hsets _ (List.mem_of_getElem? (i := 15) rfl)))
  obtain ⟨kv, vs, AV, -, hVs⟩ := arrStart2 hfit eva (Cond.before_iff.mp (hsets _ (List.mem_of_getElem? (i := 14) rfl))) (n := 256) (by decide) (Cond.before_iff.mp (hsets _ (List.mem_of_getElem? (i := 16) rfl)))
  have hCd : Cd s := ⟨ui, va, kv, vs, Sta.start eui (Or.inl (hsets _ (List.mem_of_getElem? (i := 10) rfl))), Exa.start eui (Cond.before_iff.mp (hsets _ (List.mem_of_getElem? (i := 11) rfl))), Sta.start eva (Or.inl (hsets _ (List.mem_of_getElem? (i := 13) rfl))), AV, fun n hn => by
    have q := hVs (Int32.ofNat n) _ (eqv (Cond.before_iff.mp (hsets _ (at_in n (List.mem_range.mpr hn)))) rfl (Or.inr ⟨_, rfl⟩))
    rwa [n_cl (by omega)] at q⟩
  have hEW : EW s #[.int i0, .int i1, .int i2] EL := (EW.cons (hw _ (List.mem_of_getElem? (i := 34) rfl)) (by decide) (EW.cons (hw _ (List.mem_of_getElem? (i := 138) rfl)) (by decide) EW.nil))
  have hCH : CHv s EL s.vm s.heap := CHv.start hEW (fun p hp => hcalls.1 p (EL_in p hp)) (hsets _ (List.mem_of_getElem? (i := 2) rfl)) (hw _ (List.mem_of_getElem? (i := 23) rfl)) (hw _ (List.mem_of_getElem? (i := 6) rfl))
  have K : Ctx s #[.int i0, .int i1, .int i2] := ⟨hw, ⟨fun d hd => hw d (sW_in d hd), hEW, z, Sz, cz⟩, fun d hd => hw d (sA_in d hd), hSx, hCd⟩
  obtain ⟨n, o, q1, q2, q3, v, L, rfl, ⟨rfl, N, -⟩, hnb, -, r1, r2, r3, r4⟩ := c_law (l := l) K i0 i1 i2 s.heap p e ha hc hk s m _ below hf ((Spec.applies_iff_loose hf).mp happ).1 ⟨rfl, State.Warmed39.refl s, rfl, hCH, exR _, fun _ hp => nomatch hp⟩ trivial
  exact ⟨n, _, q1, q2, q3, hpost _ _ _ _ _ _ ⟨Cond.after_iff.mpr rfl, Cond.after_iff.mpr (eq_i res_at (Term.int_eval (1)) rfl), trivial⟩ ⟨r1, r2, r3, (r4.sift fun y hy => Or.inr (N y hy)).mono (by decide) (by decide)⟩⟩
theorem main_1_1 : Claimed_1_1 := comes_1 fun _ _ _ _ _ _ h hF => ⟨h.1, hF⟩
theorem main_1_2 : Claimed_1_2 := comes_1 fun _ _ _ _ _ _ h hF => ⟨h.2.1, hF⟩
end Jvm.Pilot.@@N@@
namespace Jvm.Pilot.@@N@@
open Jvm Jvm.ClassFile Sem Op Lib Jvm.Free Jvm.Stand Jvm.Pilot.@@N@@.Jvm.D
/-! MADE BY PROGRAM (witnessworld.py) out of the Statement's table words and the real class files: 24 classes; the members and pool entries that the words name. The judged class is class 1, her method 1. -/
namespace start1
open Jvm.ClassFile
def u (s : String) : CpInfo := .utf8 (stringToUtf16 s)
/-- a pool by its gaps: so many unusable entries, then the entry; so many at the end -/
def gap : Nat → List CpInfo → List CpInfo
  | 0, r => r
  | n + 1, r => .unusable :: gap n r
def poolList (es : List (Nat × CpInfo)) (last : Nat) : List CpInfo := es.foldr (fun e r => gap e.1 (e.2 :: r)) (gap last [])
def pool (es : List (Nat × CpInfo)) (last : Nat) : Array CpInfo := ⟨poolList es last⟩
def fileOf (pool : Array CpInfo) (this : Nat) (attrs : Array Attribute := #[]) (ms : Array MethodInfo := #[]) (fl : Nat := 33) (sup : Nat := 0) (ifs : Array Nat := #[]) (fds : Array FieldInfo := #[]) : ClassFile where
  minorVersion := 0
  majorVersion := 65
  constantPool := pool
  accessFlags := fl
  thisClass := this
  superClass := sup
  interfaces := ifs
  fields := fds
  methods := ms
  attributes := attrs
def plain (name : String) (sup : Option ClassId) : Class where
  name := name
  kind := .ordinary
  loader := none
  accessFlags := 33
  super := sup
  interfaces := #[]
  cf := none
  fields := #[]
  methods := #[]
  instanceTypes := #[]
  staticTypes := #[]
  resolved := #[]
  callSites := []
  init := .initialized
  statics := none
  mirror := none

def pool0 : Array CpInfo := pool [(5, u "<init>"), (0, u "()V"), (1, .class_ 10), (1, u "java/lang/Object")] 113

def k0c0 : Code := { maxStack := 0, maxLocals := 1, code := object_method_1_code, exceptionTable := #[], attributes := #[] }
def k0m0 : Method := { name := "<init>", desc := "()V", sig := { parameters := [], returnType := none }, accessFlags := 1, code := some k0c0 }
/-- java/lang/Object -/
def k0 : Class := { plain "java/lang/Object" none with
  accessFlags := 33
  interfaces := #[]
  cf := some (fileOf pool0 8 #[] #[{ accessFlags := 1, nameIndex := 5, descriptorIndex := 6, attributes := #[] }] 33 0 #[] #[])
  fields := #[]
  methods := #[k0m0]
  instanceTypes := #[]
  staticTypes := #[]
  resolved := Array.replicate 124 none
  statics := none }

def pool1 : Array CpInfo := pool [(2, .class_ 4), (1, u "java/lang/Object"), (0, u "<init>"), (0, u "()V"), (0, .methodref 8 9), (0, .class_ 10), (0, .nameAndType 11 12), (0, u "com/example/gentle_hub/gentlehub/server/MediaTypesNamesPinLaw"), (0, u "str"), (0, u "([CI)Ljava/lang/String;"), (0, .methodref 14 15), (0, .class_ 16), (0, .nameAndType 17 18), (0, u "com/example/gentle_hub/gentlehub/server/MediaTypes"), (0, u "names"), (0, u "(Ljava/lang/String;Ljava/lang/String;)Z"), (0, .methodref 8 20), (0, .nameAndType 21 22), (0, u "expected"), (0, u "([CI[CI)Z"), (0, .class_ 24), (0, u "java/lang/String"), (0, .methodref 23 26), (0, .nameAndType 5 27), (0, u "([C)V"), (0, .methodref 8 29), (0, .nameAndType 30 31), (0, u "ws"), (0, u "(C)Z"), (0, .methodref 8 33), (0, .nameAndType 34 35), (0, u "fold"), (0, u "(C)I"), (2, u "law"), (0, u "(III)Z")] 5

def k1m0 : Method := { name := "<init>", desc := "()V", sig := { parameters := [], returnType := none }, accessFlags := 2, code := none }
def k1c1 : Code := { maxStack := 5, maxLocals := 10, code := code, exceptionTable := #[], attributes := #[] }
def k1m1 : Method := { name := "law", desc := "(III)Z", sig := { parameters := [.int, .int, .int], returnType := some .boolean }, accessFlags := 9, code := some k1c1 }
def k1c2 : Code := { maxStack := 7, maxLocals := 2, code := method_3_code, exceptionTable := #[], attributes := #[] }
def k1m2 : Method := { name := "str", desc := "([CI)Ljava/lang/String;", sig := { parameters := [(.array .char), .int], returnType := some (.object "java/lang/String") }, accessFlags := 10, code := some k1c2 }
def k1c3 : Code := { maxStack := 2, maxLocals := 1, code := method_4_code, exceptionTable := #[], attributes := #[] }
def k1m3 : Method := { name := "ws", desc := "(C)Z", sig := { parameters := [.char], returnType := some .boolean }, accessFlags := 10, code := some k1c3 }
def k1c4 : Code := { maxStack := 2, maxLocals := 1, code := method_5_code, exceptionTable := #[], attributes := #[] }
def k1m4 : Method := { name := "fold", desc := "(C)I", sig := { parameters := [.char], returnType := some .int }, accessFlags := 10, code := some k1c4 }
def k1c5 : Code := { maxStack := 3, maxLocals := 9, code := method_6_code, exceptionTable := #[], attributes := #[] }
def k1m5 : Method := { name := "expected", desc := "([CI[CI)Z", sig := { parameters := [(.array .char), .int, (.array .char), .int], returnType := some .boolean }, accessFlags := 10, code := some k1c5 }
/-- com/example/gentle_hub/gentlehub/server/MediaTypesNamesPinLaw -/
def k1 : Class := { plain "com/example/gentle_hub/gentlehub/server/MediaTypesNamesPinLaw" (some 0) with
  accessFlags := 49
  interfaces := #[]
  cf := some (fileOf pool1 8 #[] #[{ accessFlags := 2, nameIndex := 5, descriptorIndex := 6, attributes := #[] }, { accessFlags := 9, nameIndex := 38, descriptorIndex := 39, attributes := #[] }, { accessFlags := 10, nameIndex := 11, descriptorIndex := 12, attributes := #[] }, { accessFlags := 10, nameIndex := 30, descriptorIndex := 31, attributes := #[] }, { accessFlags := 10, nameIndex := 34, descriptorIndex := 35, attributes := #[] }, { accessFlags := 10, nameIndex := 21, descriptorIndex := 22, attributes := #[] }] 49 2 #[] #[])
  fields := #[]
  methods := #[k1m0, k1m1, k1m2, k1m3, k1m4, k1m5]
  instanceTypes := #[]
  staticTypes := #[]
  resolved := Array.replicate 45 none
  statics := none }

def pool2 : Array CpInfo := pool [(1, .class_ 2), (0, u "java/io/Serializable"), (0, .class_ 4), (0, u "java/lang/Object")] 2

/-- java/io/Serializable -/
def k2 : Class := { plain "java/io/Serializable" (some 0) with
  accessFlags := 1537
  interfaces := #[]
  cf := some (fileOf pool2 1 #[] #[] 1537 3 #[] #[])
  fields := #[]
  methods := #[]
  instanceTypes := #[]
  staticTypes := #[]
  resolved := Array.replicate 7 none
  statics := none }

def pool3 : Array CpInfo := pool [(1, .class_ 2), (0, u "java/lang/Comparable"), (0, .class_ 4), (0, u "java/lang/Object")] 7

/-- java/lang/Comparable -/
def k3 : Class := { plain "java/lang/Comparable" (some 0) with
  accessFlags := 1537
  interfaces := #[]
  cf := some (fileOf pool3 1 #[] #[] 1537 3 #[] #[])
  fields := #[]
  methods := #[]
  instanceTypes := #[]
  staticTypes := #[]
  resolved := Array.replicate 12 none
  statics := none }

def pool4 : Array CpInfo := pool [(2, .class_ 4), (1, u "java/lang/CharSequence"), (42, .class_ 48), (0, u "java/lang/CharSequence$1CodePointIterator"), (10, .class_ 60), (0, u "java/lang/CharSequence$1CharIterator"), (5, .class_ 67), (0, u "java/lang/Object")] 63

/-- java/lang/CharSequence -/
def k4 : Class := { plain "java/lang/CharSequence" (some 0) with
  accessFlags := 1537
  interfaces := #[]
  cf := some (fileOf pool4 2 #[.nestMembers #[47, 59]] #[] 1537 66 #[] #[])
  fields := #[]
  methods := #[]
  instanceTypes := #[]
  staticTypes := #[]
  resolved := Array.replicate 131 none
  statics := none }

def pool5 : Array CpInfo := pool [(1, .class_ 2), (0, u "java/lang/constant/Constable"), (0, .class_ 4), (0, u "java/lang/Object")] 6

/-- java/lang/constant/Constable -/
def k5 : Class := { plain "java/lang/constant/Constable" (some 0) with
  accessFlags := 1537
  interfaces := #[]
  cf := some (fileOf pool5 1 #[] #[] 1537 3 #[] #[])
  fields := #[]
  methods := #[]
  instanceTypes := #[]
  staticTypes := #[]
  resolved := Array.replicate 11 none
  statics := none }

def pool6 : Array CpInfo := pool [(1, .class_ 2), (0, u "java/lang/constant/ConstantDesc"), (0, .class_ 4), (0, u "java/lang/Object")] 32

/-- java/lang/constant/ConstantDesc -/
def k6 : Class := { plain "java/lang/constant/ConstantDesc" (some 0) with
  accessFlags := 1537
  interfaces := #[]
  cf := some (fileOf pool6 1 #[] #[] 1537 3 #[] #[])
  fields := #[]
  methods := #[]
  instanceTypes := #[]
  staticTypes := #[]
  resolved := Array.replicate 37 none
  statics := none }

def pool7 : Array CpInfo := pool [(1, .methodref 2 3), (0, .class_ 4), (0, .nameAndType 5 6), (0, u "java/lang/Object"), (0, u "<init>"), (0, u "()V"), (0, .string 8), (0, u ""), (0, .fieldref 10 11), (0, .class_ 12), (0, .nameAndType 13 14), (0, u "java/lang/String"), (0, u "value"), (0, u "[B"), (0, .fieldref 10 16), (0, .nameAndType 17 18), (0, u "coder"), (0, u "B"), (2, u "hash"), (0, u "I"), (2, u "hashIsZero"), (0, u "Z"), (0, .methodref 10 28), (0, .nameAndType 5 29), (0, u "([CIILjava/lang/Void;)V"), (8, .fieldref 10 39), (0, .nameAndType 40 26), (0, u "COMPACT_STRINGS"), (1, .class_ 44), (1, u "java/lang/StringUTF16"), (0, u "compress"), (1, .methodref 42 48), (0, .nameAndType 49 50), (0, u "coderFromArrayLen"), (0, u "([BI)B"), (56, .class_ 109), (1, u "java/lang/StringLatin1"), (32, u "()Z"), (34, .methodref 42 178), (0, .nameAndType 45 179), (0, u "([CII)[B"), (31, u "([BB)V"), (122, u "()I"), (0, .methodref 10 336), (0, .nameAndType 17 337), (0, u "()B"), (126, u "()Ljava/lang/String;"), (27, .methodref 10 493), (0, .nameAndType 494 142), (0, u "isLatin1"), (10, .methodref 10 506), (0, .nameAndType 507 334), (0, u "length"), (5, u "checkFromToIndex"), (7, .methodref 10 522), (0, .nameAndType 523 524), (0, u "checkBoundsBeginEnd"), (0, u "(III)V"), (50, .class_ 576), (0, u "java/lang/CharSequence"), (5, .methodref 10 583), (0, .nameAndType 584 585), (0, u "regionMatches"), (0, u "(ZILjava/lang/String;II)Z"), (13, u "CASE_INSENSITIVE_ORDER"), (0, u "Ljava/util/Comparator;"), (12, .methodref 107 614), (0, .nameAndType 615 616), (0, u "regionMatchesCI"), (0, u "([BI[BII)Z"), (16, .methodref 10 634), (0, .nameAndType 635 636), (0, u "indexOf"), (0, u "(II)I"), (0, .methodref 107 638), (0, .nameAndType 635 639), (0, u "([BIII)I"), (43, u "substring"), (0, u "(II)Ljava/lang/String;"), (0, .methodref 107 686), (0, .nameAndType 687 688), (0, u "newString"), (0, u "([BII)Ljava/lang/String;"), (76, u "(I)I"), (96, u "([B)Ljava/lang/String;"), (1, .methodref 107 865), (0, .nameAndType 866 862), (0, u "strip"), (143, u "([C)V"), (42, .fieldref 1054 1055), (0, .class_ 1056), (0, .nameAndType 1057 1058), (0, u "jdk/internal/util/Preconditions"), (0, u "SIOOBE_FORMATTER"), (0, u "Ljava/util/function/BiFunction;"), (3, .methodref 1054 1063), (0, .nameAndType 513 1064), (0, u "(IIILjava/util/function/BiFunction;)I"), (36, u "serialPersistentFields"), (0, u "[Ljava/io/ObjectStreamField;"), (0, .class_ 1104), (0, u "java/lang/String$CaseInsensitiveComparator"), (1, .class_ 1107), (0, u "java/io/Serializable"), (0, .class_ 1109), (0, u "java/lang/Comparable"), (0, .class_ 1111), (0, u "java/lang/constant/Constable"), (0, .class_ 1113), (0, u "java/lang/constant/ConstantDesc"), (2, u "serialVersionUID"), (0, u "J"), (3, u "REPL"), (0, u "C"), (2, u "LATIN1"), (1, u "UTF16"), (128, u "equalsIgnoreCase"), (0, u "(Ljava/lang/String;)Z")] 193

def k7m0 : Method := { name := "<init>", desc := "()V", sig := { parameters := [], returnType := none }, accessFlags := 1, code := none }
def k7c1 : Code := { maxStack := 5, maxLocals := 2, code := jdk_42_method_3_code, exceptionTable := #[], attributes := #[] }
def k7m1 : Method := { name := "<init>", desc := "([C)V", sig := { parameters := [(.array .char)], returnType := none }, accessFlags := 1, code := some k7c1 }
def k7c2 : Code := { maxStack := 2, maxLocals := 1, code := jdk_42_method_54_code, exceptionTable := #[], attributes := #[] }
def k7m2 : Method := { name := "length", desc := "()I", sig := { parameters := [], returnType := some .int }, accessFlags := 1, code := some k7c2 }
def k7c3 : Code := { maxStack := 6, maxLocals := 2, code := jdk_42_method_70_code, exceptionTable := #[], attributes := #[] }
def k7m3 : Method := { name := "equalsIgnoreCase", desc := "(Ljava/lang/String;)Z", sig := { parameters := [(.object "java/lang/String")], returnType := some .boolean }, accessFlags := 1, code := some k7c3 }
def k7c4 : Code := { maxStack := 6, maxLocals := 9, code := jdk_42_method_74_code, exceptionTable := #[], attributes := #[] }
def k7m4 : Method := { name := "regionMatches", desc := "(ZILjava/lang/String;II)Z", sig := { parameters := [.boolean, .int, (.object "java/lang/String"), .int, .int], returnType := some .boolean }, accessFlags := 1, code := some k7c4 }
def k7c5 : Code := { maxStack := 3, maxLocals := 2, code := jdk_42_method_79_code, exceptionTable := #[], attributes := #[] }
def k7m5 : Method := { name := "indexOf", desc := "(I)I", sig := { parameters := [.int], returnType := some .int }, accessFlags := 1, code := some k7c5 }
def k7c6 : Code := { maxStack := 4, maxLocals := 3, code := jdk_42_method_80_code, exceptionTable := #[], attributes := #[] }
def k7m6 : Method := { name := "indexOf", desc := "(II)I", sig := { parameters := [.int, .int], returnType := some .int }, accessFlags := 1, code := some k7c6 }
def k7c7 : Code := { maxStack := 3, maxLocals := 5, code := jdk_42_method_92_code, exceptionTable := #[], attributes := #[] }
def k7m7 : Method := { name := "substring", desc := "(II)Ljava/lang/String;", sig := { parameters := [.int, .int], returnType := some (.object "java/lang/String") }, accessFlags := 1, code := some k7c7 }
def k7c8 : Code := { maxStack := 1, maxLocals := 2, code := jdk_42_method_114_code, exceptionTable := #[], attributes := #[] }
def k7m8 : Method := { name := "strip", desc := "()Ljava/lang/String;", sig := { parameters := [], returnType := some (.object "java/lang/String") }, accessFlags := 1, code := some k7c8 }
def k7c9 : Code := { maxStack := 4, maxLocals := 6, code := jdk_42_method_149_code, exceptionTable := #[], attributes := #[] }
def k7m9 : Method := { name := "<init>", desc := "([CIILjava/lang/Void;)V", sig := { parameters := [(.array .char), .int, .int, (.object "java/lang/Void")], returnType := none }, accessFlags := 2, code := some k7c9 }
def k7c10 : Code := { maxStack := 2, maxLocals := 3, code := jdk_42_method_151_code, exceptionTable := #[], attributes := #[] }
def k7m10 : Method := { name := "<init>", desc := "([BB)V", sig := { parameters := [(.array .byte), .byte], returnType := none }, accessFlags := 0, code := some k7c10 }
def k7c11 : Code := { maxStack := 1, maxLocals := 1, code := jdk_42_method_152_code, exceptionTable := #[], attributes := #[] }
def k7m11 : Method := { name := "coder", desc := "()B", sig := { parameters := [], returnType := some .byte }, accessFlags := 0, code := some k7c11 }
def k7c12 : Code := { maxStack := 1, maxLocals := 1, code := jdk_42_method_154_code, exceptionTable := #[], attributes := #[] }
def k7m12 : Method := { name := "isLatin1", desc := "()Z", sig := { parameters := [], returnType := some .boolean }, accessFlags := 0, code := some k7c12 }
def k7c13 : Code := { maxStack := 4, maxLocals := 3, code := jdk_42_method_158_code, exceptionTable := #[], attributes := #[] }
def k7m13 : Method := { name := "checkBoundsBeginEnd", desc := "(III)V", sig := { parameters := [.int, .int, .int], returnType := none }, accessFlags := 8, code := some k7c13 }
/-- java/lang/String -/
def k7 : Class := { plain "java/lang/String" (some 0) with
  accessFlags := 49
  interfaces := #[2, 3, 4, 5, 6]
  cf := some (fileOf pool7 10 #[.nestMembers #[1103]] #[{ accessFlags := 1, nameIndex := 5, descriptorIndex := 6, attributes := #[] }, { accessFlags := 1, nameIndex := 5, descriptorIndex := 1010, attributes := #[] }, { accessFlags := 1, nameIndex := 507, descriptorIndex := 334, attributes := #[] }, { accessFlags := 1, nameIndex := 1256, descriptorIndex := 1257, attributes := #[] }, { accessFlags := 1, nameIndex := 584, descriptorIndex := 585, attributes := #[] }, { accessFlags := 1, nameIndex := 635, descriptorIndex := 765, attributes := #[] }, { accessFlags := 1, nameIndex := 635, descriptorIndex := 636, attributes := #[] }, { accessFlags := 1, nameIndex := 683, descriptorIndex := 684, attributes := #[] }, { accessFlags := 1, nameIndex := 866, descriptorIndex := 464, attributes := #[] }, { accessFlags := 2, nameIndex := 5, descriptorIndex := 29, attributes := #[] }, { accessFlags := 0, nameIndex := 5, descriptorIndex := 211, attributes := #[] }, { accessFlags := 0, nameIndex := 17, descriptorIndex := 337, attributes := #[] }, { accessFlags := 0, nameIndex := 494, descriptorIndex := 142, attributes := #[] }, { accessFlags := 8, nameIndex := 523, descriptorIndex := 524, attributes := #[] }] 49 2 #[1106, 1108, 575, 1110, 1112] #[{ accessFlags := 18, nameIndex := 13, descriptorIndex := 14, attributes := #[] }, { accessFlags := 18, nameIndex := 17, descriptorIndex := 18, attributes := #[] }, { accessFlags := 2, nameIndex := 21, descriptorIndex := 22, attributes := #[] }, { accessFlags := 2, nameIndex := 25, descriptorIndex := 26, attributes := #[] }, { accessFlags := 26, nameIndex := 1116, descriptorIndex := 1117, attributes := #[] }, { accessFlags := 24, nameIndex := 40, descriptorIndex := 26, attributes := #[] }, { accessFlags := 26, nameIndex := 1101, descriptorIndex := 1102, attributes := #[] }, { accessFlags := 26, nameIndex := 1121, descriptorIndex := 1122, attributes := #[] }, { accessFlags := 25, nameIndex := 599, descriptorIndex := 600, attributes := #[] }, { accessFlags := 24, nameIndex := 1125, descriptorIndex := 18, attributes := #[] }, { accessFlags := 24, nameIndex := 1127, descriptorIndex := 18, attributes := #[] }])
  fields := #[{ name := "value", type := (.array .byte), accessFlags := 18, slot := 0, constantValue := 0 }, { name := "coder", type := .byte, accessFlags := 18, slot := 1, constantValue := 0 }, { name := "hash", type := .int, accessFlags := 2, slot := 2, constantValue := 0 }, { name := "hashIsZero", type := .boolean, accessFlags := 2, slot := 3, constantValue := 0 }, { name := "serialVersionUID", type := .long, accessFlags := 26, slot := 0, constantValue := 0 }, { name := "COMPACT_STRINGS", type := .boolean, accessFlags := 24, slot := 1, constantValue := 0 }, { name := "serialPersistentFields", type := (.array (.object "java/io/ObjectStreamField")), accessFlags := 26, slot := 2, constantValue := 0 }, { name := "REPL", type := .char, accessFlags := 26, slot := 3, constantValue := 0 }, { name := "CASE_INSENSITIVE_ORDER", type := (.object "java/util/Comparator"), accessFlags := 25, slot := 4, constantValue := 0 }, { name := "LATIN1", type := .byte, accessFlags := 24, slot := 5, constantValue := 0 }, { name := "UTF16", type := .byte, accessFlags := 24, slot := 6, constantValue := 0 }]
  methods := #[k7m0, k7m1, k7m2, k7m3, k7m4, k7m5, k7m6, k7m7, k7m8, k7m9, k7m10, k7m11, k7m12, k7m13]
  instanceTypes := #[(.array .byte), .byte, .int, .boolean]
  staticTypes := #[.long, .boolean, (.array (.object "java/io/ObjectStreamField")), .char, (.object "java/util/Comparator"), .byte, .byte]
  resolved := Array.replicate 1451 none
  statics := some 0 }

def pool8 : Array CpInfo := pool [(6, .class_ 8), (1, u "java/lang/Object"), (0, u "<init>"), (0, u "()V"), (1, .class_ 14), (1, u "java/lang/StringUTF16"), (31, u "$assertionsDisabled"), (0, u "Z"), (13, u "HI_BYTE_SHIFT"), (0, u "I"), (2, u "LO_BYTE_SHIFT"), (49, .methodref 12 116), (0, .nameAndType 117 118), (0, u "compress"), (0, u "([CI[BII)I"), (3, u "([CII)[B"), (138, u "coderFromArrayLen"), (0, u "([BI)B"), (106, .class_ 371), (1, u "java/lang/StringUTF16$LinesSpliterator"), (58, u "MAX_LENGTH"), (196, .class_ 628), (0, u "java/lang/StringUTF16$CodePointsSpliterator"), (0, .class_ 630), (0, u "java/lang/StringUTF16$CharsSpliterator")] 4

def k8m0 : Method := { name := "<init>", desc := "()V", sig := { parameters := [], returnType := none }, accessFlags := 0, code := none }
def k8c1 : Code := { maxStack := 2, maxLocals := 2, code := jdk_52_method_15_code, exceptionTable := #[], attributes := #[] }
def k8m1 : Method := { name := "coderFromArrayLen", desc := "([BI)B", sig := { parameters := [(.array .byte), .int], returnType := some .byte }, accessFlags := 8, code := some k8c1 }
def k8c2 : Code := { maxStack := 5, maxLocals := 6, code := jdk_52_method_16_code, exceptionTable := #[], attributes := #[] }
def k8m2 : Method := { name := "compress", desc := "([CII)[B", sig := { parameters := [(.array .char), .int, .int], returnType := some (.array .byte) }, accessFlags := 9, code := some k8c2 }
def k8c3 : Code := { maxStack := 3, maxLocals := 7, code := jdk_52_method_21_code, exceptionTable := #[], attributes := #[] }
def k8m3 : Method := { name := "compress", desc := "([CI[BII)I", sig := { parameters := [(.array .char), .int, (.array .byte), .int, .int], returnType := some .int }, accessFlags := 9, code := some k8c3 }
/-- java/lang/StringUTF16 -/
def k8 : Class := { plain "java/lang/StringUTF16" (some 0) with
  accessFlags := 48
  interfaces := #[]
  cf := some (fileOf pool8 12 #[.nestMembers #[627, 629, 369]] #[{ accessFlags := 0, nameIndex := 9, descriptorIndex := 10, attributes := #[] }, { accessFlags := 8, nameIndex := 261, descriptorIndex := 262, attributes := #[] }, { accessFlags := 9, nameIndex := 117, descriptorIndex := 122, attributes := #[] }, { accessFlags := 9, nameIndex := 117, descriptorIndex := 118, attributes := #[] }] 48 6 #[] #[{ accessFlags := 26, nameIndex := 61, descriptorIndex := 62, attributes := #[] }, { accessFlags := 26, nameIndex := 65, descriptorIndex := 62, attributes := #[] }, { accessFlags := 24, nameIndex := 430, descriptorIndex := 62, attributes := #[] }, { accessFlags := 4120, nameIndex := 46, descriptorIndex := 47, attributes := #[] }])
  fields := #[{ name := "HI_BYTE_SHIFT", type := .int, accessFlags := 26, slot := 0, constantValue := 0 }, { name := "LO_BYTE_SHIFT", type := .int, accessFlags := 26, slot := 1, constantValue := 0 }, { name := "MAX_LENGTH", type := .int, accessFlags := 24, slot := 2, constantValue := 0 }, { name := "$assertionsDisabled", type := .boolean, accessFlags := 4120, slot := 3, constantValue := 0 }]
  methods := #[k8m0, k8m1, k8m2, k8m3]
  instanceTypes := #[]
  staticTypes := #[.int, .int, .int, .boolean]
  resolved := Array.replicate 635 none
  statics := none }

def pool9 : Array CpInfo := pool [(2, .class_ 4), (1, u "java/lang/Object"), (0, u "<init>"), (0, u "()V"), (0, .methodref 8 9), (0, .class_ 10), (0, .nameAndType 11 12), (0, u "java/lang/String"), (0, u "indexOf"), (0, u "(I)I"), (0, .methodref 8 14), (0, .nameAndType 15 16), (0, u "substring"), (0, u "(II)Ljava/lang/String;"), (0, .methodref 8 18), (0, .nameAndType 19 20), (0, u "strip"), (0, u "()Ljava/lang/String;"), (0, .methodref 8 22), (0, .nameAndType 23 24), (0, u "equalsIgnoreCase"), (0, u "(Ljava/lang/String;)Z"), (0, .class_ 26), (0, u "com/example/gentle_hub/gentlehub/server/MediaTypes"), (2, u "names"), (0, u "(Ljava/lang/String;Ljava/lang/String;)Z")] 3

def k9m0 : Method := { name := "<init>", desc := "()V", sig := { parameters := [], returnType := none }, accessFlags := 2, code := none }
def k9c1 : Code := { maxStack := 3, maxLocals := 4, code := prog_25_method_2_code, exceptionTable := #[], attributes := #[] }
def k9m1 : Method := { name := "names", desc := "(Ljava/lang/String;Ljava/lang/String;)Z", sig := { parameters := [(.object "java/lang/String"), (.object "java/lang/String")], returnType := some .boolean }, accessFlags := 8, code := some k9c1 }
/-- com/example/gentle_hub/gentlehub/server/MediaTypes -/
def k9 : Class := { plain "com/example/gentle_hub/gentlehub/server/MediaTypes" (some 0) with
  accessFlags := 48
  interfaces := #[]
  cf := some (fileOf pool9 25 #[] #[{ accessFlags := 2, nameIndex := 5, descriptorIndex := 6, attributes := #[] }, { accessFlags := 8, nameIndex := 29, descriptorIndex := 30, attributes := #[] }] 48 2 #[] #[])
  fields := #[]
  methods := #[k9m0, k9m1]
  instanceTypes := #[]
  staticTypes := #[]
  resolved := Array.replicate 34 none
  statics := none }

def pool10 : Array CpInfo := pool [(1, .class_ 2), (0, u "java/lang/String"), (1, .class_ 6), (1, u "java/lang/Object"), (0, u "<init>"), (0, u "()V"), (5, .class_ 16), (1, u "java/lang/StringLatin1"), (21, .methodref 39 40), (0, .class_ 41), (0, .nameAndType 42 43), (0, u "java/lang/Math"), (0, u "min"), (0, u "(II)I"), (6, .methodref 14 51), (0, .nameAndType 52 53), (0, u "getChar"), (0, u "([BI)C"), (3, u "([B)I"), (8, .fieldref 67 68), (0, .class_ 69), (0, .nameAndType 70 71), (0, u "java/lang/CharacterDataLatin1"), (0, u "instance"), (0, u "Ljava/lang/CharacterDataLatin1;"), (16, .methodref 14 89), (0, .nameAndType 90 91), (0, u "canEncode"), (0, u "(I)Z"), (0, .methodref 39 93), (0, .nameAndType 94 43), (0, u "max"), (0, .methodref 14 96), (0, .nameAndType 97 98), (0, u "indexOfChar"), (0, u "([BIII)I"), (2, u "indexOf"), (10, .methodref 1 113), (0, .nameAndType 7 114), (0, u "([BB)V"), (6, u "$assertionsDisabled"), (0, u "Z"), (8, .class_ 133), (1, u "java/util/Arrays"), (17, .string 152), (0, u ""), (0, .methodref 67 154), (0, .nameAndType 155 156), (0, u "equalsIgnoreCase"), (0, u "(BB)Z"), (38, .nameAndType 196 197), (0, u "newString"), (0, u "([BII)Ljava/lang/String;"), (12, .methodref 14 195), (0, .methodref 67 212), (0, .nameAndType 213 91), (0, u "isWhitespace"), (0, .methodref 14 215), (0, .nameAndType 216 57), (0, u "indexOfNonWhitespace"), (0, .methodref 14 218), (0, .nameAndType 219 57), (0, u "lastIndexOfNonWhitespace"), (1, .class_ 223), (1, u "java/lang/StringLatin1$LinesSpliterator"), (8, .methodref 131 233), (0, .nameAndType 234 235), (0, u "copyOfRange"), (0, u "([BII)[B"), (104, u "regionMatchesCI"), (0, u "([BI[BII)Z"), (25, u "([B)Ljava/lang/String;"), (3, u "strip"), (18, .class_ 391), (0, u "java/lang/StringLatin1$CharsSpliterator")] 3

def k10m0 : Method := { name := "<init>", desc := "()V", sig := { parameters := [], returnType := none }, accessFlags := 0, code := none }
def k10c1 : Code := { maxStack := 2, maxLocals := 1, code := jdk_43_method_4_code, exceptionTable := #[], attributes := #[] }
def k10m1 : Method := { name := "canEncode", desc := "(I)Z", sig := { parameters := [.int], returnType := some .boolean }, accessFlags := 9, code := some k10c1 }
def k10c2 : Code := { maxStack := 4, maxLocals := 4, code := jdk_43_method_22_code, exceptionTable := #[], attributes := #[] }
def k10m2 : Method := { name := "indexOf", desc := "([BIII)I", sig := { parameters := [(.array .byte), .int, .int, .int], returnType := some .int }, accessFlags := 9, code := some k10c2 }
def k10c3 : Code := { maxStack := 2, maxLocals := 6, code := jdk_43_method_23_code, exceptionTable := #[], attributes := #[] }
def k10m3 : Method := { name := "indexOfChar", desc := "([BIII)I", sig := { parameters := [(.array .byte), .int, .int, .int], returnType := some .int }, accessFlags := 10, code := some k10c3 }
def k10c4 : Code := { maxStack := 2, maxLocals := 8, code := jdk_43_method_30_code, exceptionTable := #[], attributes := #[] }
def k10m4 : Method := { name := "regionMatchesCI", desc := "([BI[BII)Z", sig := { parameters := [(.array .byte), .int, (.array .byte), .int, .int], returnType := some .boolean }, accessFlags := 9, code := some k10c4 }
def k10c5 : Code := { maxStack := 2, maxLocals := 4, code := jdk_43_method_37_code, exceptionTable := #[], attributes := #[] }
def k10m5 : Method := { name := "indexOfNonWhitespace", desc := "([B)I", sig := { parameters := [(.array .byte)], returnType := some .int }, accessFlags := 9, code := some k10c5 }
def k10c6 : Code := { maxStack := 3, maxLocals := 4, code := jdk_43_method_38_code, exceptionTable := #[], attributes := #[] }
def k10m6 : Method := { name := "lastIndexOfNonWhitespace", desc := "([B)I", sig := { parameters := [(.array .byte)], returnType := some .int }, accessFlags := 9, code := some k10c6 }
def k10c7 : Code := { maxStack := 4, maxLocals := 4, code := jdk_43_method_39_code, exceptionTable := #[], attributes := #[] }
def k10m7 : Method := { name := "strip", desc := "([B)Ljava/lang/String;", sig := { parameters := [(.array .byte)], returnType := some (.object "java/lang/String") }, accessFlags := 9, code := some k10c7 }
def k10c8 : Code := { maxStack := 2, maxLocals := 2, code := jdk_43_method_44_code, exceptionTable := #[], attributes := #[] }
def k10m8 : Method := { name := "getChar", desc := "([BI)C", sig := { parameters := [(.array .byte), .int], returnType := some .char }, accessFlags := 9, code := some k10c8 }
def k10c9 : Code := { maxStack := 6, maxLocals := 3, code := jdk_43_method_47_code, exceptionTable := #[], attributes := #[] }
def k10m9 : Method := { name := "newString", desc := "([BII)Ljava/lang/String;", sig := { parameters := [(.array .byte), .int, .int], returnType := some (.object "java/lang/String") }, accessFlags := 9, code := some k10c9 }
/-- java/lang/StringLatin1 -/
def k10 : Class := { plain "java/lang/StringLatin1" (some 0) with
  accessFlags := 48
  interfaces := #[]
  cf := some (fileOf pool10 14 #[.nestMembers #[390, 221]] #[{ accessFlags := 0, nameIndex := 7, descriptorIndex := 8, attributes := #[] }, { accessFlags := 9, nameIndex := 90, descriptorIndex := 91, attributes := #[] }, { accessFlags := 9, nameIndex := 101, descriptorIndex := 98, attributes := #[] }, { accessFlags := 10, nameIndex := 97, descriptorIndex := 98, attributes := #[] }, { accessFlags := 9, nameIndex := 340, descriptorIndex := 341, attributes := #[] }, { accessFlags := 9, nameIndex := 216, descriptorIndex := 57, attributes := #[] }, { accessFlags := 9, nameIndex := 219, descriptorIndex := 57, attributes := #[] }, { accessFlags := 9, nameIndex := 371, descriptorIndex := 367, attributes := #[] }, { accessFlags := 9, nameIndex := 52, descriptorIndex := 53, attributes := #[] }, { accessFlags := 9, nameIndex := 196, descriptorIndex := 197, attributes := #[] }] 48 4 #[] #[{ accessFlags := 4120, nameIndex := 121, descriptorIndex := 122, attributes := #[] }])
  fields := #[{ name := "$assertionsDisabled", type := .boolean, accessFlags := 4120, slot := 0, constantValue := 0 }]
  methods := #[k10m0, k10m1, k10m2, k10m3, k10m4, k10m5, k10m6, k10m7, k10m8, k10m9]
  instanceTypes := #[]
  staticTypes := #[.boolean]
  resolved := Array.replicate 395 none
  statics := none }

def pool11 : Array CpInfo := pool [(1, .class_ 2), (0, u "java/lang/Math"), (1, .class_ 6), (1, u "java/lang/Object"), (0, u "<init>"), (0, u "()V"), (89, .class_ 100), (1, u "java/lang/Math$RandomNumberGeneratorHolder"), (71, u "negativeZeroFloatBits"), (0, u "J"), (2, u "negativeZeroDoubleBits"), (21, u "max"), (2, u "min"), (43, u "$assertionsDisabled"), (0, u "Z"), (88, u "(II)I"), (2, u "twoToTheDoubleScaleDown"), (0, u "D"), (4, u "twoToTheDoubleScaleUp"), (9, u "E"), (3, u "PI"), (2, u "TAU"), (2, u "DEGREES_TO_RADIANS"), (0, u "RADIANS_TO_DEGREES")] 94

def k11m0 : Method := { name := "<init>", desc := "()V", sig := { parameters := [], returnType := none }, accessFlags := 2, code := none }
def k11c1 : Code := { maxStack := 2, maxLocals := 2, code := jdk_29_method_65_code, exceptionTable := #[], attributes := #[] }
def k11m1 : Method := { name := "max", desc := "(II)I", sig := { parameters := [.int, .int], returnType := some .int }, accessFlags := 9, code := some k11c1 }
def k11c2 : Code := { maxStack := 2, maxLocals := 2, code := jdk_29_method_69_code, exceptionTable := #[], attributes := #[] }
def k11m2 : Method := { name := "min", desc := "(II)I", sig := { parameters := [.int, .int], returnType := some .int }, accessFlags := 9, code := some k11c2 }
/-- java/lang/Math -/
def k11 : Class := { plain "java/lang/Math" (some 0) with
  accessFlags := 49
  interfaces := #[]
  cf := some (fileOf pool11 1 #[.nestMembers #[98]] #[{ accessFlags := 2, nameIndex := 7, descriptorIndex := 8, attributes := #[] }, { accessFlags := 9, nameIndex := 198, descriptorIndex := 335, attributes := #[] }, { accessFlags := 9, nameIndex := 201, descriptorIndex := 335, attributes := #[] }] 49 4 #[] #[{ accessFlags := 25, nameIndex := 354, descriptorIndex := 339, attributes := #[] }, { accessFlags := 25, nameIndex := 358, descriptorIndex := 339, attributes := #[] }, { accessFlags := 25, nameIndex := 361, descriptorIndex := 339, attributes := #[] }, { accessFlags := 26, nameIndex := 364, descriptorIndex := 339, attributes := #[] }, { accessFlags := 26, nameIndex := 365, descriptorIndex := 339, attributes := #[] }, { accessFlags := 26, nameIndex := 172, descriptorIndex := 173, attributes := #[] }, { accessFlags := 26, nameIndex := 176, descriptorIndex := 173, attributes := #[] }, { accessFlags := 8, nameIndex := 344, descriptorIndex := 339, attributes := #[] }, { accessFlags := 8, nameIndex := 338, descriptorIndex := 339, attributes := #[] }, { accessFlags := 4120, nameIndex := 245, descriptorIndex := 246, attributes := #[] }])
  fields := #[{ name := "E", type := .double, accessFlags := 25, slot := 0, constantValue := 0 }, { name := "PI", type := .double, accessFlags := 25, slot := 1, constantValue := 0 }, { name := "TAU", type := .double, accessFlags := 25, slot := 2, constantValue := 0 }, { name := "DEGREES_TO_RADIANS", type := .double, accessFlags := 26, slot := 3, constantValue := 0 }, { name := "RADIANS_TO_DEGREES", type := .double, accessFlags := 26, slot := 4, constantValue := 0 }, { name := "negativeZeroFloatBits", type := .long, accessFlags := 26, slot := 5, constantValue := 0 }, { name := "negativeZeroDoubleBits", type := .long, accessFlags := 26, slot := 6, constantValue := 0 }, { name := "twoToTheDoubleScaleUp", type := .double, accessFlags := 8, slot := 7, constantValue := 0 }, { name := "twoToTheDoubleScaleDown", type := .double, accessFlags := 8, slot := 8, constantValue := 0 }, { name := "$assertionsDisabled", type := .boolean, accessFlags := 4120, slot := 9, constantValue := 0 }]
  methods := #[k11m0, k11m1, k11m2]
  instanceTypes := #[]
  staticTypes := #[.double, .double, .double, .double, .double, .long, .long, .double, .double, .boolean]
  resolved := Array.replicate 460 none
  statics := none }

def pool12 : Array CpInfo := pool [(2, .class_ 4), (1, u "java/lang/Object"), (0, u "<init>"), (0, u "()V"), (1, .class_ 10), (1, u "java/lang/CharacterData")] 75

def k12m0 : Method := { name := "<init>", desc := "()V", sig := { parameters := [], returnType := none }, accessFlags := 0, code := none }
/-- java/lang/CharacterData -/
def k12 : Class := { plain "java/lang/CharacterData" (some 0) with
  accessFlags := 1056
  interfaces := #[]
  cf := some (fileOf pool12 8 #[] #[{ accessFlags := 0, nameIndex := 5, descriptorIndex := 6, attributes := #[] }] 1056 2 #[] #[])
  fields := #[]
  methods := #[k12m0]
  instanceTypes := #[]
  staticTypes := #[]
  resolved := Array.replicate 86 none
  statics := none }

def pool13 : Array CpInfo := pool [(1, .fieldref 2 3), (0, .class_ 4), (0, .nameAndType 5 6), (0, u "java/lang/CharacterDataLatin1"), (0, u "A"), (0, u "[I"), (2, u "B"), (0, u "[C"), (3, u "(I)I"), (0, .methodref 2 16), (0, .nameAndType 17 14), (0, u "getProperties"), (3, u "(I)Z"), (5, u "DIGITS"), (0, u "[B"), (8, u "sharpsMap"), (1, .class_ 41), (1, u "java/lang/CharacterData"), (0, u "<init>"), (0, u "()V"), (3, u "instance"), (0, u "Ljava/lang/CharacterDataLatin1;"), (66, u "equalsIgnoreCase"), (0, u "(BB)Z"), (10, u "isWhitespace")] 13

def k13c0 : Code := { maxStack := 2, maxLocals := 4, code := jdk_116_method_1_code, exceptionTable := #[], attributes := #[] }
def k13m0 : Method := { name := "getProperties", desc := "(I)I", sig := { parameters := [.int], returnType := some .int }, accessFlags := 0, code := some k13c0 }
def k13c1 : Code := { maxStack := 3, maxLocals := 3, code := jdk_116_method_22_code, exceptionTable := #[], attributes := #[] }
def k13m1 : Method := { name := "equalsIgnoreCase", desc := "(BB)Z", sig := { parameters := [.byte, .byte], returnType := some .boolean }, accessFlags := 8, code := some k13c1 }
def k13c2 : Code := { maxStack := 2, maxLocals := 3, code := jdk_116_method_26_code, exceptionTable := #[], attributes := #[] }
def k13m2 : Method := { name := "isWhitespace", desc := "(I)Z", sig := { parameters := [.int], returnType := some .boolean }, accessFlags := 0, code := some k13c2 }
def k13m3 : Method := { name := "<init>", desc := "()V", sig := { parameters := [], returnType := none }, accessFlags := 2, code := none }
/-- java/lang/CharacterDataLatin1 -/
def k13 : Class := { plain "java/lang/CharacterDataLatin1" (some 12) with
  accessFlags := 32
  interfaces := #[]
  cf := some (fileOf pool13 2 #[] #[{ accessFlags := 0, nameIndex := 17, descriptorIndex := 14, attributes := #[] }, { accessFlags := 8, nameIndex := 115, descriptorIndex := 116, attributes := #[] }, { accessFlags := 0, nameIndex := 127, descriptorIndex := 21, attributes := #[] }, { accessFlags := 2, nameIndex := 42, descriptorIndex := 43, attributes := #[] }] 32 39 #[] #[{ accessFlags := 26, nameIndex := 27, descriptorIndex := 28, attributes := #[] }, { accessFlags := 8, nameIndex := 37, descriptorIndex := 10, attributes := #[] }, { accessFlags := 24, nameIndex := 47, descriptorIndex := 48, attributes := #[] }, { accessFlags := 24, nameIndex := 5, descriptorIndex := 6, attributes := #[] }, { accessFlags := 24, nameIndex := 9, descriptorIndex := 10, attributes := #[] }])
  fields := #[{ name := "DIGITS", type := (.array .byte), accessFlags := 26, slot := 0, constantValue := 0 }, { name := "sharpsMap", type := (.array .char), accessFlags := 8, slot := 1, constantValue := 0 }, { name := "instance", type := (.object "java/lang/CharacterDataLatin1"), accessFlags := 24, slot := 2, constantValue := 0 }, { name := "A", type := (.array .int), accessFlags := 24, slot := 3, constantValue := 0 }, { name := "B", type := (.array .char), accessFlags := 24, slot := 4, constantValue := 0 }]
  methods := #[k13m0, k13m1, k13m2, k13m3]
  instanceTypes := #[]
  staticTypes := #[(.array .byte), (.array .char), (.object "java/lang/CharacterDataLatin1"), (.array .int), (.array .char)]
  resolved := Array.replicate 141 none
  statics := some 1 }

def pool14 : Array CpInfo := pool [(2, .class_ 4), (1, u "java/lang/Object"), (0, u "<init>"), (0, u "()V"), (7, .class_ 16), (1, u "java/util/Arrays"), (57, .class_ 76), (1, u "java/util/Arrays$NaturalOrder"), (36, .class_ 115), (1, u "java/util/Arrays$LegacyMergeSort"), (1, u "Z"), (21, u "copyOfRange"), (10, .methodref 151 152), (0, .class_ 153), (0, .nameAndType 154 155), (0, u "java/lang/System"), (0, u "arraycopy"), (0, u "(Ljava/lang/Object;ILjava/lang/Object;II)V"), (148, .methodref 305 306), (0, .class_ 307), (0, .nameAndType 308 309), (0, u "java/lang/Math"), (0, u "min"), (0, u "(II)I"), (29, .methodref 14 340), (0, .nameAndType 341 342), (0, u "copyOfRangeByte"), (0, u "([BII)[B"), (0, .methodref 14 344), (0, .nameAndType 345 346), (0, u "checkLength"), (0, u "(II)V"), (28, .class_ 376), (0, u "java/util/Arrays$ArrayList"), (68, u "$assertionsDisabled"), (269, u "MIN_ARRAY_SORT_GRAN"), (0, u "I"), (2, u "INSERTIONSORT_THRESHOLD"), (255, .class_ 976), (0, u "java/util/Arrays$ArrayItr")] 52

def k14m0 : Method := { name := "<init>", desc := "()V", sig := { parameters := [], returnType := none }, accessFlags := 2, code := none }
def k14c1 : Code := { maxStack := 4, maxLocals := 2, code := jdk_65_method_131_code, exceptionTable := #[], attributes := #[] }
def k14m1 : Method := { name := "checkLength", desc := "(II)V", sig := { parameters := [.int, .int], returnType := none }, accessFlags := 10, code := some k14c1 }
def k14c2 : Code := { maxStack := 3, maxLocals := 3, code := jdk_65_method_132_code, exceptionTable := #[], attributes := #[] }
def k14m2 : Method := { name := "copyOfRange", desc := "([BII)[B", sig := { parameters := [(.array .byte), .int, .int], returnType := some (.array .byte) }, accessFlags := 9, code := some k14c2 }
def k14c3 : Code := { maxStack := 6, maxLocals := 5, code := jdk_65_method_133_code, exceptionTable := #[], attributes := #[] }
def k14m3 : Method := { name := "copyOfRangeByte", desc := "([BII)[B", sig := { parameters := [(.array .byte), .int, .int], returnType := some (.array .byte) }, accessFlags := 10, code := some k14c3 }
/-- java/util/Arrays -/
def k14 : Class := { plain "java/util/Arrays" (some 0) with
  accessFlags := 49
  interfaces := #[]
  cf := some (fileOf pool14 14 #[.nestMembers #[975, 375, 113, 74]] #[{ accessFlags := 2, nameIndex := 5, descriptorIndex := 6, attributes := #[] }, { accessFlags := 10, nameIndex := 345, descriptorIndex := 346, attributes := #[] }, { accessFlags := 9, nameIndex := 139, descriptorIndex := 342, attributes := #[] }, { accessFlags := 10, nameIndex := 341, descriptorIndex := 342, attributes := #[] }] 49 2 #[] #[{ accessFlags := 26, nameIndex := 715, descriptorIndex := 716, attributes := #[] }, { accessFlags := 26, nameIndex := 719, descriptorIndex := 716, attributes := #[] }, { accessFlags := 4120, nameIndex := 445, descriptorIndex := 117, attributes := #[] }])
  fields := #[{ name := "MIN_ARRAY_SORT_GRAN", type := .int, accessFlags := 26, slot := 0, constantValue := 0 }, { name := "INSERTIONSORT_THRESHOLD", type := .int, accessFlags := 26, slot := 1, constantValue := 0 }, { name := "$assertionsDisabled", type := .boolean, accessFlags := 4120, slot := 2, constantValue := 0 }]
  methods := #[k14m0, k14m1, k14m2, k14m3]
  instanceTypes := #[]
  staticTypes := #[.int, .int, .boolean]
  resolved := Array.replicate 1029 none
  statics := none }

def pool15 : Array CpInfo := pool [(2, .class_ 4), (1, u "java/lang/Object"), (0, u "<init>"), (0, u "()V"), (1, .class_ 10), (1, u "java/lang/System"), (0, u "allowSecurityManager"), (0, u "I"), (16, u "cons"), (0, u "Ljava/io/Console;"), (77, .class_ 110), (1, u "java/lang/System$CallersHolder"), (43, u "initialErrStream"), (0, u "Ljava/io/PrintStream;"), (19, u "security"), (0, u "Ljava/lang/SecurityManager;"), (31, .class_ 209), (0, u "java/lang/System$1"), (7, u "props"), (0, u "Ljava/util/Properties;"), (2, u "lineSeparator"), (0, u "Ljava/lang/String;"), (96, .class_ 321), (1, u "java/lang/System$LoggerFinder"), (5, .class_ 328), (0, u "java/lang/System$Logger"), (67, u "err"), (2, u "out"), (91, u "notSupportedJnuEncoding"), (15, u "in"), (17, u "initialIn"), (0, u "Ljava/io/InputStream;"), (35, u "bootLayer"), (0, u "Ljava/lang/ModuleLayer;"), (99, .class_ 664), (0, u "java/lang/System$2"), (9, u "NEVER"), (2, u "MAYBE"), (49, u "arraycopy"), (0, u "(Ljava/lang/Object;ILjava/lang/Object;II)V"), (72, .class_ 802), (0, u "java/lang/System$Logger$Level")] 31

def k15m0 : Method := { name := "<init>", desc := "()V", sig := { parameters := [], returnType := none }, accessFlags := 2, code := none }
def k15m1 : Method := { name := "arraycopy", desc := "(Ljava/lang/Object;ILjava/lang/Object;II)V", sig := { parameters := [(.object "java/lang/Object"), .int, (.object "java/lang/Object"), .int, .int], returnType := none }, accessFlags := 265, code := none }
/-- java/lang/System -/
def k15 : Class := { plain "java/lang/System" (some 0) with
  accessFlags := 49
  interfaces := #[]
  cf := some (fileOf pool15 8 #[.nestMembers #[319, 327, 801, 108, 663, 208]] #[{ accessFlags := 2, nameIndex := 5, descriptorIndex := 6, attributes := #[] }, { accessFlags := 265, nameIndex := 727, descriptorIndex := 728, attributes := #[] }] 49 2 #[] #[{ accessFlags := 25, nameIndex := 507, descriptorIndex := 526, attributes := #[] }, { accessFlags := 25, nameIndex := 399, descriptorIndex := 155, attributes := #[] }, { accessFlags := 25, nameIndex := 396, descriptorIndex := 155, attributes := #[] }, { accessFlags := 10, nameIndex := 525, descriptorIndex := 526, attributes := #[] }, { accessFlags := 26, nameIndex := 674, descriptorIndex := 12, attributes := #[] }, { accessFlags := 26, nameIndex := 677, descriptorIndex := 12, attributes := #[] }, { accessFlags := 10, nameIndex := 11, descriptorIndex := 12, attributes := #[] }, { accessFlags := 74, nameIndex := 175, descriptorIndex := 176, attributes := #[] }, { accessFlags := 10, nameIndex := 491, descriptorIndex := 222, attributes := #[] }, { accessFlags := 74, nameIndex := 29, descriptorIndex := 30, attributes := #[] }, { accessFlags := 74, nameIndex := 154, descriptorIndex := 155, attributes := #[] }, { accessFlags := 10, nameIndex := 217, descriptorIndex := 218, attributes := #[] }, { accessFlags := 10, nameIndex := 221, descriptorIndex := 222, attributes := #[] }, { accessFlags := 8, nameIndex := 562, descriptorIndex := 563, attributes := #[] }])
  fields := #[{ name := "in", type := (.object "java/io/InputStream"), accessFlags := 25, slot := 0, constantValue := 0 }, { name := "out", type := (.object "java/io/PrintStream"), accessFlags := 25, slot := 1, constantValue := 0 }, { name := "err", type := (.object "java/io/PrintStream"), accessFlags := 25, slot := 2, constantValue := 0 }, { name := "initialIn", type := (.object "java/io/InputStream"), accessFlags := 10, slot := 3, constantValue := 0 }, { name := "NEVER", type := .int, accessFlags := 26, slot := 4, constantValue := 0 }, { name := "MAYBE", type := .int, accessFlags := 26, slot := 5, constantValue := 0 }, { name := "allowSecurityManager", type := .int, accessFlags := 10, slot := 6, constantValue := 0 }, { name := "security", type := (.object "java/lang/SecurityManager"), accessFlags := 74, slot := 7, constantValue := 0 }, { name := "notSupportedJnuEncoding", type := (.object "java/lang/String"), accessFlags := 10, slot := 8, constantValue := 0 }, { name := "cons", type := (.object "java/io/Console"), accessFlags := 74, slot := 9, constantValue := 0 }, { name := "initialErrStream", type := (.object "java/io/PrintStream"), accessFlags := 74, slot := 10, constantValue := 0 }, { name := "props", type := (.object "java/util/Properties"), accessFlags := 10, slot := 11, constantValue := 0 }, { name := "lineSeparator", type := (.object "java/lang/String"), accessFlags := 10, slot := 12, constantValue := 0 }, { name := "bootLayer", type := (.object "java/lang/ModuleLayer"), accessFlags := 8, slot := 13, constantValue := 0 }]
  methods := #[k15m0, k15m1]
  instanceTypes := #[]
  staticTypes := #[(.object "java/io/InputStream"), (.object "java/io/PrintStream"), (.object "java/io/PrintStream"), (.object "java/io/InputStream"), .int, .int, .int, (.object "java/lang/SecurityManager"), (.object "java/lang/String"), (.object "java/io/Console"), (.object "java/io/PrintStream"), (.object "java/util/Properties"), (.object "java/lang/String"), (.object "java/lang/ModuleLayer")]
  resolved := Array.replicate 834 none
  statics := none }

def pool16 : Array CpInfo := pool [(2, .class_ 4), (1, u "java/lang/Object"), (0, u "<init>"), (0, u "()V"), (17, .class_ 26), (1, u "jdk/internal/util/Preconditions"), (20, u "checkFromToIndex"), (7, .class_ 56), (0, u "jdk/internal/util/Preconditions$4"), (57, .class_ 115), (0, u "jdk/internal/util/Preconditions$1"), (7, u "SIOOBE_FORMATTER"), (0, u "Ljava/util/function/BiFunction;"), (0, .class_ 126), (0, u "jdk/internal/util/Preconditions$2"), (3, u "AIOOBE_FORMATTER"), (0, .class_ 132), (0, u "jdk/internal/util/Preconditions$3"), (3, u "IOOBE_FORMATTER"), (46, u "(IIILjava/util/function/BiFunction;)I")] 10

def k16m0 : Method := { name := "<init>", desc := "()V", sig := { parameters := [], returnType := none }, accessFlags := 1, code := none }
def k16c1 : Code := { maxStack := 4, maxLocals := 4, code := jdk_41_method_12_code, exceptionTable := #[], attributes := #[] }
def k16m1 : Method := { name := "checkFromToIndex", desc := "(IIILjava/util/function/BiFunction;)I", sig := { parameters := [.int, .int, .int, (.object "java/util/function/BiFunction")], returnType := some .int }, accessFlags := 9, code := some k16c1 }
/-- jdk/internal/util/Preconditions -/
def k16 : Class := { plain "jdk/internal/util/Preconditions" (some 0) with
  accessFlags := 33
  interfaces := #[]
  cf := some (fileOf pool16 24 #[.nestMembers #[55, 131, 125, 114]] #[{ accessFlags := 1, nameIndex := 5, descriptorIndex := 6, attributes := #[] }, { accessFlags := 9, nameIndex := 47, descriptorIndex := 183, attributes := #[] }] 33 2 #[] #[{ accessFlags := 25, nameIndex := 123, descriptorIndex := 124, attributes := #[] }, { accessFlags := 25, nameIndex := 130, descriptorIndex := 124, attributes := #[] }, { accessFlags := 25, nameIndex := 136, descriptorIndex := 124, attributes := #[] }])
  fields := #[{ name := "SIOOBE_FORMATTER", type := (.object "java/util/function/BiFunction"), accessFlags := 25, slot := 0, constantValue := 0 }, { name := "AIOOBE_FORMATTER", type := (.object "java/util/function/BiFunction"), accessFlags := 25, slot := 1, constantValue := 0 }, { name := "IOOBE_FORMATTER", type := (.object "java/util/function/BiFunction"), accessFlags := 25, slot := 2, constantValue := 0 }]
  methods := #[k16m0, k16m1]
  instanceTypes := #[]
  staticTypes := #[(.object "java/util/function/BiFunction"), (.object "java/util/function/BiFunction"), (.object "java/util/function/BiFunction")]
  resolved := Array.replicate 194 none
  statics := some 2 }

def pool17 : Array CpInfo := pool [(1, u "java/lang/Cloneable"), (0, .class_ 1), (0, u "java/lang/Object"), (0, .class_ 3)] 3

/-- java/lang/Cloneable -/
def k17 : Class := { plain "java/lang/Cloneable" (some 0) with
  accessFlags := 1537
  interfaces := #[]
  cf := some (fileOf pool17 2 #[] #[] 1537 4 #[] #[])
  fields := #[]
  methods := #[]
  instanceTypes := #[]
  staticTypes := #[]
  resolved := Array.replicate 8 none
  statics := none }

/-- the primitive byte -/
def k18 : Class := { plain "byte" none with kind := .primitive 'B', accessFlags := 0x411 }
/-- [B -/
def k19 : Class := { plain "[B" (some 0) with kind := .array 18 .byte, interfaces := #[17, 2], accessFlags := 1041 }

/-- the primitive char -/
def k20 : Class := { plain "char" none with kind := .primitive 'C', accessFlags := 0x411 }
/-- [C -/
def k21 : Class := { plain "[C" (some 0) with kind := .array 20 .char, interfaces := #[17, 2], accessFlags := 1041 }

/-- the primitive int -/
def k22 : Class := { plain "int" none with kind := .primitive 'I', accessFlags := 0x411 }
/-- [I -/
def k23 : Class := { plain "[I" (some 0) with kind := .array 22 .int, interfaces := #[17, 2], accessFlags := 1041 }

def k24 : Class := plain "jdk/internal/util/ArraysSupport" (some 0)
def heap : Heap := #[{ cls := 7, slots := #[.long 0, .int 1, .null, .int 0, .null, .int 0, .int 0], vm := .statics 7 },
  { cls := 13, slots := #[.null, .null, .ref 3, .ref 4, .null], vm := .statics 13 },
  { cls := 16, slots := #[.null, .null, .null], vm := .statics 16 },
  { cls := 13, slots := #[], vm := .none },
  { cls := 23, slots := #[.int 1207963663, .int 1207963663, .int 1207963663, .int 1207963663, .int 1207963663, .int 1207963663, .int 1207963663, .int 1207963663, .int 1207963663, .int 1476411407, .int 1342193679, .int 1476411407, .int 1610629135, .int 1342193679, .int 1207963663, .int 1207963663, .int 1207963663, .int 1207963663, .int 1207963663, .int 1207963663, .int 1207963663, .int 1207963663, .int 1207963663, .int 1207963663, .int 1207963663, .int 1207963663, .int 1207963663, .int 1207963663, .int 1342193679, .int 1342193679, .int 1342193679, .int 1476411407, .int 1610629132, .int 1744830488, .int 1744830488, .int 671088664, .int 671113242, .int 671088664, .int 1744830488, .int 1744830488, .int (-402653163), .int (-402653162), .int 1744830488, .int 536870937, .int 939524120, .int 536870932, .int 939524120, .int 939524120, .int 402667017, .int 402667017, .int 402667017, .int 402667017, .int 402667017, .int 402667017, .int 402667017, .int 402667017, .int 402667017, .int 402667017, .int 939524120, .int 1744830488, .int (-402653159), .int 1744830489, .int (-402653159), .int 1744830488, .int 1744830488, .int 8552417, .int 8552417, .int 8552417, .int 8552417, .int 8552417, .int 8552417, .int 8552417, .int 8552417, .int 8552417, .int 8552417, .int 8552417, .int 8552417, .int 8552417, .int 8552417, .int 8552417, .int 8552417, .int 8552417, .int 8552417, .int 8552417, .int 8552417, .int 8552417, .int 8552417, .int 8552417, .int 8552417, .int 8552417, .int 8552417, .int (-402653163), .int 1744830488, .int (-402653162), .int 1744830491, .int 1744850967, .int 1744830491, .int 8486882, .int 8486882, .int 8486882, .int 8486882, .int 8486882, .int 8486882, .int 8486882, .int 8486882, .int 8486882, .int 8486882, .int 8486882, .int 8486882, .int 8486882, .int 8486882, .int 8486882, .int 8486882, .int 8486882, .int 8486882, .int 8486882, .int 8486882, .int 8486882, .int 8486882, .int 8486882, .int 8486882, .int 8486882, .int 8486882, .int (-402653163), .int 1744830489, .int (-402653162), .int 1744830489, .int 1207963663, .int 1207963663, .int 1207963663, .int 1207963663, .int 1207963663, .int 1207963663, .int 1342181391, .int 1207963663, .int 1207963663, .int 1207963663, .int 1207963663, .int 1207963663, .int 1207963663, .int 1207963663, .int 1207963663, .int 1207963663, .int 1207963663, .int 1207963663, .int 1207963663, .int 1207963663, .int 1207963663, .int 1207963663, .int 1207963663, .int 1207963663, .int 1207963663, .int 1207963663, .int 1207963663, .int 1207963663, .int 1207963663, .int 1207963663, .int 1207963663, .int 1207963663, .int 1207963663, .int 939524108, .int 1744830488, .int 671113242, .int 671113242, .int 671113242, .int 671113242, .int 1744830492, .int 1744830488, .int 1744830491, .int 1744830492, .int 28677, .int (-402653155), .int 1744830489, .int 1207963664, .int 1744830492, .int 1744830491, .int 671088668, .int 671088665, .int 402654731, .int 402654731, .int 1744830491, .int 134049794, .int 1744830488, .int 1744830488, .int 1744830491, .int 402654475, .int 28677, .int (-402653154), .int 1744832523, .int 1744832523, .int 1744832523, .int 1744830488, .int 8548353, .int 8548353, .int 8548353, .int 8548353, .int 8548353, .int 8548353, .int 8548353, .int 8548353, .int 8548353, .int 8548353, .int 8548353, .int 8548353, .int 8548353, .int 8548353, .int 8548353, .int 8548353, .int 8548353, .int 8548353, .int 8548353, .int 8548353, .int 8548353, .int 8548353, .int 8548353, .int 1744830489, .int 8548353, .int 8548353, .int 8548353, .int 8548353, .int 8548353, .int 8548353, .int 8548353, .int 134049794, .int 8482818, .int 8482818, .int 8482818, .int 8482818, .int 8482818, .int 8482818, .int 8482818, .int 8482818, .int 8482818, .int 8482818, .int 8482818, .int 8482818, .int 8482818, .int 8482818, .int 8482818, .int 8482818, .int 8482818, .int 8482818, .int 8482818, .int 8482818, .int 8482818, .int 8482818, .int 8482818, .int 1744830489, .int 8482818, .int 8482818, .int 8482818, .int 8482818, .int 8482818, .int 8482818, .int 8482818, .int 102592514], vm := .none }]
def classes : Array Class := #[k0, k1, k2, k3, k4, k5, k6, k7, k8, k9, k10, k11, k12, k13, k14, k15, k16, k17, k18, k19, k20, k21, k22, k23, k24]
def interned : List (Array UInt16 × Addr) := []
def slotsUsed : Nat := 271
def theMethod : MethodId := ⟨1, 1⟩
def args0 : Array Value := #[.int 1, .int 2, .int 3]
def aboutOver (below : List Frame) : State where
  vm := { classes := classes, interned := interned.toArray }
  heap := heap
  slotsUsed := slotsUsed
  threads := #[{ frames := .invoking theMethod args0 :: below }]
def below0 : List Frame := [.native { method := ⟨0, 0⟩, args := #[] }]
def about1 : State := aboutOver below0
def p0 : Program := .bare "" "" ""
def e0 : Env := launch0.env 0 0 0
theorem w_frames : about1.frames = Frame.invoking theMethod args0 :: below0 := rfl
set_option maxRecDepth 65536 in
theorem w_args : argsFit about1.vm theMethod args0 = true := by decide +kernel
set_option maxRecDepth 65536 in
theorem w_heap : heapFits about1 = true := by decide +kernel
set_option maxRecDepth 65536 in
theorem w_runnable : about1.curStatus? = some .runnable := by decide +kernel
set_option maxRecDepth 65536 in
theorem w_alone : about1.alone = true := by decide +kernel
set_option maxRecDepth 65536 in
theorem w_named : about1.methodNamed? x = some theMethod := by decide +kernel
set_option maxRecDepth 65536 in
theorem w_hears : about1.hears theMethod below0 = true := by decide +kernel
set_option maxRecDepth 65536 in
theorem w_ripe : about1.ripe theMethod args0 below0 = true := by decide +kernel
theorem w_running : about1.status = .running := rfl
set_option maxRecDepth 65536 in
theorem w_room : about1.hasRoom e0.platform room_1 = true :=
  launch0.hasRoom_least _ room_1 (by decide +kernel) (by decide +kernel) (by decide +kernel) (by decide +kernel) (by decide +kernel) (by decide +kernel)
theorem allAtoms_all (ts : List Jvm.Cond) (a : Array Jvm.Value) (st : Jvm.State) : (allAtoms ts).before a st = ts.all (fun c => c.before a st) := by
  induction ts with
  | nil => rfl
  | cons c t ih =>
    show (Jvm.Cond.and c (allAtoms t)).before a st = _
    rw [Jvm.Cond.before_and, ih, List.all_cons]
def words1 : List Jvm.Cond := Jvm.Cond.code x code maxLocals ret :: tables_1
/-- a 'code' word, met by the world's own term for the bytes: nothing is compared byte by byte -/
theorem code_word {y : MethodName} {bytes : ByteArray} {mx : Nat} {rt : Option FieldType} {a : Array Value} {s : State} {m : MethodId} {meth : Method} {c : Code} (h1 : s.methodNamed? y = some m) (h2 : s.vm.method? m = some meth) (h3 : meth.code = some c) (h4 : c.code = bytes)
    (h5 : (c.maxLocals == mx && c.exceptionTable.isEmpty && decide (c.maxStack ≤ mostOperands) && decide (meth.sig.returnType = rt) && !meth.locks && decide (parseMethodDescriptor y.desc = some meth.sig)) = true) : (Jvm.Cond.code y bytes mx rt).before a s = true := by
  simp only [Bool.and_eq_true, beq_iff_eq, Bool.not_eq_true', decide_eq_true_eq] at h5
  obtain ⟨⟨⟨⟨⟨g1, g2⟩, g3⟩, g4⟩, g5⟩, g6⟩ := h5
  simp [Cond.before, Cond.holds, Cond.value, h1, h2, h3, h4, g1, g2, g3, g4, g5, g6]
def isCode : Jvm.Cond → Bool
  | .code _ _ _ _ => true
  | _ => false
theorem all_split {L : List Jvm.Cond} {P : Jvm.Cond → Bool} (h1 : L.all (fun c => isCode c || P c) = true) (h2 : ∀ c ∈ L.filter isCode, P c = true) : L.all P = true := by
  refine List.all_eq_true.mpr fun c hc => ?_
  have h := List.all_eq_true.mp h1 c hc
  rcases Bool.eq_false_or_eq_true (isCode c) with hi | hi
  · exact h2 c (List.mem_filter.mpr ⟨hc, hi⟩)
  · simpa [hi] using h
set_option maxRecDepth 65536 in
theorem w_c0 : (Jvm.Cond.code x code maxLocals ret).before args0 about1 = true := code_word (m := ⟨1, 1⟩) (meth := k1m1) (c := k1c1) (by decide +kernel) rfl rfl rfl (by decide +kernel)
set_option maxRecDepth 65536 in
theorem w_c1 : (Jvm.Cond.code ({ cls := "com/example/gentle_hub/gentlehub/server/MediaTypesNamesPinLaw", name := "str", desc := "([CI)Ljava/lang/String;" } : Jvm.MethodName) method_3_code (2 : Nat) (Option.some (Jvm.ClassFile.FieldType.object "java/lang/String"))).before args0 about1 = true := code_word (m := ⟨1, 2⟩) (meth := k1m2) (c := k1c2) (by decide +kernel) rfl rfl rfl (by decide +kernel)
set_option maxRecDepth 65536 in
theorem w_c2 : (Jvm.Cond.code ({ cls := "java/lang/String", name := "<init>", desc := "([C)V" } : Jvm.MethodName) jdk_42_method_3_code (2 : Nat) (Option.none : Option Jvm.ClassFile.FieldType)).before args0 about1 = true := code_word (m := ⟨7, 1⟩) (meth := k7m1) (c := k7c1) (by decide +kernel) rfl rfl rfl (by decide +kernel)
set_option maxRecDepth 65536 in
theorem w_c3 : (Jvm.Cond.code ({ cls := "java/lang/String", name := "<init>", desc := "([CIILjava/lang/Void;)V" } : Jvm.MethodName) jdk_42_method_149_code (6 : Nat) (Option.none : Option Jvm.ClassFile.FieldType)).before args0 about1 = true := code_word (m := ⟨7, 9⟩) (meth := k7m9) (c := k7c9) (by decide +kernel) rfl rfl rfl (by decide +kernel)
set_option maxRecDepth 65536 in
theorem w_c4 : (Jvm.Cond.code ({ cls := "java/lang/Object", name := "<init>", desc := "()V" } : Jvm.MethodName) object_method_1_code (1 : Nat) (Option.none : Option Jvm.ClassFile.FieldType)).before args0 about1 = true := code_word (m := ⟨0, 0⟩) (meth := k0m0) (c := k0c0) (by decide +kernel) rfl rfl rfl (by decide +kernel)
set_option maxRecDepth 65536 in
theorem w_c5 : (Jvm.Cond.code ({ cls := "java/lang/StringUTF16", name := "compress", desc := "([CII)[B" } : Jvm.MethodName) jdk_52_method_16_code (6 : Nat) (Option.some (Jvm.ClassFile.FieldType.array Jvm.ClassFile.FieldType.byte))).before args0 about1 = true := code_word (m := ⟨8, 2⟩) (meth := k8m2) (c := k8c2) (by decide +kernel) rfl rfl rfl (by decide +kernel)
set_option maxRecDepth 65536 in
theorem w_c6 : (Jvm.Cond.code ({ cls := "java/lang/StringUTF16", name := "compress", desc := "([CI[BII)I" } : Jvm.MethodName) jdk_52_method_21_code (7 : Nat) (Option.some Jvm.ClassFile.FieldType.int)).before args0 about1 = true := code_word (m := ⟨8, 3⟩) (meth := k8m3) (c := k8c3) (by decide +kernel) rfl rfl rfl (by decide +kernel)
set_option maxRecDepth 65536 in
theorem w_c7 : (Jvm.Cond.code ({ cls := "java/lang/StringUTF16", name := "coderFromArrayLen", desc := "([BI)B" } : Jvm.MethodName) jdk_52_method_15_code (2 : Nat) (Option.some Jvm.ClassFile.FieldType.byte)).before args0 about1 = true := code_word (m := ⟨8, 1⟩) (meth := k8m1) (c := k8c1) (by decide +kernel) rfl rfl rfl (by decide +kernel)
set_option maxRecDepth 65536 in
theorem w_c8 : (Jvm.Cond.code ({ cls := "com/example/gentle_hub/gentlehub/server/MediaTypes", name := "names", desc := "(Ljava/lang/String;Ljava/lang/String;)Z" } : Jvm.MethodName) prog_25_method_2_code (4 : Nat) (Option.some Jvm.ClassFile.FieldType.boolean)).before args0 about1 = true := code_word (m := ⟨9, 1⟩) (meth := k9m1) (c := k9c1) (by decide +kernel) rfl rfl rfl (by decide +kernel)
set_option maxRecDepth 65536 in
theorem w_c9 : (Jvm.Cond.code ({ cls := "java/lang/String", name := "indexOf", desc := "(I)I" } : Jvm.MethodName) jdk_42_method_79_code (2 : Nat) (Option.some Jvm.ClassFile.FieldType.int)).before args0 about1 = true := code_word (m := ⟨7, 5⟩) (meth := k7m5) (c := k7c5) (by decide +kernel) rfl rfl rfl (by decide +kernel)
set_option maxRecDepth 65536 in
theorem w_c10 : (Jvm.Cond.code ({ cls := "java/lang/String", name := "indexOf", desc := "(II)I" } : Jvm.MethodName) jdk_42_method_80_code (3 : Nat) (Option.some Jvm.ClassFile.FieldType.int)).before args0 about1 = true := code_word (m := ⟨7, 6⟩) (meth := k7m6) (c := k7c6) (by decide +kernel) rfl rfl rfl (by decide +kernel)
set_option maxRecDepth 65536 in
theorem w_c11 : (Jvm.Cond.code ({ cls := "java/lang/String", name := "isLatin1", desc := "()Z" } : Jvm.MethodName) jdk_42_method_154_code (1 : Nat) (Option.some Jvm.ClassFile.FieldType.boolean)).before args0 about1 = true := code_word (m := ⟨7, 12⟩) (meth := k7m12) (c := k7c12) (by decide +kernel) rfl rfl rfl (by decide +kernel)
set_option maxRecDepth 65536 in
theorem w_c12 : (Jvm.Cond.code ({ cls := "java/lang/String", name := "length", desc := "()I" } : Jvm.MethodName) jdk_42_method_54_code (1 : Nat) (Option.some Jvm.ClassFile.FieldType.int)).before args0 about1 = true := code_word (m := ⟨7, 2⟩) (meth := k7m2) (c := k7c2) (by decide +kernel) rfl rfl rfl (by decide +kernel)
set_option maxRecDepth 65536 in
theorem w_c13 : (Jvm.Cond.code ({ cls := "java/lang/String", name := "coder", desc := "()B" } : Jvm.MethodName) jdk_42_method_152_code (1 : Nat) (Option.some Jvm.ClassFile.FieldType.byte)).before args0 about1 = true := code_word (m := ⟨7, 11⟩) (meth := k7m11) (c := k7c11) (by decide +kernel) rfl rfl rfl (by decide +kernel)
set_option maxRecDepth 65536 in
theorem w_c14 : (Jvm.Cond.code ({ cls := "java/lang/StringLatin1", name := "indexOf", desc := "([BIII)I" } : Jvm.MethodName) jdk_43_method_22_code (4 : Nat) (Option.some Jvm.ClassFile.FieldType.int)).before args0 about1 = true := code_word (m := ⟨10, 2⟩) (meth := k10m2) (c := k10c2) (by decide +kernel) rfl rfl rfl (by decide +kernel)
set_option maxRecDepth 65536 in
theorem w_c15 : (Jvm.Cond.code ({ cls := "java/lang/StringLatin1", name := "canEncode", desc := "(I)Z" } : Jvm.MethodName) jdk_43_method_4_code (1 : Nat) (Option.some Jvm.ClassFile.FieldType.boolean)).before args0 about1 = true := code_word (m := ⟨10, 1⟩) (meth := k10m1) (c := k10c1) (by decide +kernel) rfl rfl rfl (by decide +kernel)
set_option maxRecDepth 65536 in
theorem w_c16 : (Jvm.Cond.code ({ cls := "java/lang/Math", name := "max", desc := "(II)I" } : Jvm.MethodName) jdk_29_method_65_code (2 : Nat) (Option.some Jvm.ClassFile.FieldType.int)).before args0 about1 = true := code_word (m := ⟨11, 1⟩) (meth := k11m1) (c := k11c1) (by decide +kernel) rfl rfl rfl (by decide +kernel)
set_option maxRecDepth 65536 in
theorem w_c17 : (Jvm.Cond.code ({ cls := "java/lang/Math", name := "min", desc := "(II)I" } : Jvm.MethodName) jdk_29_method_69_code (2 : Nat) (Option.some Jvm.ClassFile.FieldType.int)).before args0 about1 = true := code_word (m := ⟨11, 2⟩) (meth := k11m2) (c := k11c2) (by decide +kernel) rfl rfl rfl (by decide +kernel)
set_option maxRecDepth 65536 in
theorem w_c18 : (Jvm.Cond.code ({ cls := "java/lang/StringLatin1", name := "indexOfChar", desc := "([BIII)I" } : Jvm.MethodName) jdk_43_method_23_code (6 : Nat) (Option.some Jvm.ClassFile.FieldType.int)).before args0 about1 = true := code_word (m := ⟨10, 3⟩) (meth := k10m3) (c := k10c3) (by decide +kernel) rfl rfl rfl (by decide +kernel)
set_option maxRecDepth 65536 in
theorem w_c19 : (Jvm.Cond.code ({ cls := "java/lang/String", name := "strip", desc := "()Ljava/lang/String;" } : Jvm.MethodName) jdk_42_method_114_code (2 : Nat) (Option.some (Jvm.ClassFile.FieldType.object "java/lang/String"))).before args0 about1 = true := code_word (m := ⟨7, 8⟩) (meth := k7m8) (c := k7c8) (by decide +kernel) rfl rfl rfl (by decide +kernel)
set_option maxRecDepth 65536 in
theorem w_c20 : (Jvm.Cond.code ({ cls := "java/lang/StringLatin1", name := "strip", desc := "([B)Ljava/lang/String;" } : Jvm.MethodName) jdk_43_method_39_code (4 : Nat) (Option.some (Jvm.ClassFile.FieldType.object "java/lang/String"))).before args0 about1 = true := code_word (m := ⟨10, 7⟩) (meth := k10m7) (c := k10c7) (by decide +kernel) rfl rfl rfl (by decide +kernel)
set_option maxRecDepth 65536 in
theorem w_c21 : (Jvm.Cond.code ({ cls := "java/lang/StringLatin1", name := "indexOfNonWhitespace", desc := "([B)I" } : Jvm.MethodName) jdk_43_method_37_code (4 : Nat) (Option.some Jvm.ClassFile.FieldType.int)).before args0 about1 = true := code_word (m := ⟨10, 5⟩) (meth := k10m5) (c := k10c5) (by decide +kernel) rfl rfl rfl (by decide +kernel)
set_option maxRecDepth 65536 in
theorem w_c22 : (Jvm.Cond.code ({ cls := "java/lang/StringLatin1", name := "getChar", desc := "([BI)C" } : Jvm.MethodName) jdk_43_method_44_code (2 : Nat) (Option.some Jvm.ClassFile.FieldType.char)).before args0 about1 = true := code_word (m := ⟨10, 8⟩) (meth := k10m8) (c := k10c8) (by decide +kernel) rfl rfl rfl (by decide +kernel)
set_option maxRecDepth 65536 in
theorem w_c23 : (Jvm.Cond.code ({ cls := "java/lang/CharacterDataLatin1", name := "isWhitespace", desc := "(I)Z" } : Jvm.MethodName) jdk_116_method_26_code (3 : Nat) (Option.some Jvm.ClassFile.FieldType.boolean)).before args0 about1 = true := code_word (m := ⟨13, 2⟩) (meth := k13m2) (c := k13c2) (by decide +kernel) rfl rfl rfl (by decide +kernel)
set_option maxRecDepth 65536 in
theorem w_c24 : (Jvm.Cond.code ({ cls := "java/lang/CharacterDataLatin1", name := "getProperties", desc := "(I)I" } : Jvm.MethodName) jdk_116_method_1_code (4 : Nat) (Option.some Jvm.ClassFile.FieldType.int)).before args0 about1 = true := code_word (m := ⟨13, 0⟩) (meth := k13m0) (c := k13c0) (by decide +kernel) rfl rfl rfl (by decide +kernel)
set_option maxRecDepth 65536 in
theorem w_c25 : (Jvm.Cond.code ({ cls := "java/lang/StringLatin1", name := "lastIndexOfNonWhitespace", desc := "([B)I" } : Jvm.MethodName) jdk_43_method_38_code (4 : Nat) (Option.some Jvm.ClassFile.FieldType.int)).before args0 about1 = true := code_word (m := ⟨10, 6⟩) (meth := k10m6) (c := k10c6) (by decide +kernel) rfl rfl rfl (by decide +kernel)
set_option maxRecDepth 65536 in
theorem w_c26 : (Jvm.Cond.code ({ cls := "java/lang/String", name := "equalsIgnoreCase", desc := "(Ljava/lang/String;)Z" } : Jvm.MethodName) jdk_42_method_70_code (2 : Nat) (Option.some Jvm.ClassFile.FieldType.boolean)).before args0 about1 = true := code_word (m := ⟨7, 3⟩) (meth := k7m3) (c := k7c3) (by decide +kernel) rfl rfl rfl (by decide +kernel)
set_option maxRecDepth 65536 in
theorem w_c27 : (Jvm.Cond.code ({ cls := "com/example/gentle_hub/gentlehub/server/MediaTypesNamesPinLaw", name := "expected", desc := "([CI[CI)Z" } : Jvm.MethodName) method_6_code (9 : Nat) (Option.some Jvm.ClassFile.FieldType.boolean)).before args0 about1 = true := code_word (m := ⟨1, 5⟩) (meth := k1m5) (c := k1c5) (by decide +kernel) rfl rfl rfl (by decide +kernel)
set_option maxRecDepth 65536 in
theorem w_c28 : (Jvm.Cond.code ({ cls := "com/example/gentle_hub/gentlehub/server/MediaTypesNamesPinLaw", name := "ws", desc := "(C)Z" } : Jvm.MethodName) method_4_code (1 : Nat) (Option.some Jvm.ClassFile.FieldType.boolean)).before args0 about1 = true := code_word (m := ⟨1, 3⟩) (meth := k1m3) (c := k1c3) (by decide +kernel) rfl rfl rfl (by decide +kernel)
set_option maxRecDepth 65536 in
theorem w_c29 : (Jvm.Cond.code ({ cls := "java/lang/String", name := "regionMatches", desc := "(ZILjava/lang/String;II)Z" } : Jvm.MethodName) jdk_42_method_74_code (9 : Nat) (Option.some Jvm.ClassFile.FieldType.boolean)).before args0 about1 = true := code_word (m := ⟨7, 4⟩) (meth := k7m4) (c := k7c4) (by decide +kernel) rfl rfl rfl (by decide +kernel)
set_option maxRecDepth 65536 in
theorem w_c30 : (Jvm.Cond.code ({ cls := "java/lang/StringLatin1", name := "regionMatchesCI", desc := "([BI[BII)Z" } : Jvm.MethodName) jdk_43_method_30_code (8 : Nat) (Option.some Jvm.ClassFile.FieldType.boolean)).before args0 about1 = true := code_word (m := ⟨10, 4⟩) (meth := k10m4) (c := k10c4) (by decide +kernel) rfl rfl rfl (by decide +kernel)
set_option maxRecDepth 65536 in
theorem w_c31 : (Jvm.Cond.code ({ cls := "java/lang/CharacterDataLatin1", name := "equalsIgnoreCase", desc := "(BB)Z" } : Jvm.MethodName) jdk_116_method_22_code (3 : Nat) (Option.some Jvm.ClassFile.FieldType.boolean)).before args0 about1 = true := code_word (m := ⟨13, 1⟩) (meth := k13m1) (c := k13c1) (by decide +kernel) rfl rfl rfl (by decide +kernel)
set_option maxRecDepth 65536 in
theorem w_c32 : (Jvm.Cond.code ({ cls := "com/example/gentle_hub/gentlehub/server/MediaTypesNamesPinLaw", name := "fold", desc := "(C)I" } : Jvm.MethodName) method_5_code (1 : Nat) (Option.some Jvm.ClassFile.FieldType.int)).before args0 about1 = true := code_word (m := ⟨1, 4⟩) (meth := k1m4) (c := k1c4) (by decide +kernel) rfl rfl rfl (by decide +kernel)
set_option maxRecDepth 65536 in
theorem w_c33 : (Jvm.Cond.code ({ cls := "java/lang/StringLatin1", name := "newString", desc := "([BII)Ljava/lang/String;" } : Jvm.MethodName) jdk_43_method_47_code (3 : Nat) (Option.some (Jvm.ClassFile.FieldType.object "java/lang/String"))).before args0 about1 = true := code_word (m := ⟨10, 9⟩) (meth := k10m9) (c := k10c9) (by decide +kernel) rfl rfl rfl (by decide +kernel)
set_option maxRecDepth 65536 in
theorem w_c34 : (Jvm.Cond.code ({ cls := "java/util/Arrays", name := "copyOfRange", desc := "([BII)[B" } : Jvm.MethodName) jdk_65_method_132_code (3 : Nat) (Option.some (Jvm.ClassFile.FieldType.array Jvm.ClassFile.FieldType.byte))).before args0 about1 = true := code_word (m := ⟨14, 2⟩) (meth := k14m2) (c := k14c2) (by decide +kernel) rfl rfl rfl (by decide +kernel)
set_option maxRecDepth 65536 in
theorem w_c35 : (Jvm.Cond.code ({ cls := "java/util/Arrays", name := "copyOfRangeByte", desc := "([BII)[B" } : Jvm.MethodName) jdk_65_method_133_code (5 : Nat) (Option.some (Jvm.ClassFile.FieldType.array Jvm.ClassFile.FieldType.byte))).before args0 about1 = true := code_word (m := ⟨14, 3⟩) (meth := k14m3) (c := k14c3) (by decide +kernel) rfl rfl rfl (by decide +kernel)
set_option maxRecDepth 65536 in
theorem w_c36 : (Jvm.Cond.code ({ cls := "java/util/Arrays", name := "checkLength", desc := "(II)V" } : Jvm.MethodName) jdk_65_method_131_code (2 : Nat) (Option.none : Option Jvm.ClassFile.FieldType)).before args0 about1 = true := code_word (m := ⟨14, 1⟩) (meth := k14m1) (c := k14c1) (by decide +kernel) rfl rfl rfl (by decide +kernel)
set_option maxRecDepth 65536 in
theorem w_c37 : (Jvm.Cond.code ({ cls := "java/lang/String", name := "<init>", desc := "([BB)V" } : Jvm.MethodName) jdk_42_method_151_code (3 : Nat) (Option.none : Option Jvm.ClassFile.FieldType)).before args0 about1 = true := code_word (m := ⟨7, 10⟩) (meth := k7m10) (c := k7c10) (by decide +kernel) rfl rfl rfl (by decide +kernel)
set_option maxRecDepth 65536 in
theorem w_c38 : (Jvm.Cond.code ({ cls := "java/lang/String", name := "substring", desc := "(II)Ljava/lang/String;" } : Jvm.MethodName) jdk_42_method_92_code (5 : Nat) (Option.some (Jvm.ClassFile.FieldType.object "java/lang/String"))).before args0 about1 = true := code_word (m := ⟨7, 7⟩) (meth := k7m7) (c := k7c7) (by decide +kernel) rfl rfl rfl (by decide +kernel)
set_option maxRecDepth 65536 in
theorem w_c39 : (Jvm.Cond.code ({ cls := "java/lang/String", name := "checkBoundsBeginEnd", desc := "(III)V" } : Jvm.MethodName) jdk_42_method_158_code (3 : Nat) (Option.none : Option Jvm.ClassFile.FieldType)).before args0 about1 = true := code_word (m := ⟨7, 13⟩) (meth := k7m13) (c := k7c13) (by decide +kernel) rfl rfl rfl (by decide +kernel)
set_option maxRecDepth 65536 in
theorem w_c40 : (Jvm.Cond.code ({ cls := "jdk/internal/util/Preconditions", name := "checkFromToIndex", desc := "(IIILjava/util/function/BiFunction;)I" } : Jvm.MethodName) jdk_41_method_12_code (4 : Nat) (Option.some Jvm.ClassFile.FieldType.int)).before args0 about1 = true := code_word (m := ⟨16, 1⟩) (meth := k16m1) (c := k16c1) (by decide +kernel) rfl rfl rfl (by decide +kernel)
def codes1 : List Jvm.Cond := [Jvm.Cond.code x code maxLocals ret, Jvm.Cond.code ({ cls := "com/example/gentle_hub/gentlehub/server/MediaTypesNamesPinLaw", name := "str", desc := "([CI)Ljava/lang/String;" } : Jvm.MethodName) method_3_code (2 : Nat) (Option.some (Jvm.ClassFile.FieldType.object "java/lang/String")), Jvm.Cond.code ({ cls := "java/lang/String", name := "<init>", desc := "([C)V" } : Jvm.MethodName) jdk_42_method_3_code (2 : Nat) (Option.none : Option Jvm.ClassFile.FieldType), Jvm.Cond.code ({ cls := "java/lang/String", name := "<init>", desc := "([CIILjava/lang/Void;)V" } : Jvm.MethodName) jdk_42_method_149_code (6 : Nat) (Option.none : Option Jvm.ClassFile.FieldType), Jvm.Cond.code ({ cls := "java/lang/Object", name := "<init>", desc := "()V" } : Jvm.MethodName) object_method_1_code (1 : Nat) (Option.none : Option Jvm.ClassFile.FieldType), Jvm.Cond.code ({ cls := "java/lang/StringUTF16", name := "compress", desc := "([CII)[B" } : Jvm.MethodName) jdk_52_method_16_code (6 : Nat) (Option.some (Jvm.ClassFile.FieldType.array Jvm.ClassFile.FieldType.byte)), Jvm.Cond.code ({ cls := "java/lang/StringUTF16", name := "compress", desc := "([CI[BII)I" } : Jvm.MethodName) jdk_52_method_21_code (7 : Nat) (Option.some Jvm.ClassFile.FieldType.int), Jvm.Cond.code ({ cls := "java/lang/StringUTF16", name := "coderFromArrayLen", desc := "([BI)B" } : Jvm.MethodName) jdk_52_method_15_code (2 : Nat) (Option.some Jvm.ClassFile.FieldType.byte), Jvm.Cond.code ({ cls := "com/example/gentle_hub/gentlehub/server/MediaTypes", name := "names", desc := "(Ljava/lang/String;Ljava/lang/String;)Z" } : Jvm.MethodName) prog_25_method_2_code (4 : Nat) (Option.some Jvm.ClassFile.FieldType.boolean), Jvm.Cond.code ({ cls := "java/lang/String", name := "indexOf", desc := "(I)I" } : Jvm.MethodName) jdk_42_method_79_code (2 : Nat) (Option.some Jvm.ClassFile.FieldType.int), Jvm.Cond.code ({ cls := "java/lang/String", name := "indexOf", desc := "(II)I" } : Jvm.MethodName) jdk_42_method_80_code (3 : Nat) (Option.some Jvm.ClassFile.FieldType.int), Jvm.Cond.code ({ cls := "java/lang/String", name := "isLatin1", desc := "()Z" } : Jvm.MethodName) jdk_42_method_154_code (1 : Nat) (Option.some Jvm.ClassFile.FieldType.boolean), Jvm.Cond.code ({ cls := "java/lang/String", name := "length", desc := "()I" } : Jvm.MethodName) jdk_42_method_54_code (1 : Nat) (Option.some Jvm.ClassFile.FieldType.int), Jvm.Cond.code ({ cls := "java/lang/String", name := "coder", desc := "()B" } : Jvm.MethodName) jdk_42_method_152_code (1 : Nat) (Option.some Jvm.ClassFile.FieldType.byte), Jvm.Cond.code ({ cls := "java/lang/StringLatin1", name := "indexOf", desc := "([BIII)I" } : Jvm.MethodName) jdk_43_method_22_code (4 : Nat) (Option.some Jvm.ClassFile.FieldType.int), Jvm.Cond.code ({ cls := "java/lang/StringLatin1", name := "canEncode", desc := "(I)Z" } : Jvm.MethodName) jdk_43_method_4_code (1 : Nat) (Option.some Jvm.ClassFile.FieldType.boolean), Jvm.Cond.code ({ cls := "java/lang/Math", name := "max", desc := "(II)I" } : Jvm.MethodName) jdk_29_method_65_code (2 : Nat) (Option.some Jvm.ClassFile.FieldType.int), Jvm.Cond.code ({ cls := "java/lang/Math", name := "min", desc := "(II)I" } : Jvm.MethodName) jdk_29_method_69_code (2 : Nat) (Option.some Jvm.ClassFile.FieldType.int), Jvm.Cond.code ({ cls := "java/lang/StringLatin1", name := "indexOfChar", desc := "([BIII)I" } : Jvm.MethodName) jdk_43_method_23_code (6 : Nat) (Option.some Jvm.ClassFile.FieldType.int), Jvm.Cond.code ({ cls := "java/lang/String", name := "strip", desc := "()Ljava/lang/String;" } : Jvm.MethodName) jdk_42_method_114_code (2 : Nat) (Option.some (Jvm.ClassFile.FieldType.object "java/lang/String")), Jvm.Cond.code ({ cls := "java/lang/StringLatin1", name := "strip", desc := "([B)Ljava/lang/String;" } : Jvm.MethodName) jdk_43_method_39_code (4 : Nat) (Option.some (Jvm.ClassFile.FieldType.object "java/lang/String")), Jvm.Cond.code ({ cls := "java/lang/StringLatin1", name := "indexOfNonWhitespace", desc := "([B)I" } : Jvm.MethodName) jdk_43_method_37_code (4 : Nat) (Option.some Jvm.ClassFile.FieldType.int), Jvm.Cond.code ({ cls := "java/lang/StringLatin1", name := "getChar", desc := "([BI)C" } : Jvm.MethodName) jdk_43_method_44_code (2 : Nat) (Option.some Jvm.ClassFile.FieldType.char), Jvm.Cond.code ({ cls := "java/lang/CharacterDataLatin1", name := "isWhitespace", desc := "(I)Z" } : Jvm.MethodName) jdk_116_method_26_code (3 : Nat) (Option.some Jvm.ClassFile.FieldType.boolean), Jvm.Cond.code ({ cls := "java/lang/CharacterDataLatin1", name := "getProperties", desc := "(I)I" } : Jvm.MethodName) jdk_116_method_1_code (4 : Nat) (Option.some Jvm.ClassFile.FieldType.int), Jvm.Cond.code ({ cls := "java/lang/StringLatin1", name := "lastIndexOfNonWhitespace", desc := "([B)I" } : Jvm.MethodName) jdk_43_method_38_code (4 : Nat) (Option.some Jvm.ClassFile.FieldType.int), Jvm.Cond.code ({ cls := "java/lang/String", name := "equalsIgnoreCase", desc := "(Ljava/lang/String;)Z" } : Jvm.MethodName) jdk_42_method_70_code (2 : Nat) (Option.some Jvm.ClassFile.FieldType.boolean), Jvm.Cond.code ({ cls := "com/example/gentle_hub/gentlehub/server/MediaTypesNamesPinLaw", name := "expected", desc := "([CI[CI)Z" } : Jvm.MethodName) method_6_code (9 : Nat) (Option.some Jvm.ClassFile.FieldType.boolean), Jvm.Cond.code ({ cls := "com/example/gentle_hub/gentlehub/server/MediaTypesNamesPinLaw", name := "ws", desc := "(C)Z" } : Jvm.MethodName) method_4_code (1 : Nat) (Option.some Jvm.ClassFile.FieldType.boolean), Jvm.Cond.code ({ cls := "java/lang/String", name := "regionMatches", desc := "(ZILjava/lang/String;II)Z" } : Jvm.MethodName) jdk_42_method_74_code (9 : Nat) (Option.some Jvm.ClassFile.FieldType.boolean), Jvm.Cond.code ({ cls := "java/lang/StringLatin1", name := "regionMatchesCI", desc := "([BI[BII)Z" } : Jvm.MethodName) jdk_43_method_30_code (8 : Nat) (Option.some Jvm.ClassFile.FieldType.boolean), Jvm.Cond.code ({ cls := "java/lang/CharacterDataLatin1", name := "equalsIgnoreCase", desc := "(BB)Z" } : Jvm.MethodName) jdk_116_method_22_code (3 : Nat) (Option.some Jvm.ClassFile.FieldType.boolean), Jvm.Cond.code ({ cls := "com/example/gentle_hub/gentlehub/server/MediaTypesNamesPinLaw", name := "fold", desc := "(C)I" } : Jvm.MethodName) method_5_code (1 : Nat) (Option.some Jvm.ClassFile.FieldType.int), Jvm.Cond.code ({ cls := "java/lang/StringLatin1", name := "newString", desc := "([BII)Ljava/lang/String;" } : Jvm.MethodName) jdk_43_method_47_code (3 : Nat) (Option.some (Jvm.ClassFile.FieldType.object "java/lang/String")), Jvm.Cond.code ({ cls := "java/util/Arrays", name := "copyOfRange", desc := "([BII)[B" } : Jvm.MethodName) jdk_65_method_132_code (3 : Nat) (Option.some (Jvm.ClassFile.FieldType.array Jvm.ClassFile.FieldType.byte)), Jvm.Cond.code ({ cls := "java/util/Arrays", name := "copyOfRangeByte", desc := "([BII)[B" } : Jvm.MethodName) jdk_65_method_133_code (5 : Nat) (Option.some (Jvm.ClassFile.FieldType.array Jvm.ClassFile.FieldType.byte)), Jvm.Cond.code ({ cls := "java/util/Arrays", name := "checkLength", desc := "(II)V" } : Jvm.MethodName) jdk_65_method_131_code (2 : Nat) (Option.none : Option Jvm.ClassFile.FieldType), Jvm.Cond.code ({ cls := "java/lang/String", name := "<init>", desc := "([BB)V" } : Jvm.MethodName) jdk_42_method_151_code (3 : Nat) (Option.none : Option Jvm.ClassFile.FieldType), Jvm.Cond.code ({ cls := "java/lang/String", name := "substring", desc := "(II)Ljava/lang/String;" } : Jvm.MethodName) jdk_42_method_92_code (5 : Nat) (Option.some (Jvm.ClassFile.FieldType.object "java/lang/String")), Jvm.Cond.code ({ cls := "java/lang/String", name := "checkBoundsBeginEnd", desc := "(III)V" } : Jvm.MethodName) jdk_42_method_158_code (3 : Nat) (Option.none : Option Jvm.ClassFile.FieldType), Jvm.Cond.code ({ cls := "jdk/internal/util/Preconditions", name := "checkFromToIndex", desc := "(IIILjava/util/function/BiFunction;)I" } : Jvm.MethodName) jdk_41_method_12_code (4 : Nat) (Option.some Jvm.ClassFile.FieldType.int)]
set_option maxRecDepth 65536 in
theorem codes_eq : words1.filter isCode = codes1 := rfl
theorem w_codes : ∀ c ∈ words1.filter isCode, c.before args0 about1 = true := by
  rw [codes_eq]
  intro c hc
  simp only [codes1, List.mem_cons, List.not_mem_nil, or_false] at hc
  rcases hc with rfl | rfl | rfl | rfl | rfl | rfl | rfl | rfl | rfl | rfl | rfl | rfl | rfl | rfl | rfl | rfl | rfl | rfl | rfl | rfl | rfl | rfl | rfl | rfl | rfl | rfl | rfl | rfl | rfl | rfl | rfl | rfl | rfl | rfl | rfl | rfl | rfl | rfl | rfl | rfl | rfl
  · exact w_c0
  · exact w_c1
  · exact w_c2
  · exact w_c3
  · exact w_c4
  · exact w_c5
  · exact w_c6
  · exact w_c7
  · exact w_c8
  · exact w_c9
  · exact w_c10
  · exact w_c11
  · exact w_c12
  · exact w_c13
  · exact w_c14
  · exact w_c15
  · exact w_c16
  · exact w_c17
  · exact w_c18
  · exact w_c19
  · exact w_c20
  · exact w_c21
  · exact w_c22
  · exact w_c23
  · exact w_c24
  · exact w_c25
  · exact w_c26
  · exact w_c27
  · exact w_c28
  · exact w_c29
  · exact w_c30
  · exact w_c31
  · exact w_c32
  · exact w_c33
  · exact w_c34
  · exact w_c35
  · exact w_c36
  · exact w_c37
  · exact w_c38
  · exact w_c39
  · exact w_c40
set_option maxRecDepth 65536 in
theorem w_t1 : (words1.take 24).all (fun c => isCode c || c.before args0 about1) = true := by decide +kernel
set_option maxRecDepth 65536 in
theorem w_t2 : ((words1.drop 24).take 24).all (fun c => isCode c || c.before args0 about1) = true := by decide +kernel
set_option maxRecDepth 65536 in
theorem w_t3 : (((words1.drop 24).drop 24).take 24).all (fun c => isCode c || c.before args0 about1) = true := by decide +kernel
set_option maxRecDepth 65536 in
theorem w_t4 : ((((words1.drop 24).drop 24).drop 24).take 24).all (fun c => isCode c || c.before args0 about1) = true := by decide +kernel
set_option maxRecDepth 65536 in
theorem w_t5 : (((((words1.drop 24).drop 24).drop 24).drop 24).take 24).all (fun c => isCode c || c.before args0 about1) = true := by decide +kernel
set_option maxRecDepth 65536 in
theorem w_t6 : ((((((words1.drop 24).drop 24).drop 24).drop 24).drop 24).take 24).all (fun c => isCode c || c.before args0 about1) = true := by decide +kernel
set_option maxRecDepth 65536 in
theorem w_t7 : (((((((words1.drop 24).drop 24).drop 24).drop 24).drop 24).drop 24).take 24).all (fun c => isCode c || c.before args0 about1) = true := by decide +kernel
set_option maxRecDepth 65536 in
theorem w_t8 : (((((((words1.drop 24).drop 24).drop 24).drop 24).drop 24).drop 24).drop 24).all (fun c => isCode c || c.before args0 about1) = true := by decide +kernel
theorem w_tables : (allAtoms (Jvm.Cond.code x code maxLocals ret :: tables_1)).before args0 about1 = true := by
  rw [allAtoms_all]
  show words1.all (fun c => c.before args0 about1) = true
  refine all_split ?_ w_codes
  rw [← List.take_append_drop 24 words1, List.all_append, w_t1, ← List.take_append_drop 24 (words1.drop 24), List.all_append, w_t2, ← List.take_append_drop 24 ((words1.drop 24).drop 24), List.all_append, w_t3, ← List.take_append_drop 24 (((words1.drop 24).drop 24).drop 24), List.all_append, w_t4, ← List.take_append_drop 24 ((((words1.drop 24).drop 24).drop 24).drop 24), List.all_append, w_t5, ← List.take_append_drop 24 (((((words1.drop 24).drop 24).drop 24).drop 24).drop 24), List.all_append, w_t6, ← List.take_append_drop 24 ((((((words1.drop 24).drop 24).drop 24).drop 24).drop 24).drop 24), List.all_append, w_t7, w_t8]
  rfl
set_option maxRecDepth 65536 in
theorem w_rest : rest_1_c.before args0 about1 = true := by decide +kernel
set_option maxRecDepth 65536 in
theorem w_case : (Jvm.Cond.and given_1 narrow_1).before args0 about1 = true := by decide +kernel
set_option maxRecDepth 65536 in
theorem w_consts : constsHeld consts_1 about1 := Jvm.Lit.constsHeldB_iff.mp (by decide +kernel)
theorem w_applies : (headSpec (Jvm.Cond.code x code maxLocals ret :: tables_1) room_1).applies x e0.platform about1 = true :=
  (Spec.applies_iff w_frames).mpr ⟨w_running, w_runnable, w_alone, w_named, w_hears, w_ripe, w_room, w_tables⟩
theorem atStart : AtStart classFile x code maxLocals ret World_1 tables_1 room_1 Calls_1 rest_1 Pre_1 launch0 p0 e0 about1 theMethod args0 below0 :=
  ⟨lists_1, trivial, launch0.admits_env _ _ _, launch0.least_env, fairChoices_fair.cas, fairChoices_fair.clock, w_frames, w_args, w_heap, w_applies, ⟨w_consts, trivial⟩, w_rest, w_case⟩
end start1
theorem witness_1 : WitnessClaimed_1 := ⟨start1.p0, start1.e0, start1.about1, start1.theMethod, start1.args0, start1.below0, start1.atStart⟩
end Jvm.Pilot.@@N@@
